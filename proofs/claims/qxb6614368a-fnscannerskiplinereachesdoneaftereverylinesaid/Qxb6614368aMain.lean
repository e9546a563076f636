/- The law's walk over a slice that is not nil: the two loops. -/
import Derived.Test.Qxb6614368aCallees
namespace Go.Proofs.Qxb6614368a
open Go.ChangeShapes Go.WideShapes Go.ChangeAt Go.RowKit Go.Deep
set_option linter.unusedVariables false
theorem map_cell (w : World) (z : List Int) (i : Nat) (h : i < z.length) : (w.alloc (.cells (z.map (Value.int .u8)).toArray 5)).cell? ⟨w.heap.size, i, none⟩ = some (.int .u8 (z.getD i 0)) := by
  rw [World.cell?_alloc_at _ _ _ _ rfl]
  simp [h, List.getD]
theorem clone_at (x : Addr) (len cap : Nat) (zs : List Int) (w : World) (hz : zs.length = len) (hl : len ≤ 65536) (hc : ∀ i, i < len → w.cell? (x.add i) = some (.int .u8 (zs.getD i 0))) :
    Calls Try.prog 5 #[.slice (some x) len cap] w fun e w' => ∃ D, e = .returned (.slice (some ⟨D, 0, none⟩) len len) ∧ D < w'.heap.size ∧ w.heap.size ≤ w'.heap.size ∧ Below w.heap.size w w' ∧ Hid (∀ i, i < len → w'.cell? ⟨D, i, none⟩ = some (.int .u8 (zs.getD i 0))) := by
  refine (clone_some x len cap zs w hz hl hc).mono ?_
  rintro e w' ⟨rfl, rfl⟩
  exact ⟨_, rfl, by simp, by simp, (Below.refl _ _).alloc (Nat.le_refl _) _, fun i hi => map_cell w zs i (by omega)⟩
/-- the same world, but for draws -/
def Lk (a b : World) : Prop := ∃ q, b = a.drewN q
theorem Lk.trans {a b c : World} (h : Lk a b) (k : Lk b c) : Lk a c := by
  obtain ⟨q, rfl⟩ := h; obtain ⟨r, rfl⟩ := k; exact ⟨q + r, by rw [World.drewN_drewN]⟩
theorem Lk.size {a b : World} (h : Lk a b) : b.heap.size = a.heap.size := by obtain ⟨q, rfl⟩ := h; rfl
theorem Lk.cell {a b : World} (h : Lk a b) (x : Addr) : b.cell? x = a.cell? x := by obtain ⟨q, rfl⟩ := h; rfl
theorem Lk.below {B : Nat} {w a b : World} (h : Lk a b) (k : Below B w a) : Below B w b := by
  obtain ⟨q, rfl⟩ := h; exact k.trans ⟨rfl, rfl, rfl, Nat.le_refl _, fun _ _ => rfl⟩
def scO (D len : Nat) (p l : Int) : Obj := .cells #[.slice (some ⟨D, 0, none⟩) len len, .int .i64 p, .int .i64 l] 31
theorem new_at (D len : Nat) (p l : Int) (w : World) :
    Calls Try.prog 6 #[.slice (some ⟨D, 0, none⟩) len len, .int .i64 p, .int .i64 l] w fun e w' => ∃ S w0, e = .returned (.pointer (some ⟨S, 0, none⟩)) ∧ Hid (S = w0.heap.size) ∧ Hid (Lk w w0) ∧ w' = w0.alloc (scO D len p l) := by
  go_enter Try.func6, Try.ntmps6
  go_wp2
  go_ret
  exact ⟨_, w, rfl, rfl, ⟨0, rfl⟩, rfl⟩
theorem done_at (S : Nat) (w0 : World) (D len : Nat) (p l : Int) (hS : Hid (S = w0.heap.size)) :
    Calls Try.prog 7 #[.pointer (some ⟨S, 0, none⟩)] (w0.alloc (scO D len p l)) fun e w' => ∃ w2, e = .returned (.bool (decide ((len : Int) ≤ p))) ∧ Hid (S = w2.heap.size) ∧ Hid (Lk w0 w2) ∧ w' = w2.alloc (scO D len p l) := by
  have e := hS.out; subst e
  refine (done_any w0 (some ⟨D, 0, none⟩) len len p l).mono ?_
  rintro e w' ⟨rfl, q, rfl⟩
  exact ⟨w0.drewN q, rfl, rfl, ⟨q, rfl⟩, rfl⟩
theorem done_no (S : Nat) (w0 : World) (D len : Nat) (p l : Int) (hS : Hid (S = w0.heap.size)) (h : p < (len : Int)) :
    Calls Try.prog 7 #[.pointer (some ⟨S, 0, none⟩)] (w0.alloc (scO D len p l)) fun e w' => ∃ w2, e = .returned (.bool false) ∧ Hid (S = w2.heap.size) ∧ Hid (Lk w0 w2) ∧ w' = w2.alloc (scO D len p l) := by
  have k := done_at S w0 D len p l hS
  rw [decide_eq_false (show ¬ (len : Int) ≤ p by omega)] at k
  exact k
theorem done_yes (S : Nat) (w0 : World) (D len : Nat) (p l : Int) (hS : Hid (S = w0.heap.size)) (h : (len : Int) ≤ p) :
    Calls Try.prog 7 #[.pointer (some ⟨S, 0, none⟩)] (w0.alloc (scO D len p l)) fun e w' => ∃ w2, e = .returned (.bool true) ∧ Hid (S = w2.heap.size) ∧ Hid (Lk w0 w2) ∧ w' = w2.alloc (scO D len p l) := by
  have k := done_at S w0 D len p l hS
  rw [decide_eq_true h] at k
  exact k
theorem pos_at (S : Nat) (w0 : World) (D len : Nat) (p l : Int) (hS : Hid (S = w0.heap.size)) :
    Calls Try.prog 9 #[.pointer (some ⟨S, 0, none⟩)] (w0.alloc (scO D len p l)) fun e w' => e = .returned (.int .i64 p) ∧ w' = w0.alloc (scO D len p l) := by
  have e := hS.out; subst e
  unfold scO
  go_enter Try.func9, Try.ntmps9
  go_wp2
  go_ret
  exact ⟨rfl, rfl⟩
theorem line_at (S : Nat) (w0 : World) (D len : Nat) (p l : Int) (hS : Hid (S = w0.heap.size)) :
    Calls Try.prog 10 #[.pointer (some ⟨S, 0, none⟩)] (w0.alloc (scO D len p l)) fun e w' => e = .returned (.int .i64 l) ∧ w' = w0.alloc (scO D len p l) := by
  have e := hS.out; subst e
  unfold scO
  go_enter Try.func10, Try.ntmps10
  go_wp2
  go_ret
  exact ⟨rfl, rfl⟩
/-- one skipLine: the lines left are one less, the newlines left and the line add up as before -/
theorem skip_at (S : Nat) (w0 : World) (D len p : Nat) (l : Int) (z : List Int) (hS : Hid (S = w0.heap.size)) (hz : z.length = len) (hlen : len ≤ 65536) (hp : p < len) (hl0 : 0 ≤ l) (hl1 : l ≤ 1073807360) (hD : D < w0.heap.size)
    (hc : ∀ i, i < len → w0.cell? ⟨D, i, none⟩ = some (.int .u8 (z.getD i 0))) (hwf : ∀ n ∈ z, 0 ≤ n ∧ n ≤ 255) :
    Calls Try.prog 8 #[.pointer (some ⟨S, 0, none⟩)] (w0.alloc (scO D len p l)) fun e w' => ∃ w2 p' l', e = .returned (.tuple #[]) ∧ Hid (S = w2.heap.size) ∧ Hid (Lk w0 w2) ∧ w' = w2.alloc (scO D len (p' : Nat) l') ∧
      p' ≤ len ∧ l ≤ l' ∧ Hid (l' + (cnt (z.drop p') : Int) = l + (cnt (z.drop p) : Int)) ∧ Hid (1 + lns (z.drop p') = lns (z.drop p)) := by
  have e := hS.out; subst e
  rcases idx_cases (z.drop p) (fun n hn => hwf n (List.mem_of_mem_drop hn)) with ⟨i1, i2⟩ | ⟨k, k1, k2, k3, k4⟩
  · refine (skip_none w0 D len p l z hz hlen hp hD hc i1).mono ?_
    rintro e w' ⟨rfl, q, rfl⟩
    refine ⟨w0.drewN q, len, l, rfl, rfl, ⟨q, rfl⟩, rfl, Nat.le_refl _, Int.le_refl _, ?_, ?_⟩
    · show l + (cnt (z.drop len) : Int) = l + (cnt (z.drop p) : Int)
      rw [i2, List.drop_of_length_le (by omega), cnt_nil]
    · show 1 + lns (z.drop len) = lns (z.drop p)
      rw [lns_none (z.drop p) (by simp; omega) i2, List.drop_of_length_le (by omega), lns_nil]
  · have hk : p + k < len := by simp at k1; omega
    refine (skip_some w0 D len p k l z hz hlen hp hk hl0 hl1 hD hc k2).mono ?_
    rintro e w' ⟨rfl, q, rfl⟩
    refine ⟨w0.drewN q, p + (k + 1), l + 1, rfl, rfl, ⟨q, rfl⟩, rfl, by omega, by omega, ?_, ?_⟩
    · show l + 1 + (cnt (z.drop (p + (k + 1))) : Int) = l + (cnt (z.drop p) : Int)
      rw [skip3 k3]; omega
    · show 1 + lns (z.drop (p + (k + 1))) = lns (z.drop p)
      rw [lns_drop _ k k1 k4 k3, List.drop_drop]
theorem ret_bool {a : Bool} (h : a = true) : Ending.returned (.bool a) = .returned (.bool true) := by rw [h]
theorem cstep_t {z : List Int} {j n C len : Nat} (hlt : j < len) (hz : z.length = len) (h : (z[j]?.getD 0 == 10) = true) (hc : n + cnt (z.drop j) = C) : n + 1 + cnt (z.drop (j + 1)) = C := by
  have e := cnt_step z j (by omega)
  rw [List.getElem?_eq_getElem (by omega)] at h
  simp at h
  rw [if_pos h] at e
  omega
theorem cstep_f {z : List Int} {j n C len : Nat} (hlt : j < len) (hz : z.length = len) (h : (z[j]?.getD 0 == 10) = false) (hc : n + cnt (z.drop j) = C) : n + cnt (z.drop (j + 1)) = C := by
  have e := cnt_step z j (by omega)
  rw [List.getElem?_eq_getElem (by omega)] at h
  simp at h
  rw [if_neg h] at e
  omega
theorem want_t {z : List Int} {n pos len : Nat} (hz : z.length = len) (hp : pos < len) (h : (z[len - 1]?.getD 0 != 10) = true) (hc : n = cnt (z.drop pos)) : n + 1 = lns (z.drop pos) := by
  unfold lns
  rw [tl_last z pos (by omega), List.getD_eq_getElem?_getD, hz]
  simp at h
  rw [if_neg h]; omega
theorem want_f {z : List Int} {n pos len : Nat} (hz : z.length = len) (hp : pos < len) (h : (z[len - 1]?.getD 0 != 10) = false) (hc : n = cnt (z.drop pos)) : n = lns (z.drop pos) := by
  unfold lns
  rw [tl_last z pos (by omega), List.getD_eq_getElem?_getD, hz]
  simp at h
  rw [if_pos h]; omega
theorem want_e {z : List Int} {n pos len : Nat} (hz : z.length = len) (hp : len ≤ pos) (hc : n = cnt (z.drop pos)) : n = lns (z.drop pos) := by
  rw [List.drop_of_length_le (by omega)] at hc ⊢; exact hc
set_option maxHeartbeats 1000000 in
theorem main_some (x : Addr) (len cap : Nat) (z : List Int) (pos : Nat) (line : Int) (w : World) (hz : Hid (z.length = len)) (hl : len ≤ 65536)
    (hc : Hid (∀ i, i < len → w.cell? (x.add i) = some (.int .u8 (z.getD i 0)))) (hwf : Hid (∀ n ∈ z, 0 ≤ n ∧ n ≤ 255))
    (hp : pos ≤ len) (h1 : 1 ≤ line) (h2 : line ≤ 1073741824) :
    Calls Try.prog 3 #[.slice (some x) len cap, .int .i64 pos, .int .i64 line] w fun e w' => e = .returned (.bool true) ∧ Below w.heap.size w w' := by
  go_enter Try.func3, Try.ntmps3
  go_wp2_with (first | (go_at_call 5; refine (clone_at _ _ _ z _ hz.out hl hc.out).mono ?_; rintro e w1 ⟨D, rfl, hD, hs, hB, hcell⟩) | go_in)
  go_loop [7, 8] (fun n j => ∃ n' j' : Nat, pos ≤ j' ∧ j' ≤ len ∧ n' ≤ j' ∧ n = .int .i64 n' ∧ j = .int .i64 j' ∧ Hid (n' + cnt (z.drop j') = cnt (z.drop pos))) (fun _ j => len - (intOf j).toNat)
  case atStart => exact ⟨0, pos, Nat.le_refl _, hp, Nat.zero_le _, rfl, rfl, show Hid _ from by show 0 + _ = _; omega⟩
  case round =>
    obtain ⟨n, j, hj0, hj1, hn, rfl, rfl, hcn⟩ := hrel
    by_cases hlt : j < len
    · have hcj := hcell.out j hlt
      go_wp2
      · go_round
        case rel => exact ⟨n + 1, j + 1, by omega, by omega, by omega, by go_num, by go_num, cstep_t hlt hz.out (by assumption) hcn.out⟩
        case measure => simp [intOf]; omega
      · go_round
        case rel => exact ⟨n, j + 1, by omega, by omega, by omega, by go_num, by go_num, cstep_f hlt hz.out (by assumption) hcn.out⟩
        case measure => simp [intOf]; omega
    · have HN : Hid (n = cnt (z.drop pos)) := by
        have h := hcn.out
        rw [List.drop_of_length_le (show z.length ≤ j by rw [hz.out]; omega), cnt_nil] at h
        exact h
      clear hcn
      by_cases hpl : pos < len
      · have hcl := hcell.out (len - 1) (by omega)
        go_wp2_with (go_at_call 6; refine (new_at D len pos line _).mono ?_; rintro e w' ⟨S, w0, rfl, hS, hk, rfl⟩)
        · clear hcl
          have HW : Hid (n + 1 = lns (z.drop pos)) := want_t hz.out hpl (by assumption) HN.out
          go_loopw [11] (fun st wr => ∃ (s p : Nat) (l : Int) (w2 : World), st = .int .i64 s ∧ wr = w2.alloc (scO D len p l) ∧ p ≤ len ∧ 1 ≤ l ∧ Hid (S = w2.heap.size) ∧ Hid (Lk w1 w2) ∧ Hid (s + lns (z.drop p) = lns (z.drop pos)) ∧ Hid (l + (cnt (z.drop p) : Int) = line + (cnt (z.drop pos) : Int)))
            (fun st _ => len + 1 - (intOf st).toNat)
          case atStart => exact ⟨0, pos, line, w0, rfl, rfl, hp, h1, hS, hk, by show 0 + _ = _; omega, rfl⟩
          case round =>
            clear hS hk w0
            obtain ⟨s, p, l, w2, rfl, rfl, hpl2, hl1, hS, hk, hs2, hc2⟩ := hrel
            by_cases hlt2 : p < len
            · have hsl : s < len := by
                have q1 := hs2.out; have q2 := lns_pos (z.drop p) (by simp; rw [hz.out]; omega); have q3 := lns_le (z.drop pos); have q4 := hz.out
                simp at q3; omega
              have hl3 : l ≤ 1073807360 := by
                have q1 := hc2.out; have q2 := lns_le (z.drop pos); have q4 := hz.out
                unfold lns at q2
                simp at q2; omega
              go_wp2_with (first
                | (go_at_call 7; refine (done_no S _ D len p l hS (by omega)).mono ?_; rintro e w' ⟨w3, rfl, hS3, hk3, rfl⟩)
                | (go_at_call 8; refine (skip_at S _ D len p l z hS3 hz.out hl hlt2 (by omega) hl3 (by rw [hk3.out.size, hk.out.size]; exact hD) (fun i hi => by rw [hk3.out.cell, hk.out.cell]; exact hcell.out i hi) hwf.out).mono ?_; rintro e w' ⟨w4, p', l', rfl, hS4, hk4, rfl, hp4, hl4, hc4, hn4⟩))
              go_roundw
              case rel => exact ⟨s + 1, p', l', w4, by go_num, rfl, hp4, by omega, hS4, (hk.out.trans hk3.out).trans hk4.out, by show s + 1 + _ = _; have q1 := hs2.out; have q2 := hn4.out; omega, by show l' + _ = _; have q1 := hc2.out; have q2 := hc4.out; omega⟩
              case measure => simp [intOf]; omega
            · obtain rfl : p = len := by omega
              have hsw : Hid (s = n + 1) := by
                have q1 := hs2.out; have q2 := HW.out
                rw [List.drop_of_length_le (by rw [hz.out]; exact Nat.le_refl _), lns_nil] at q1
                show s = n + 1; omega
              have hlw : Hid (l = line + n) := by
                have q1 := hc2.out; have q2 := HN.out
                rw [List.drop_of_length_le (by rw [hz.out]; exact Nat.le_refl _), cnt_nil] at q1
                show l = line + n; omega
              go_wp2_with (first
                | (go_at_call 7; refine (done_yes S _ D p p l hS (by omega)).mono ?_; rintro e w' ⟨w3, rfl, hS3, hk3, rfl⟩)
                | (go_at_call 9; refine (pos_at S _ D p p l hS3).mono ?_; rintro e w' ⟨rfl, rfl⟩)
                | (go_at_call 10; refine (line_at S _ D p p l hS3).mono ?_; rintro e w' ⟨rfl, rfl⟩))
              · go_ret
                refine ⟨ret_bool ?_, ((hk.out.trans hk3.out).below hB).alloc ?_ _⟩
                · have q := hlw.out; simp [q]
                · rw [hk3.out.size, hk.out.size]; exact hs
              · exfalso; have q := hsw.out; omega
        · clear hcl
          have HW : Hid (n = lns (z.drop pos)) := want_f hz.out hpl (by assumption) HN.out
          go_loopw [11] (fun st wr => ∃ (s p : Nat) (l : Int) (w2 : World), st = .int .i64 s ∧ wr = w2.alloc (scO D len p l) ∧ p ≤ len ∧ 1 ≤ l ∧ Hid (S = w2.heap.size) ∧ Hid (Lk w1 w2) ∧ Hid (s + lns (z.drop p) = lns (z.drop pos)) ∧ Hid (l + (cnt (z.drop p) : Int) = line + (cnt (z.drop pos) : Int)))
            (fun st _ => len + 1 - (intOf st).toNat)
          case atStart => exact ⟨0, pos, line, w0, rfl, rfl, hp, h1, hS, hk, by show 0 + _ = _; omega, rfl⟩
          case round =>
            clear hS hk w0
            obtain ⟨s, p, l, w2, rfl, rfl, hpl2, hl1, hS, hk, hs2, hc2⟩ := hrel
            by_cases hlt2 : p < len
            · have hsl : s < len := by
                have q1 := hs2.out; have q2 := lns_pos (z.drop p) (by simp; rw [hz.out]; omega); have q3 := lns_le (z.drop pos); have q4 := hz.out
                simp at q3; omega
              have hl3 : l ≤ 1073807360 := by
                have q1 := hc2.out; have q2 := lns_le (z.drop pos); have q4 := hz.out
                unfold lns at q2
                simp at q2; omega
              go_wp2_with (first
                | (go_at_call 7; refine (done_no S _ D len p l hS (by omega)).mono ?_; rintro e w' ⟨w3, rfl, hS3, hk3, rfl⟩)
                | (go_at_call 8; refine (skip_at S _ D len p l z hS3 hz.out hl hlt2 (by omega) hl3 (by rw [hk3.out.size, hk.out.size]; exact hD) (fun i hi => by rw [hk3.out.cell, hk.out.cell]; exact hcell.out i hi) hwf.out).mono ?_; rintro e w' ⟨w4, p', l', rfl, hS4, hk4, rfl, hp4, hl4, hc4, hn4⟩))
              go_roundw
              case rel => exact ⟨s + 1, p', l', w4, by go_num, rfl, hp4, by omega, hS4, (hk.out.trans hk3.out).trans hk4.out, by show s + 1 + _ = _; have q1 := hs2.out; have q2 := hn4.out; omega, by show l' + _ = _; have q1 := hc2.out; have q2 := hc4.out; omega⟩
              case measure => simp [intOf]; omega
            · obtain rfl : p = len := by omega
              have hsw : Hid (s = n) := by
                have q1 := hs2.out; have q2 := HW.out
                rw [List.drop_of_length_le (by rw [hz.out]; exact Nat.le_refl _), lns_nil] at q1
                show s = n; omega
              have hlw : Hid (l = line + n) := by
                have q1 := hc2.out; have q2 := HN.out
                rw [List.drop_of_length_le (by rw [hz.out]; exact Nat.le_refl _), cnt_nil] at q1
                show l = line + n; omega
              go_wp2_with (first
                | (go_at_call 7; refine (done_yes S _ D p p l hS (by omega)).mono ?_; rintro e w' ⟨w3, rfl, hS3, hk3, rfl⟩)
                | (go_at_call 9; refine (pos_at S _ D p p l hS3).mono ?_; rintro e w' ⟨rfl, rfl⟩)
                | (go_at_call 10; refine (line_at S _ D p p l hS3).mono ?_; rintro e w' ⟨rfl, rfl⟩))
              · go_ret
                refine ⟨ret_bool ?_, ((hk.out.trans hk3.out).below hB).alloc ?_ _⟩
                · have q := hlw.out; simp [q]
                · rw [hk3.out.size, hk.out.size]; exact hs
              · exfalso; have q := hsw.out; omega
      · go_wp2_with (go_at_call 6; refine (new_at D len pos line _).mono ?_; rintro e w' ⟨S, w0, rfl, hS, hk, rfl⟩)
        have HW : Hid (n = lns (z.drop pos)) := want_e hz.out (by omega) HN.out
        go_loopw [11] (fun st wr => ∃ (s p : Nat) (l : Int) (w2 : World), st = .int .i64 s ∧ wr = w2.alloc (scO D len p l) ∧ p ≤ len ∧ 1 ≤ l ∧ Hid (S = w2.heap.size) ∧ Hid (Lk w1 w2) ∧ Hid (s + lns (z.drop p) = lns (z.drop pos)) ∧ Hid (l + (cnt (z.drop p) : Int) = line + (cnt (z.drop pos) : Int)))
          (fun st _ => len + 1 - (intOf st).toNat)
        case atStart => exact ⟨0, pos, line, w0, rfl, rfl, hp, h1, hS, hk, by show 0 + _ = _; omega, rfl⟩
        case round =>
          clear hS hk w0
          obtain ⟨s, p, l, w2, rfl, rfl, hpl2, hl1, hS, hk, hs2, hc2⟩ := hrel
          by_cases hlt2 : p < len
          · have hsl : s < len := by
              have q1 := hs2.out; have q2 := lns_pos (z.drop p) (by simp; rw [hz.out]; omega); have q3 := lns_le (z.drop pos); have q4 := hz.out
              simp at q3; omega
            have hl3 : l ≤ 1073807360 := by
              have q1 := hc2.out; have q2 := lns_le (z.drop pos); have q4 := hz.out
              unfold lns at q2
              simp at q2; omega
            go_wp2_with (first
              | (go_at_call 7; refine (done_no S _ D len p l hS (by omega)).mono ?_; rintro e w' ⟨w3, rfl, hS3, hk3, rfl⟩)
              | (go_at_call 8; refine (skip_at S _ D len p l z hS3 hz.out hl hlt2 (by omega) hl3 (by rw [hk3.out.size, hk.out.size]; exact hD) (fun i hi => by rw [hk3.out.cell, hk.out.cell]; exact hcell.out i hi) hwf.out).mono ?_; rintro e w' ⟨w4, p', l', rfl, hS4, hk4, rfl, hp4, hl4, hc4, hn4⟩))
            go_roundw
            case rel => exact ⟨s + 1, p', l', w4, by go_num, rfl, hp4, by omega, hS4, (hk.out.trans hk3.out).trans hk4.out, by show s + 1 + _ = _; have q1 := hs2.out; have q2 := hn4.out; omega, by show l' + _ = _; have q1 := hc2.out; have q2 := hc4.out; omega⟩
            case measure => simp [intOf]; omega
          · obtain rfl : p = len := by omega
            have hsw : Hid (s = n) := by
              have q1 := hs2.out; have q2 := HW.out
              rw [List.drop_of_length_le (by rw [hz.out]; exact Nat.le_refl _), lns_nil] at q1
              show s = n; omega
            have hlw : Hid (l = line + n) := by
              have q1 := hc2.out; have q2 := HN.out
              rw [List.drop_of_length_le (by rw [hz.out]; exact Nat.le_refl _), cnt_nil] at q1
              show l = line + n; omega
            go_wp2_with (first
              | (go_at_call 7; refine (done_yes S _ D p p l hS (by omega)).mono ?_; rintro e w' ⟨w3, rfl, hS3, hk3, rfl⟩)
              | (go_at_call 9; refine (pos_at S _ D p p l hS3).mono ?_; rintro e w' ⟨rfl, rfl⟩)
              | (go_at_call 10; refine (line_at S _ D p p l hS3).mono ?_; rintro e w' ⟨rfl, rfl⟩))
            · go_ret
              refine ⟨ret_bool ?_, ((hk.out.trans hk3.out).below hB).alloc ?_ _⟩
              · have q := hlw.out; simp [q]
              · rw [hk3.out.size, hk.out.size]; exact hs
            · exfalso; have q := hsw.out; omega
end Go.Proofs.Qxb6614368a
