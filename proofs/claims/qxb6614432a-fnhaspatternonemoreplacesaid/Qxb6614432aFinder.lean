/- The contract of strings.makeStringFinder at the word. -/
import Derived.Test.Qxb6614432aSingle

namespace Go.Proofs.Qxb6614432a
open Go.ChangeShapes Go.WideShapes Go.ChangeAt Go.RowKit Go.Deep
set_option linter.unusedVariables false
set_option maxHeartbeats 400000 in
set_option maxRecDepth 20000 in
theorem hpf6 (w : World) : Calls Try.prog 48 #[.string ⟨#[80, 65, 84, 84, 69, 82, 78]⟩, .string ⟨#[]⟩] w fun e w' => e = .returned (.bool true) ∧ w = w' := by
  have h1 : ∀ wx, (Instr.slice 9 (.string ⟨#[80, 65, 84, 84, 69, 82, 78]⟩) none (some (.int .i64 0)) none).run Try.prog wx = .ok (.string ⟨#[]⟩) wx := fun _ => by kernel_rfl
  have h2 : ∀ wx, (binOp .eql 9 (.string ⟨#[]⟩) (.string ⟨#[]⟩)).run Try.prog wx = .ok (.bool true) wx := fun _ => by kernel_rfl
  go_enter Try.func48, Try.ntmps48
  go_wp2
  go_ret
  exact ⟨rfl, rfl⟩
set_option maxHeartbeats 400000 in
set_option maxRecDepth 20000 in
theorem hpf5 (w : World) : Calls Try.prog 48 #[.string ⟨#[80, 65, 84, 84, 69, 82, 78]⟩, .string ⟨#[78]⟩] w fun e w' => e = .returned (.bool false) ∧ w = w' := by
  have h1 : ∀ wx, (Instr.slice 9 (.string ⟨#[80, 65, 84, 84, 69, 82, 78]⟩) none (some (.int .i64 1)) none).run Try.prog wx = .ok (.string ⟨#[80]⟩) wx := fun _ => by kernel_rfl
  have h2 : ∀ wx, (binOp .eql 9 (.string ⟨#[80]⟩) (.string ⟨#[78]⟩)).run Try.prog wx = .ok (.bool false) wx := fun _ => by kernel_rfl
  go_enter Try.func48, Try.ntmps48
  go_wp2
  go_ret
  exact ⟨rfl, rfl⟩
set_option maxHeartbeats 400000 in
set_option maxRecDepth 20000 in
theorem hpf4 (w : World) : Calls Try.prog 48 #[.string ⟨#[80, 65, 84, 84, 69, 82, 78]⟩, .string ⟨#[82, 78]⟩] w fun e w' => e = .returned (.bool false) ∧ w = w' := by
  have h1 : ∀ wx, (Instr.slice 9 (.string ⟨#[80, 65, 84, 84, 69, 82, 78]⟩) none (some (.int .i64 2)) none).run Try.prog wx = .ok (.string ⟨#[80, 65]⟩) wx := fun _ => by kernel_rfl
  have h2 : ∀ wx, (binOp .eql 9 (.string ⟨#[80, 65]⟩) (.string ⟨#[82, 78]⟩)).run Try.prog wx = .ok (.bool false) wx := fun _ => by kernel_rfl
  go_enter Try.func48, Try.ntmps48
  go_wp2
  go_ret
  exact ⟨rfl, rfl⟩
set_option maxHeartbeats 400000 in
set_option maxRecDepth 20000 in
theorem hpf3 (w : World) : Calls Try.prog 48 #[.string ⟨#[80, 65, 84, 84, 69, 82, 78]⟩, .string ⟨#[69, 82, 78]⟩] w fun e w' => e = .returned (.bool false) ∧ w = w' := by
  have h1 : ∀ wx, (Instr.slice 9 (.string ⟨#[80, 65, 84, 84, 69, 82, 78]⟩) none (some (.int .i64 3)) none).run Try.prog wx = .ok (.string ⟨#[80, 65, 84]⟩) wx := fun _ => by kernel_rfl
  have h2 : ∀ wx, (binOp .eql 9 (.string ⟨#[80, 65, 84]⟩) (.string ⟨#[69, 82, 78]⟩)).run Try.prog wx = .ok (.bool false) wx := fun _ => by kernel_rfl
  go_enter Try.func48, Try.ntmps48
  go_wp2
  go_ret
  exact ⟨rfl, rfl⟩
set_option maxHeartbeats 400000 in
set_option maxRecDepth 20000 in
theorem hpf2 (w : World) : Calls Try.prog 48 #[.string ⟨#[80, 65, 84, 84, 69, 82, 78]⟩, .string ⟨#[84, 69, 82, 78]⟩] w fun e w' => e = .returned (.bool false) ∧ w = w' := by
  have h1 : ∀ wx, (Instr.slice 9 (.string ⟨#[80, 65, 84, 84, 69, 82, 78]⟩) none (some (.int .i64 4)) none).run Try.prog wx = .ok (.string ⟨#[80, 65, 84, 84]⟩) wx := fun _ => by kernel_rfl
  have h2 : ∀ wx, (binOp .eql 9 (.string ⟨#[80, 65, 84, 84]⟩) (.string ⟨#[84, 69, 82, 78]⟩)).run Try.prog wx = .ok (.bool false) wx := fun _ => by kernel_rfl
  go_enter Try.func48, Try.ntmps48
  go_wp2
  go_ret
  exact ⟨rfl, rfl⟩
set_option maxHeartbeats 400000 in
set_option maxRecDepth 20000 in
theorem hpf1 (w : World) : Calls Try.prog 48 #[.string ⟨#[80, 65, 84, 84, 69, 82, 78]⟩, .string ⟨#[84, 84, 69, 82, 78]⟩] w fun e w' => e = .returned (.bool false) ∧ w = w' := by
  have h1 : ∀ wx, (Instr.slice 9 (.string ⟨#[80, 65, 84, 84, 69, 82, 78]⟩) none (some (.int .i64 5)) none).run Try.prog wx = .ok (.string ⟨#[80, 65, 84, 84, 69]⟩) wx := fun _ => by kernel_rfl
  have h2 : ∀ wx, (binOp .eql 9 (.string ⟨#[80, 65, 84, 84, 69]⟩) (.string ⟨#[84, 84, 69, 82, 78]⟩)).run Try.prog wx = .ok (.bool false) wx := fun _ => by kernel_rfl
  go_enter Try.func48, Try.ntmps48
  go_wp2
  go_ret
  exact ⟨rfl, rfl⟩
set_option maxHeartbeats 400000 in
set_option maxRecDepth 20000 in
theorem hpf0 (w : World) : Calls Try.prog 48 #[.string ⟨#[80, 65, 84, 84, 69, 82, 78]⟩, .string ⟨#[65, 84, 84, 69, 82, 78]⟩] w fun e w' => e = .returned (.bool false) ∧ w = w' := by
  have h1 : ∀ wx, (Instr.slice 9 (.string ⟨#[80, 65, 84, 84, 69, 82, 78]⟩) none (some (.int .i64 6)) none).run Try.prog wx = .ok (.string ⟨#[80, 65, 84, 84, 69, 82]⟩) wx := fun _ => by kernel_rfl
  have h2 : ∀ wx, (binOp .eql 9 (.string ⟨#[80, 65, 84, 84, 69, 82]⟩) (.string ⟨#[65, 84, 84, 69, 82, 78]⟩)).run Try.prog wx = .ok (.bool false) wx := fun _ => by kernel_rfl
  go_enter Try.func48, Try.ntmps48
  go_wp2
  go_ret
  exact ⟨rfl, rfl⟩
set_option maxHeartbeats 400000 in
set_option maxRecDepth 20000 in
theorem lcs0 (w : World) : Calls Try.prog 49 #[.string ⟨#[80, 65, 84, 84, 69, 82, 78]⟩, .string ⟨#[]⟩] w fun e w' => e = .returned (.int .i64 0) ∧ ∃ q, w' = w.drewN q := by
  go_enter Try.func49, Try.ntmps49
  go_wp2
  refine wp_loop_rounds 1 ?_
  rw [rounds_succ]
  go_wp2
  go_ret
  exact ⟨rfl, 0, rfl⟩
set_option maxHeartbeats 400000 in
set_option maxRecDepth 20000 in
theorem lcs1 (w : World) : Calls Try.prog 49 #[.string ⟨#[80, 65, 84, 84, 69, 82, 78]⟩, .string ⟨#[65]⟩] w fun e w' => e = .returned (.int .i64 0) ∧ ∃ q, w' = w.drewN q := by
  have h1 : ∀ wx, (Instr.index 9 (.string ⟨#[80, 65, 84, 84, 69, 82, 78]⟩) (.int .i64 6)).run Try.prog wx = .ok (.int .u8 78) wx := fun _ => by kernel_rfl
  have h2 : ∀ wx, (Instr.index 9 (.string ⟨#[65]⟩) (.int .i64 0)).run Try.prog wx = .ok (.int .u8 65) wx := fun _ => by kernel_rfl
  go_enter Try.func49, Try.ntmps49
  go_wp2
  refine wp_loop_rounds 1 ?_
  rw [rounds_succ]
  go_wp2
  go_quiet (fail)
  go_wp2
  go_ret
  exact ⟨rfl, _, rfl⟩
set_option maxHeartbeats 400000 in
set_option maxRecDepth 20000 in
theorem lcs2 (w : World) : Calls Try.prog 49 #[.string ⟨#[80, 65, 84, 84, 69, 82, 78]⟩, .string ⟨#[65, 84]⟩] w fun e w' => e = .returned (.int .i64 0) ∧ ∃ q, w' = w.drewN q := by
  have h1 : ∀ wx, (Instr.index 9 (.string ⟨#[80, 65, 84, 84, 69, 82, 78]⟩) (.int .i64 6)).run Try.prog wx = .ok (.int .u8 78) wx := fun _ => by kernel_rfl
  have h2 : ∀ wx, (Instr.index 9 (.string ⟨#[65, 84]⟩) (.int .i64 1)).run Try.prog wx = .ok (.int .u8 84) wx := fun _ => by kernel_rfl
  go_enter Try.func49, Try.ntmps49
  go_wp2
  refine wp_loop_rounds 1 ?_
  rw [rounds_succ]
  go_wp2
  go_quiet (fail)
  go_wp2
  go_ret
  exact ⟨rfl, _, rfl⟩
set_option maxHeartbeats 400000 in
set_option maxRecDepth 20000 in
theorem lcs3 (w : World) : Calls Try.prog 49 #[.string ⟨#[80, 65, 84, 84, 69, 82, 78]⟩, .string ⟨#[65, 84, 84]⟩] w fun e w' => e = .returned (.int .i64 0) ∧ ∃ q, w' = w.drewN q := by
  have h1 : ∀ wx, (Instr.index 9 (.string ⟨#[80, 65, 84, 84, 69, 82, 78]⟩) (.int .i64 6)).run Try.prog wx = .ok (.int .u8 78) wx := fun _ => by kernel_rfl
  have h2 : ∀ wx, (Instr.index 9 (.string ⟨#[65, 84, 84]⟩) (.int .i64 2)).run Try.prog wx = .ok (.int .u8 84) wx := fun _ => by kernel_rfl
  go_enter Try.func49, Try.ntmps49
  go_wp2
  refine wp_loop_rounds 1 ?_
  rw [rounds_succ]
  go_wp2
  go_quiet (fail)
  go_wp2
  go_ret
  exact ⟨rfl, _, rfl⟩
set_option maxHeartbeats 400000 in
set_option maxRecDepth 20000 in
theorem lcs4 (w : World) : Calls Try.prog 49 #[.string ⟨#[80, 65, 84, 84, 69, 82, 78]⟩, .string ⟨#[65, 84, 84, 69]⟩] w fun e w' => e = .returned (.int .i64 0) ∧ ∃ q, w' = w.drewN q := by
  have h1 : ∀ wx, (Instr.index 9 (.string ⟨#[80, 65, 84, 84, 69, 82, 78]⟩) (.int .i64 6)).run Try.prog wx = .ok (.int .u8 78) wx := fun _ => by kernel_rfl
  have h2 : ∀ wx, (Instr.index 9 (.string ⟨#[65, 84, 84, 69]⟩) (.int .i64 3)).run Try.prog wx = .ok (.int .u8 69) wx := fun _ => by kernel_rfl
  go_enter Try.func49, Try.ntmps49
  go_wp2
  refine wp_loop_rounds 1 ?_
  rw [rounds_succ]
  go_wp2
  go_quiet (fail)
  go_wp2
  go_ret
  exact ⟨rfl, _, rfl⟩
set_option maxHeartbeats 400000 in
set_option maxRecDepth 20000 in
theorem lcs5 (w : World) : Calls Try.prog 49 #[.string ⟨#[80, 65, 84, 84, 69, 82, 78]⟩, .string ⟨#[65, 84, 84, 69, 82]⟩] w fun e w' => e = .returned (.int .i64 0) ∧ ∃ q, w' = w.drewN q := by
  have h1 : ∀ wx, (Instr.index 9 (.string ⟨#[80, 65, 84, 84, 69, 82, 78]⟩) (.int .i64 6)).run Try.prog wx = .ok (.int .u8 78) wx := fun _ => by kernel_rfl
  have h2 : ∀ wx, (Instr.index 9 (.string ⟨#[65, 84, 84, 69, 82]⟩) (.int .i64 4)).run Try.prog wx = .ok (.int .u8 82) wx := fun _ => by kernel_rfl
  go_enter Try.func49, Try.ntmps49
  go_wp2
  refine wp_loop_rounds 1 ?_
  rw [rounds_succ]
  go_wp2
  go_quiet (fail)
  go_wp2
  go_ret
  exact ⟨rfl, _, rfl⟩
theorem z104 : Try.zeroCells104 = #[.string ⟨#[]⟩] ++ Array.replicate 256 (.int .i64 0) ++ #[.slice none 0 0] := by kernel_rfl
/-- the finder's struct, cell by cell: the word, the skips, the slice -/
def fcell (G : Nat) (b : Nat → Int) (i : Nat) : Value := if i = 0 then .string ⟨#[80, 65, 84, 84, 69, 82, 78]⟩ else if i = 257 then .slice (some ⟨G, 0, none⟩) 7 7 else .int .i64 (b (i - 1))
theorem row104 (G : Nat) (w : World) : (w.alloc (.cells ((Try.zeroCells104.setIfInBounds 0 (.string ⟨#[80, 65, 84, 84, 69, 82, 78]⟩)).setIfInBounds 257 (.slice (some ⟨G, 0, none⟩) 7 7)) 104)).rowIs w.heap.size 104 258 (fcell G (fun _ => 0)) := by
  have hsz : ((Try.zeroCells104.setIfInBounds 0 (.string ⟨#[80, 65, 84, 84, 69, 82, 78]⟩)).setIfInBounds 257 (.slice (some ⟨G, 0, none⟩) 7 7)).size = 258 := by rw [z104]; simp
  have h := World.rowIs_alloc w ((Try.zeroCells104.setIfInBounds 0 (.string ⟨#[80, 65, 84, 84, 69, 82, 78]⟩)).setIfInBounds 257 (.slice (some ⟨G, 0, none⟩) 7 7)) 104 (fcell G (fun _ => 0)) (fun i hi => by
    rw [hsz] at hi
    rw [z104]
    simp only [Array.getElem?_setIfInBounds]
    unfold fcell
    by_cases e0 : i = 0
    · subst e0; simp
    · by_cases e1 : i = 257
      · subst e1; simp
      · rw [if_neg (fun h => e1 h.symm), if_neg (fun h => e0 h.symm), if_neg e0, if_neg e1]
        rw [Array.getElem?_append, if_pos (by simp; omega), Array.getElem?_append, if_neg (by simp; omega), Array.getElem?_replicate, if_pos (by simp; omega)])
  rw [hsz] at h
  exact h
theorem fset (G : Nat) (b : Nat → Int) (c : Nat) (v : Int) (hc : c < 256) (i : Nat) (hi : i < 258) : (if i = 1 + c then Value.int .i64 v else fcell G b i) = fcell G (fun x => if x = c then v else b x) i := by
  unfold fcell
  by_cases e : i = 1 + c
  · rw [if_pos e, if_neg (by omega), if_neg (by omega)]
    show Value.int .i64 v = .int .i64 (if i - 1 = c then v else b (i - 1))
    rw [if_pos (by omega)]
  · rw [if_neg e]
    by_cases e0 : i = 0
    · rw [if_pos e0, if_pos e0]
    · rw [if_neg e0, if_neg e0]
      by_cases e1 : i = 257
      · rw [if_pos e1, if_pos e1]
      · rw [if_neg e1, if_neg e1]
        show Value.int .i64 (b (i - 1)) = .int .i64 (if i - 1 = c then v else b (i - 1))
        rw [if_neg (by omega)]
theorem fcell_congr (G : Nat) {b b' : Nat → Int} (h : ∀ x, b x = b' x) (i : Nat) : fcell G b i = fcell G b' i := by
  rw [show b = b' from funext h]
def bad2 (k c : Nat) : Int := if c = 80 ∧ 0 < k then 6 else if c = 65 ∧ 1 < k then 5 else if c = 84 ∧ 3 < k then 3 else if c = 84 ∧ 2 < k then 4 else if c = 69 ∧ 4 < k then 2 else if c = 82 ∧ 5 < k then 1 else 7
theorem bad2_zero (c : Nat) : bad2 0 c = 7 := by simp [bad2]
theorem bad2_six (c : Nat) : bad2 6 c = bad c := by
  unfold bad2 bad
  simp
  by_cases h : c = 84 <;> simp [h]
def p7 (k : Nat) : Nat := (pat.getD k 0).toNat
theorem bad2_succ (k : Nat) (hk : k < 6) (x : Nat) : (if x = p7 k then (6 - k : Int) else bad2 k x) = bad2 (k + 1) x := by
  rcases (show k = 0 ∨ k = 1 ∨ k = 2 ∨ k = 3 ∨ k = 4 ∨ k = 5 by omega) with rfl | rfl | rfl | rfl | rfl | rfl <;> simp [p7, pat, bad2] <;> (repeat' split) <;> omega
def g3 (c j : Nat) : Int := if c ≤ j then 13 - j else 0
theorem g3_seven (j : Nat) (h : j < 7) : g3 7 j = 0 := by unfold g3; rw [if_neg (by omega)]
theorem g3_step (i : Nat) (hi : i < 7) (j : Nat) : (if j = i then Value.int .i64 (13 - i) else .int .i64 (g3 (i + 1) j)) = .int .i64 (g3 i j) := by
  unfold g3
  by_cases e : j = i
  · subst e; rw [if_pos rfl, if_pos (Nat.le_refl _)]
  · rw [if_neg e]
    by_cases e2 : i ≤ j
    · rw [if_pos e2, if_pos (by omega)]
    · rw [if_neg e2, if_neg (by omega)]
def g4 (k j : Nat) : Int := if j = 6 then 7 - k else 13 - j
theorem g3_zero (j : Nat) (h : j < 7) : g3 0 j = g4 0 j := by unfold g3 g4; rw [if_pos (Nat.zero_le _)]; split <;> omega
theorem g4_step (k : Nat) (hk : k < 6) (j : Nat) : (if j = 6 then Value.int .i64 (6 - k) else .int .i64 (g4 k j)) = .int .i64 (g4 (k + 1) j) := by
  unfold g4
  by_cases e : j = 6
  · rw [if_pos e, if_pos e]; congr 1; omega
  · rw [if_neg e, if_neg e, if_neg e]
theorem g4_six (j : Nat) : g4 6 j = gs j := by unfold g4 gs; split <;> omega
set_option maxHeartbeats 4000000 in
set_option maxRecDepth 20000 in
theorem finder_any (w : World) :
    Calls Try.prog 38 #[.string ⟨#[80, 65, 84, 84, 69, 82, 78]⟩] w fun e w' => ∃ F G : Nat, e = .returned (.pointer (some ⟨F, 0, none⟩)) ∧ Below w.heap.size w w' ∧ Finder F G w' ∧ F < w'.heap.size ∧ G < w'.heap.size ∧ w.heap.size ≤ F ∧ w.heap.size ≤ G := by
  have hmk : ∀ w, (Instr.makeSlice 101 (.int .i64 7) (.int .i64 7)).run Try.prog w = .ok (.slice (some ⟨w.heap.size, 0, none⟩) 7 7) (w.alloc (.cells #[.int .i64 0, .int .i64 0, .int .i64 0, .int .i64 0, .int .i64 0, .int .i64 0, .int .i64 0] 3)) := fun _ => by kernel_rfl
  go_enter Try.func38, Try.ntmps38
  go_wp2_with fail
  clear hmk
  go_loopg [20] 256 (fun n i wr => ∃ k : Nat, i = .int .i64 k ∧ k ≤ 256 ∧ k + n = 256 ∧ Hid (Below w.heap.size w wr) ∧ Hid (wr.rowIs (w.heap.size + 1) 104 258 (fcell w.heap.size (fun c => if c < k then 7 else 0))) ∧ Hid (wr.rowIs w.heap.size 3 7 (fun _ => .int .i64 0)))
  case atStart =>
    refine ⟨0, rfl, by omega, rfl, ((Below.refl _ _).alloc (Nat.le_refl _) _).alloc (by simp) _, ?_, ?_⟩
    · have h := row104 w.heap.size (w.alloc (.cells #[.int .i64 0, .int .i64 0, .int .i64 0, .int .i64 0, .int .i64 0, .int .i64 0, .int .i64 0] 3))
      simp only [World.size_alloc] at h
      exact h.congr fun i hi => by simp
    · refine World.rowIs.alloc ?_ _
      exact World.rowIs_alloc w #[.int .i64 0, .int .i64 0, .int .i64 0, .int .i64 0, .int .i64 0, .int .i64 0, .int .i64 0] 3 _ (fun i hi => by
        rcases (show i = 0 ∨ i = 1 ∨ i = 2 ∨ i = 3 ∨ i = 4 ∨ i = 5 ∨ i = 6 by simp at hi; omega) with rfl | rfl | rfl | rfl | rfl | rfl | rfl <;> rfl)
  case round =>
    obtain ⟨k, rfl, hk, hkn, hB, hF, hG⟩ := hrel
    by_cases hlt : k < 256
    · have hc := hF.out.cell (i := 1 + k) (by omega)
      have hf := hF.out.frozen (1 + k)
      have hcv : fcell w.heap.size (fun c => if c < k then 7 else 0) (1 + k) = .int .i64 0 := by
        unfold fcell; rw [if_neg (by omega), if_neg (by omega)]; simp
      rw [hcv] at hc
      clear hcv
      go_wp2
      go_roundg (gk - 1)
      case measure => omega
      case rel =>
        refine ⟨k + 1, by go_num, by omega, by omega, hB.out.setCell (by simp) _, ?_, ?_⟩
        · refine (hF.out.set (1 + k) _).congr fun i hi => ?_
          rw [fset _ _ k 7 (by omega) i hi]
          refine fcell_congr _ (fun x => ?_) i
          by_cases e : x = k
          · rw [if_pos e, if_pos (by omega)]
          · rw [if_neg e]
            by_cases e2 : x < k
            · rw [if_pos e2, if_pos (by omega)]
            · rw [if_neg e2, if_neg (by omega)]
        · exact hG.out.setOther (by simp) _
    · obtain rfl : k = 256 := by omega
      have hF2 : Hid (wr.rowIs (w.heap.size + 1) 104 258 (fcell w.heap.size (bad2 0))) := hF.out.congr fun i hi => by
        unfold fcell
        by_cases e0 : i = 0
        · rw [if_pos e0, if_pos e0]
        · rw [if_neg e0, if_neg e0]
          by_cases e1 : i = 257
          · rw [if_pos e1, if_pos e1]
          · rw [if_neg e1, if_neg e1, bad2_zero]
            show Value.int .i64 (if i - 1 < 256 then 7 else 0) = .int .i64 7
            rw [if_pos (by omega)]
      clear hF hkn hk hlt
      go_wp2_with fail
      go_loopg [6] 6 (fun n i wr => ∃ k : Nat, i = .int .i64 k ∧ k ≤ 6 ∧ k + n = 6 ∧ Hid (Below w.heap.size w wr) ∧ Hid (wr.rowIs (w.heap.size + 1) 104 258 (fcell w.heap.size (bad2 k))) ∧ Hid (wr.rowIs w.heap.size 3 7 (fun _ => .int .i64 0)))
      case atStart => exact ⟨0, rfl, by omega, rfl, hB, hF2, hG⟩
      case round =>
        clear hB hF2 hG
        obtain ⟨k, rfl, hk, hkn, hB, hF, hG⟩ := hrel
        by_cases hlt : k < 6
        · have hc := hF.out.cell (i := 1 + p7 k) (by unfold p7; have := (pat.getD k 0).toNat_lt; omega)
          have hf := hF.out.frozen (1 + p7 k)
          have hpi : ∀ wx, (Instr.index 9 (.string ⟨#[80, 65, 84, 84, 69, 82, 78]⟩) (.int .i64 k)).run Try.prog wx = .ok (.int .u8 ((p7 k : Nat) : Int)) wx := pidx k (by omega)
          have h256 : p7 k < 256 := (pat.getD k 0).toNat_lt
          have hcv : fcell w.heap.size (bad2 k) (1 + p7 k) = .int .i64 (bad2 k (p7 k)) := by
            unfold fcell; rw [if_neg (by omega), if_neg (by omega), show 1 + p7 k - 1 = p7 k by omega]
          rw [hcv] at hc
          clear hcv
          go_wp2_with fail
          go_region
          go_wp2
          go_roundg (gk - 1)
          case measure => omega
          case rel =>
            refine ⟨k + 1, by go_num, by omega, by omega, (hB.out.setCell (p := ⟨w.heap.size + 1, 1 + p7 k, none⟩) (by simp) _).drew, ?_, (hG.out.setOther (a := ⟨w.heap.size + 1, 1 + p7 k, none⟩) (by simp) _).drew⟩
            refine ((hF.out.set (1 + p7 k) _).drew).congr fun i hi => ?_
            rw [fset _ _ (p7 k) _ h256 i hi]
            exact fcell_congr _ (fun x => bad2_succ k hlt x) i
        · obtain rfl : k = 6 := by omega
          have hF3 : Hid (wr.rowIs (w.heap.size + 1) 104 258 (fcell w.heap.size bad)) := hF.out.congr fun i hi => fcell_congr _ bad2_six i
          clear hF hkn hk hlt
          go_wp2_with fail
          go_loopg [7, 8] 7 (fun n lp i wr => ∃ c : Nat, i = .int .i64 ((c : Int) - 1) ∧ lp = .int .i64 (if c = 7 then 6 else 7) ∧ c ≤ 7 ∧ c = n ∧ Hid (Below w.heap.size w wr) ∧ Hid (wr.rowIs (w.heap.size + 1) 104 258 (fcell w.heap.size bad)) ∧ Hid (wr.rowIs w.heap.size 3 7 (fun j => .int .i64 (g3 c j))))
          case atStart => exact ⟨7, rfl, rfl, by omega, rfl, hB, hF3, hG.out.congr fun j hj => by rw [g3_seven j hj]⟩
          case round =>
            clear hB hF3 hG
            obtain ⟨c, rfl, rfl, hc7, rfl, hB, hF, hG⟩ := hrel
            have hg := hF.out.cell (i := 257) (by omega)
            rw [show fcell w.heap.size bad 257 = .slice (some ⟨w.heap.size, 0, none⟩) 7 7 from rfl] at hg
            by_cases hpos : 0 < c
            · rcases (show c = 0 + 1 ∨ c = 1 + 1 ∨ c = 2 + 1 ∨ c = 3 + 1 ∨ c = 4 + 1 ∨ c = 5 + 1 ∨ c = 6 + 1 by omega) with rfl | rfl | rfl | rfl | rfl | rfl | rfl
              · have hsl : ∀ wx, (Instr.slice 9 (.string ⟨#[80, 65, 84, 84, 69, 82, 78]⟩) (some (.int .i64 1)) none none).run Try.prog wx = .ok (.string ⟨#[65, 84, 84, 69, 82, 78]⟩) wx := fun _ => by kernel_rfl
                have hc := hG.out.cell (i := 0) (by omega)
                have hf := hG.out.frozen 0
                go_wp2_with (go_at_call 48; refine (hpf0 _).mono ?_; rintro e w' ⟨rfl, rfl⟩)
                go_roundg 0
                case measure => omega
                case rel =>
                  refine ⟨0, rfl, rfl, by omega, rfl, hB.out.setCell (Nat.le_refl _) _, hF.out.setOther (by simp) _, ?_⟩
                  exact (hG.out.set 0 _).congr fun j hj => g3_step 0 (by omega) j
              · have hsl : ∀ wx, (Instr.slice 9 (.string ⟨#[80, 65, 84, 84, 69, 82, 78]⟩) (some (.int .i64 2)) none none).run Try.prog wx = .ok (.string ⟨#[84, 84, 69, 82, 78]⟩) wx := fun _ => by kernel_rfl
                have hc := hG.out.cell (i := 1) (by omega)
                have hf := hG.out.frozen 1
                go_wp2_with (go_at_call 48; refine (hpf1 _).mono ?_; rintro e w' ⟨rfl, rfl⟩)
                go_roundg 1
                case measure => omega
                case rel =>
                  refine ⟨1, rfl, rfl, by omega, rfl, hB.out.setCell (Nat.le_refl _) _, hF.out.setOther (by simp) _, ?_⟩
                  exact (hG.out.set 1 _).congr fun j hj => g3_step 1 (by omega) j
              · have hsl : ∀ wx, (Instr.slice 9 (.string ⟨#[80, 65, 84, 84, 69, 82, 78]⟩) (some (.int .i64 3)) none none).run Try.prog wx = .ok (.string ⟨#[84, 69, 82, 78]⟩) wx := fun _ => by kernel_rfl
                have hc := hG.out.cell (i := 2) (by omega)
                have hf := hG.out.frozen 2
                go_wp2_with (go_at_call 48; refine (hpf2 _).mono ?_; rintro e w' ⟨rfl, rfl⟩)
                go_roundg 2
                case measure => omega
                case rel =>
                  refine ⟨2, rfl, rfl, by omega, rfl, hB.out.setCell (Nat.le_refl _) _, hF.out.setOther (by simp) _, ?_⟩
                  exact (hG.out.set 2 _).congr fun j hj => g3_step 2 (by omega) j
              · have hsl : ∀ wx, (Instr.slice 9 (.string ⟨#[80, 65, 84, 84, 69, 82, 78]⟩) (some (.int .i64 4)) none none).run Try.prog wx = .ok (.string ⟨#[69, 82, 78]⟩) wx := fun _ => by kernel_rfl
                have hc := hG.out.cell (i := 3) (by omega)
                have hf := hG.out.frozen 3
                go_wp2_with (go_at_call 48; refine (hpf3 _).mono ?_; rintro e w' ⟨rfl, rfl⟩)
                go_roundg 3
                case measure => omega
                case rel =>
                  refine ⟨3, rfl, rfl, by omega, rfl, hB.out.setCell (Nat.le_refl _) _, hF.out.setOther (by simp) _, ?_⟩
                  exact (hG.out.set 3 _).congr fun j hj => g3_step 3 (by omega) j
              · have hsl : ∀ wx, (Instr.slice 9 (.string ⟨#[80, 65, 84, 84, 69, 82, 78]⟩) (some (.int .i64 5)) none none).run Try.prog wx = .ok (.string ⟨#[82, 78]⟩) wx := fun _ => by kernel_rfl
                have hc := hG.out.cell (i := 4) (by omega)
                have hf := hG.out.frozen 4
                go_wp2_with (go_at_call 48; refine (hpf4 _).mono ?_; rintro e w' ⟨rfl, rfl⟩)
                go_roundg 4
                case measure => omega
                case rel =>
                  refine ⟨4, rfl, rfl, by omega, rfl, hB.out.setCell (Nat.le_refl _) _, hF.out.setOther (by simp) _, ?_⟩
                  exact (hG.out.set 4 _).congr fun j hj => g3_step 4 (by omega) j
              · have hsl : ∀ wx, (Instr.slice 9 (.string ⟨#[80, 65, 84, 84, 69, 82, 78]⟩) (some (.int .i64 6)) none none).run Try.prog wx = .ok (.string ⟨#[78]⟩) wx := fun _ => by kernel_rfl
                have hc := hG.out.cell (i := 5) (by omega)
                have hf := hG.out.frozen 5
                go_wp2_with (go_at_call 48; refine (hpf5 _).mono ?_; rintro e w' ⟨rfl, rfl⟩)
                go_roundg 5
                case measure => omega
                case rel =>
                  refine ⟨5, rfl, rfl, by omega, rfl, hB.out.setCell (Nat.le_refl _) _, hF.out.setOther (by simp) _, ?_⟩
                  exact (hG.out.set 5 _).congr fun j hj => g3_step 5 (by omega) j
              · have hsl : ∀ wx, (Instr.slice 9 (.string ⟨#[80, 65, 84, 84, 69, 82, 78]⟩) (some (.int .i64 7)) none none).run Try.prog wx = .ok (.string ⟨#[]⟩) wx := fun _ => by kernel_rfl
                have hc := hG.out.cell (i := 6) (by omega)
                have hf := hG.out.frozen 6
                go_wp2_with (go_at_call 48; refine (hpf6 _).mono ?_; rintro e w' ⟨rfl, rfl⟩)
                go_roundg 6
                case measure => omega
                case rel =>
                  refine ⟨6, rfl, rfl, by omega, rfl, hB.out.setCell (Nat.le_refl _) _, hF.out.setOther (by simp) _, ?_⟩
                  exact (hG.out.set 6 _).congr fun j hj => g3_step 6 (by omega) j
            · obtain rfl : c = 0 := by omega
              have hG4 : Hid (wr.rowIs w.heap.size 3 7 (fun j => .int .i64 (g4 0 j))) := hG.out.congr fun j hj => by rw [g3_zero j hj]
              clear hG hpos hc7 hg
              go_wp2_with fail
              go_loopg [9] 6 (fun n i wr => ∃ k : Nat, i = .int .i64 k ∧ k ≤ 6 ∧ k + n = 6 ∧ Hid (Below w.heap.size w wr) ∧ Hid (wr.rowIs (w.heap.size + 1) 104 258 (fcell w.heap.size bad)) ∧ Hid (wr.rowIs w.heap.size 3 7 (fun j => .int .i64 (g4 k j))))
              case atStart => exact ⟨0, rfl, by omega, rfl, hB, hF, hG4⟩
              case round =>
                clear hB hF hG4
                obtain ⟨k, rfl, hk, hkn, hB, hF, hG⟩ := hrel
                have hg := hF.out.cell (i := 257) (by omega)
                rw [show fcell w.heap.size bad 257 = .slice (some ⟨w.heap.size, 0, none⟩) 7 7 from rfl] at hg
                have hc := hG.out.cell (i := 6) (by omega)
                have hf := hG.out.frozen 6
                have hi6 : ∀ wx, (Instr.index 9 (.string ⟨#[80, 65, 84, 84, 69, 82, 78]⟩) (.int .i64 6)).run Try.prog wx = .ok (.int .u8 78) wx := fun _ => by kernel_rfl
                by_cases hlt : k < 6
                · obtain rfl : gk = 6 - k := by omega
                  clear hkn
                  rcases (show k = 0 ∨ k = 1 ∨ k = 2 ∨ k = 3 ∨ k = 4 ∨ k = 5 by omega) with rfl | rfl | rfl | rfl | rfl | rfl
                  · have hsl : ∀ wx, (Instr.slice 9 (.string ⟨#[80, 65, 84, 84, 69, 82, 78]⟩) (some (.int .i64 1)) (some (.int .i64 1)) none).run Try.prog wx = .ok (.string ⟨#[]⟩) wx := fun _ => by kernel_rfl
                    have hi1 : ∀ wx, (Instr.index 9 (.string ⟨#[80, 65, 84, 84, 69, 82, 78]⟩) (.int .i64 0)).run Try.prog wx = .ok (.int .u8 80) wx := fun _ => by kernel_rfl
                    go_wp2_with (go_at_call 49; refine (lcs0 _).mono ?_; rintro e w' ⟨rfl, q, rfl⟩)
                    go_quiet (fail)
                    go_wp2
                    go_roundg 5
                    case measure => omega
                    case rel =>
                      refine ⟨1, rfl, by omega, rfl, (below_drewN hB.out _).setCell (Nat.le_refl _) _, World.rowIs.setOther (hF.out.of_block rfl) (by simp) _, ?_⟩
                      exact (World.rowIs.set (hG.out.of_block rfl) 6 _).congr fun j hj => g4_step 0 (by omega) j
                  · have hsl : ∀ wx, (Instr.slice 9 (.string ⟨#[80, 65, 84, 84, 69, 82, 78]⟩) (some (.int .i64 1)) (some (.int .i64 2)) none).run Try.prog wx = .ok (.string ⟨#[65]⟩) wx := fun _ => by kernel_rfl
                    have hi1 : ∀ wx, (Instr.index 9 (.string ⟨#[80, 65, 84, 84, 69, 82, 78]⟩) (.int .i64 1)).run Try.prog wx = .ok (.int .u8 65) wx := fun _ => by kernel_rfl
                    go_wp2_with (go_at_call 49; refine (lcs1 _).mono ?_; rintro e w' ⟨rfl, q, rfl⟩)
                    go_quiet (fail)
                    go_wp2
                    go_roundg 4
                    case measure => omega
                    case rel =>
                      refine ⟨2, rfl, by omega, rfl, (below_drewN hB.out _).setCell (Nat.le_refl _) _, World.rowIs.setOther (hF.out.of_block rfl) (by simp) _, ?_⟩
                      exact (World.rowIs.set (hG.out.of_block rfl) 6 _).congr fun j hj => g4_step 1 (by omega) j
                  · have hsl : ∀ wx, (Instr.slice 9 (.string ⟨#[80, 65, 84, 84, 69, 82, 78]⟩) (some (.int .i64 1)) (some (.int .i64 3)) none).run Try.prog wx = .ok (.string ⟨#[65, 84]⟩) wx := fun _ => by kernel_rfl
                    have hi1 : ∀ wx, (Instr.index 9 (.string ⟨#[80, 65, 84, 84, 69, 82, 78]⟩) (.int .i64 2)).run Try.prog wx = .ok (.int .u8 84) wx := fun _ => by kernel_rfl
                    go_wp2_with (go_at_call 49; refine (lcs2 _).mono ?_; rintro e w' ⟨rfl, q, rfl⟩)
                    go_quiet (fail)
                    go_wp2
                    go_roundg 3
                    case measure => omega
                    case rel =>
                      refine ⟨3, rfl, by omega, rfl, (below_drewN hB.out _).setCell (Nat.le_refl _) _, World.rowIs.setOther (hF.out.of_block rfl) (by simp) _, ?_⟩
                      exact (World.rowIs.set (hG.out.of_block rfl) 6 _).congr fun j hj => g4_step 2 (by omega) j
                  · have hsl : ∀ wx, (Instr.slice 9 (.string ⟨#[80, 65, 84, 84, 69, 82, 78]⟩) (some (.int .i64 1)) (some (.int .i64 4)) none).run Try.prog wx = .ok (.string ⟨#[65, 84, 84]⟩) wx := fun _ => by kernel_rfl
                    have hi1 : ∀ wx, (Instr.index 9 (.string ⟨#[80, 65, 84, 84, 69, 82, 78]⟩) (.int .i64 3)).run Try.prog wx = .ok (.int .u8 84) wx := fun _ => by kernel_rfl
                    go_wp2_with (go_at_call 49; refine (lcs3 _).mono ?_; rintro e w' ⟨rfl, q, rfl⟩)
                    go_quiet (fail)
                    go_wp2
                    go_roundg 2
                    case measure => omega
                    case rel =>
                      refine ⟨4, rfl, by omega, rfl, (below_drewN hB.out _).setCell (Nat.le_refl _) _, World.rowIs.setOther (hF.out.of_block rfl) (by simp) _, ?_⟩
                      exact (World.rowIs.set (hG.out.of_block rfl) 6 _).congr fun j hj => g4_step 3 (by omega) j
                  · have hsl : ∀ wx, (Instr.slice 9 (.string ⟨#[80, 65, 84, 84, 69, 82, 78]⟩) (some (.int .i64 1)) (some (.int .i64 5)) none).run Try.prog wx = .ok (.string ⟨#[65, 84, 84, 69]⟩) wx := fun _ => by kernel_rfl
                    have hi1 : ∀ wx, (Instr.index 9 (.string ⟨#[80, 65, 84, 84, 69, 82, 78]⟩) (.int .i64 4)).run Try.prog wx = .ok (.int .u8 69) wx := fun _ => by kernel_rfl
                    go_wp2_with (go_at_call 49; refine (lcs4 _).mono ?_; rintro e w' ⟨rfl, q, rfl⟩)
                    go_quiet (fail)
                    go_wp2
                    go_roundg 1
                    case measure => omega
                    case rel =>
                      refine ⟨5, rfl, by omega, rfl, (below_drewN hB.out _).setCell (Nat.le_refl _) _, World.rowIs.setOther (hF.out.of_block rfl) (by simp) _, ?_⟩
                      exact (World.rowIs.set (hG.out.of_block rfl) 6 _).congr fun j hj => g4_step 4 (by omega) j
                  · have hsl : ∀ wx, (Instr.slice 9 (.string ⟨#[80, 65, 84, 84, 69, 82, 78]⟩) (some (.int .i64 1)) (some (.int .i64 6)) none).run Try.prog wx = .ok (.string ⟨#[65, 84, 84, 69, 82]⟩) wx := fun _ => by kernel_rfl
                    have hi1 : ∀ wx, (Instr.index 9 (.string ⟨#[80, 65, 84, 84, 69, 82, 78]⟩) (.int .i64 5)).run Try.prog wx = .ok (.int .u8 82) wx := fun _ => by kernel_rfl
                    go_wp2_with (go_at_call 49; refine (lcs5 _).mono ?_; rintro e w' ⟨rfl, q, rfl⟩)
                    go_quiet (fail)
                    go_wp2
                    go_roundg 0
                    case measure => omega
                    case rel =>
                      refine ⟨6, rfl, by omega, rfl, (below_drewN hB.out _).setCell (Nat.le_refl _) _, World.rowIs.setOther (hF.out.of_block rfl) (by simp) _, ?_⟩
                      exact (World.rowIs.set (hG.out.of_block rfl) 6 _).congr fun j hj => g4_step 5 (by omega) j
                · obtain rfl : k = 6 := by omega
                  clear hkn hk hlt
                  go_wp2
                  go_ret
                  refine ⟨w.heap.size + 1, w.heap.size, rfl, hB.out, ⟨hF.out.cell (i := 0) (by omega), fun c hc => ?_, hF.out.cell (i := 257) (by omega), fun j hj => ?_⟩, hF.out.lt, hG.out.lt, by omega, Nat.le_refl _⟩
                  · rw [hF.out.cell (i := 1 + c) (by omega)]
                    unfold fcell
                    rw [if_neg (by omega), if_neg (by omega), show 1 + c - 1 = c by omega]
                  · rw [hG.out.cell hj]
                    show some (Value.int .i64 (g4 6 j)) = _
                    rw [g4_six]
end Go.Proofs.Qxb6614432a
