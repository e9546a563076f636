/- The two sides of the law: unquote's string (by the range of the code point), zzAppendUTF8's string. -/
import Derived.Test.Qxb6614267aLeaves
namespace Go.Proofs.Qxb6614267a
open Go.ChangeShapes Go.WideShapes Go.ChangeAt Go.RowKit
theorem Grown.trans {W w1 w2 : World} (h : Grown W w1) (g : Grown w1 w2) : Grown W w2 :=
  ⟨World.keptBut_trans h.1 g.1, fun a => (g.2.1 a).trans (h.2.1 a), Nat.le_trans h.2.2 g.2.2⟩

set_option maxHeartbeats 1000000 in
theorem unq1 (b : Nat) (b0 b1 b2 b3 : Int) (w : World) (hb : b < w.heap.size)
    (h1 : w.cell? ⟨b, 1, none⟩ = some (.int .u8 92)) (h2 : w.cell? ⟨b, 2, none⟩ = some (.int .u8 117))
    (h3 : w.cell? ⟨b, 3, none⟩ = some (.int .u8 b0)) (h4 : w.cell? ⟨b, 4, none⟩ = some (.int .u8 b1)) (h5 : w.cell? ⟨b, 5, none⟩ = some (.int .u8 b2)) (h6 : w.cell? ⟨b, 6, none⟩ = some (.int .u8 b3))
    (g0 : Hid (hexB b0 = true)) (g1 : Hid (hexB b1 = true)) (g2 : Hid (hexB b2 = true)) (g3 : Hid (hexB b3 = true))
    (r : Int) (hr : Hid (racc [b0, b1, b2, b3] = r)) (hr0 : 0 ≤ r) (hr1 : r < 128) :
    Calls Try.prog 9 #[.slice (some ⟨b, 0, none⟩) 8 8] w fun e w' => e = .returned (.string (strOfNums [r])) ∧ Grown w w' := by
  have hmk : ∀ w, (Instr.makeSlice 26 (.int .i64 0) (.int .i64 6)).run Try.prog w = .ok (.slice (some ⟨w.heap.size, 0, none⟩) 0 6) (w.alloc (.cells #[.int .u8 0, .int .u8 0, .int .u8 0, .int .u8 0, .int .u8 0, .int .u8 0] 5)) := fun _ => by kernel_rfl
  go_enter Try.func9, Try.ntmps9
  go_wp2_with (first | (go_at_call 22; refine (idx6 _ _ _ b0 b1 b2 b3 ?_ ?_ ?_ ?_ ?_ ?_).mono ?_; go_simp; go_simp; go_simp; go_simp; go_simp; go_simp; rintro e w' ⟨rfl, rfl⟩) | go_in)
  refine wp_loop_rounds 2 ?_
  rw [rounds_succ]
  go_wp2_with (first | (go_at_call 22; refine (idx6 _ _ _ b0 b1 b2 b3 ?_ ?_ ?_ ?_ ?_ ?_).mono ?_; go_simp; go_simp; go_simp; go_simp; go_simp; go_simp; rintro e w' ⟨rfl, rfl⟩) | (go_at_call 17; refine (hexValue_at _ _ b0 b1 b2 b3 _ ?_ ?_ ?_ ?_ g0.out g1.out g2.out g3.out).mono ?_; go_simp; go_simp; go_simp; go_simp; rw [hr.out]; rintro e w' ⟨rfl, rfl⟩) | go_in)
  rw [rounds_succ]
  go_wp2_with (first | (go_at_call 22; refine (idx0 _ _ _ _).mono ?_; rintro e w' ⟨rfl, rfl⟩) | go_in)
  rw [run_convert_bytes_arg _ 26 5 Try.underlying26 Try.underlying5 _ 0 1 6 [r] rfl ?h 9 Try.underlying9]
  case h =>
    intro i hi
    obtain rfl : i = 0 := by omega
    go_simp
  simp only [Result.andThen]
  rw [Oper.upon_value]
  go_wp2
  go_ret
  exact ⟨rfl, by repeat (first | exact Grown.refl _ | apply Grown.drew | apply Grown.alloc)⟩

set_option maxHeartbeats 1000000 in
theorem unq2 (b : Nat) (b0 b1 b2 b3 : Int) (w : World) (hb : b < w.heap.size)
    (h1 : w.cell? ⟨b, 1, none⟩ = some (.int .u8 92)) (h2 : w.cell? ⟨b, 2, none⟩ = some (.int .u8 117))
    (h3 : w.cell? ⟨b, 3, none⟩ = some (.int .u8 b0)) (h4 : w.cell? ⟨b, 4, none⟩ = some (.int .u8 b1)) (h5 : w.cell? ⟨b, 5, none⟩ = some (.int .u8 b2)) (h6 : w.cell? ⟨b, 6, none⟩ = some (.int .u8 b3))
    (g0 : Hid (hexB b0 = true)) (g1 : Hid (hexB b1 = true)) (g2 : Hid (hexB b2 = true)) (g3 : Hid (hexB b3 = true))
    (r : Int) (hr : Hid (racc [b0, b1, b2, b3] = r)) (hr0 : 128 ≤ r) (hr1 : r < 2048) :
    Calls Try.prog 9 #[.slice (some ⟨b, 0, none⟩) 8 8] w fun e w' => e = .returned (.string (strOfNums [192 + r / 64, 128 + r % 64])) ∧ Grown w w' := by
  have hmk : ∀ w, (Instr.makeSlice 26 (.int .i64 0) (.int .i64 6)).run Try.prog w = .ok (.slice (some ⟨w.heap.size, 0, none⟩) 0 6) (w.alloc (.cells #[.int .u8 0, .int .u8 0, .int .u8 0, .int .u8 0, .int .u8 0, .int .u8 0] 5)) := fun _ => by kernel_rfl
  go_enter Try.func9, Try.ntmps9
  go_wp2_with (first | (go_at_call 22; refine (idx6 _ _ _ b0 b1 b2 b3 ?_ ?_ ?_ ?_ ?_ ?_).mono ?_; go_simp; go_simp; go_simp; go_simp; go_simp; go_simp; rintro e w' ⟨rfl, rfl⟩) | go_in)
  refine wp_loop_rounds 2 ?_
  rw [rounds_succ]
  go_wp2_with (first | (go_at_call 22; refine (idx6 _ _ _ b0 b1 b2 b3 ?_ ?_ ?_ ?_ ?_ ?_).mono ?_; go_simp; go_simp; go_simp; go_simp; go_simp; go_simp; rintro e w' ⟨rfl, rfl⟩) | (go_at_call 17; refine (hexValue_at _ _ b0 b1 b2 b3 _ ?_ ?_ ?_ ?_ g0.out g1.out g2.out g3.out).mono ?_; go_simp; go_simp; go_simp; go_simp; rw [hr.out]; rintro e w' ⟨rfl, rfl⟩) | go_in)
  rw [rounds_succ]
  go_wp2_with (first | (go_at_call 22; refine (idx0 _ _ _ _).mono ?_; rintro e w' ⟨rfl, rfl⟩) | go_in)
  rw [run_convert_bytes_arg _ 26 5 Try.underlying26 Try.underlying5 _ 0 2 6 [192 + r / 64, 128 + r % 64] rfl ?h 9 Try.underlying9]
  case h =>
    intro i hi
    rcases (show i = 0 ∨ i = 1 by omega) with rfl | rfl <;> go_simp
  simp only [Result.andThen]
  rw [Oper.upon_value]
  go_wp2
  go_ret
  exact ⟨rfl, by repeat (first | exact Grown.refl _ | apply Grown.drew | apply Grown.alloc)⟩

set_option maxHeartbeats 1000000 in
theorem unq3a (b : Nat) (b0 b1 b2 b3 : Int) (w : World) (hb : b < w.heap.size)
    (h1 : w.cell? ⟨b, 1, none⟩ = some (.int .u8 92)) (h2 : w.cell? ⟨b, 2, none⟩ = some (.int .u8 117))
    (h3 : w.cell? ⟨b, 3, none⟩ = some (.int .u8 b0)) (h4 : w.cell? ⟨b, 4, none⟩ = some (.int .u8 b1)) (h5 : w.cell? ⟨b, 5, none⟩ = some (.int .u8 b2)) (h6 : w.cell? ⟨b, 6, none⟩ = some (.int .u8 b3))
    (g0 : Hid (hexB b0 = true)) (g1 : Hid (hexB b1 = true)) (g2 : Hid (hexB b2 = true)) (g3 : Hid (hexB b3 = true))
    (r : Int) (hr : Hid (racc [b0, b1, b2, b3] = r)) (hr0 : 2048 ≤ r) (hr1 : r < 55296) :
    Calls Try.prog 9 #[.slice (some ⟨b, 0, none⟩) 8 8] w fun e w' => e = .returned (.string (strOfNums [224 + r / 4096, 128 + r / 64 % 64, 128 + r % 64])) ∧ Grown w w' := by
  have hmk : ∀ w, (Instr.makeSlice 26 (.int .i64 0) (.int .i64 6)).run Try.prog w = .ok (.slice (some ⟨w.heap.size, 0, none⟩) 0 6) (w.alloc (.cells #[.int .u8 0, .int .u8 0, .int .u8 0, .int .u8 0, .int .u8 0, .int .u8 0] 5)) := fun _ => by kernel_rfl
  go_enter Try.func9, Try.ntmps9
  go_wp2_with (first | (go_at_call 22; refine (idx6 _ _ _ b0 b1 b2 b3 ?_ ?_ ?_ ?_ ?_ ?_).mono ?_; go_simp; go_simp; go_simp; go_simp; go_simp; go_simp; rintro e w' ⟨rfl, rfl⟩) | go_in)
  refine wp_loop_rounds 2 ?_
  rw [rounds_succ]
  go_wp2_with (first | (go_at_call 22; refine (idx6 _ _ _ b0 b1 b2 b3 ?_ ?_ ?_ ?_ ?_ ?_).mono ?_; go_simp; go_simp; go_simp; go_simp; go_simp; go_simp; rintro e w' ⟨rfl, rfl⟩) | (go_at_call 17; refine (hexValue_at _ _ b0 b1 b2 b3 _ ?_ ?_ ?_ ?_ g0.out g1.out g2.out g3.out).mono ?_; go_simp; go_simp; go_simp; go_simp; rw [hr.out]; rintro e w' ⟨rfl, rfl⟩) | go_in)
  rw [rounds_succ]
  go_wp2_with (first | (go_at_call 22; refine (idx0 _ _ _ _).mono ?_; rintro e w' ⟨rfl, rfl⟩) | go_in)
  rw [run_convert_bytes_arg _ 26 5 Try.underlying26 Try.underlying5 _ 0 3 6 [224 + r / 4096, 128 + r / 64 % 64, 128 + r % 64] rfl ?h 9 Try.underlying9]
  case h =>
    intro i hi
    rcases (show i = 0 ∨ i = 1 ∨ i = 2 by omega) with rfl | rfl | rfl <;> go_simp
  simp only [Result.andThen]
  rw [Oper.upon_value]
  go_wp2
  go_ret
  exact ⟨rfl, by repeat (first | exact Grown.refl _ | apply Grown.drew | apply Grown.alloc)⟩

set_option maxHeartbeats 1000000 in
theorem unq3h (b : Nat) (b0 b1 b2 b3 : Int) (w : World) (hb : b < w.heap.size)
    (h1 : w.cell? ⟨b, 1, none⟩ = some (.int .u8 92)) (h2 : w.cell? ⟨b, 2, none⟩ = some (.int .u8 117))
    (h3 : w.cell? ⟨b, 3, none⟩ = some (.int .u8 b0)) (h4 : w.cell? ⟨b, 4, none⟩ = some (.int .u8 b1)) (h5 : w.cell? ⟨b, 5, none⟩ = some (.int .u8 b2)) (h6 : w.cell? ⟨b, 6, none⟩ = some (.int .u8 b3))
    (g0 : Hid (hexB b0 = true)) (g1 : Hid (hexB b1 = true)) (g2 : Hid (hexB b2 = true)) (g3 : Hid (hexB b3 = true))
    (r : Int) (hr : Hid (racc [b0, b1, b2, b3] = r)) (hr0 : 55296 ≤ r) (hr1 : r < 56320) :
    Calls Try.prog 9 #[.slice (some ⟨b, 0, none⟩) 8 8] w fun e w' => e = .returned (.string (strOfNums [224 + r / 4096, 128 + r / 64 % 64, 128 + r % 64])) ∧ Grown w w' := by
  have q0 : 55296 ≤ r := by omega
  have q1 : r < 57344 := by omega
  have hmk : ∀ w, (Instr.makeSlice 26 (.int .i64 0) (.int .i64 6)).run Try.prog w = .ok (.slice (some ⟨w.heap.size, 0, none⟩) 0 6) (w.alloc (.cells #[.int .u8 0, .int .u8 0, .int .u8 0, .int .u8 0, .int .u8 0, .int .u8 0] 5)) := fun _ => by kernel_rfl
  go_enter Try.func9, Try.ntmps9
  go_wp2_with (first | (go_at_call 22; refine (idx6 _ _ _ b0 b1 b2 b3 ?_ ?_ ?_ ?_ ?_ ?_).mono ?_; go_simp; go_simp; go_simp; go_simp; go_simp; go_simp; rintro e w' ⟨rfl, rfl⟩) | go_in)
  refine wp_loop_rounds 2 ?_
  rw [rounds_succ]
  go_wp2_with (first | (go_at_call 22; refine (idx6 _ _ _ b0 b1 b2 b3 ?_ ?_ ?_ ?_ ?_ ?_).mono ?_; go_simp; go_simp; go_simp; go_simp; go_simp; go_simp; rintro e w' ⟨rfl, rfl⟩) | (go_at_call 17; refine (hexValue_at _ _ b0 b1 b2 b3 _ ?_ ?_ ?_ ?_ g0.out g1.out g2.out g3.out).mono ?_; go_simp; go_simp; go_simp; go_simp; rw [hr.out]; rintro e w' ⟨rfl, rfl⟩) | go_in)
  rw [rounds_succ]
  go_wp2_with (first | (go_at_call 22; refine (idx0 _ _ _ _).mono ?_; rintro e w' ⟨rfl, rfl⟩) | go_in)
  rw [run_convert_bytes_arg _ 26 5 Try.underlying26 Try.underlying5 _ 0 3 6 [224 + r / 4096, 128 + r / 64 % 64, 128 + r % 64] rfl ?h 9 Try.underlying9]
  case h =>
    intro i hi
    rcases (show i = 0 ∨ i = 1 ∨ i = 2 by omega) with rfl | rfl | rfl <;> go_simp
  simp only [Result.andThen]
  rw [Oper.upon_value]
  go_wp2
  go_ret
  exact ⟨rfl, by repeat (first | exact Grown.refl _ | apply Grown.drew | apply Grown.alloc)⟩

set_option maxHeartbeats 1000000 in
theorem unq3l (b : Nat) (b0 b1 b2 b3 : Int) (w : World) (hb : b < w.heap.size)
    (h1 : w.cell? ⟨b, 1, none⟩ = some (.int .u8 92)) (h2 : w.cell? ⟨b, 2, none⟩ = some (.int .u8 117))
    (h3 : w.cell? ⟨b, 3, none⟩ = some (.int .u8 b0)) (h4 : w.cell? ⟨b, 4, none⟩ = some (.int .u8 b1)) (h5 : w.cell? ⟨b, 5, none⟩ = some (.int .u8 b2)) (h6 : w.cell? ⟨b, 6, none⟩ = some (.int .u8 b3))
    (g0 : Hid (hexB b0 = true)) (g1 : Hid (hexB b1 = true)) (g2 : Hid (hexB b2 = true)) (g3 : Hid (hexB b3 = true))
    (r : Int) (hr : Hid (racc [b0, b1, b2, b3] = r)) (hr0 : 56320 ≤ r) (hr1 : r < 57344) :
    Calls Try.prog 9 #[.slice (some ⟨b, 0, none⟩) 8 8] w fun e w' => e = .returned (.string (strOfNums [224 + r / 4096, 128 + r / 64 % 64, 128 + r % 64])) ∧ Grown w w' := by
  have q0 : 55296 ≤ r := by omega
  have q1 : r < 57344 := by omega
  have hmk : ∀ w, (Instr.makeSlice 26 (.int .i64 0) (.int .i64 6)).run Try.prog w = .ok (.slice (some ⟨w.heap.size, 0, none⟩) 0 6) (w.alloc (.cells #[.int .u8 0, .int .u8 0, .int .u8 0, .int .u8 0, .int .u8 0, .int .u8 0] 5)) := fun _ => by kernel_rfl
  go_enter Try.func9, Try.ntmps9
  go_wp2_with (first | (go_at_call 22; refine (idx6 _ _ _ b0 b1 b2 b3 ?_ ?_ ?_ ?_ ?_ ?_).mono ?_; go_simp; go_simp; go_simp; go_simp; go_simp; go_simp; rintro e w' ⟨rfl, rfl⟩) | go_in)
  refine wp_loop_rounds 2 ?_
  rw [rounds_succ]
  go_wp2_with (first | (go_at_call 22; refine (idx6 _ _ _ b0 b1 b2 b3 ?_ ?_ ?_ ?_ ?_ ?_).mono ?_; go_simp; go_simp; go_simp; go_simp; go_simp; go_simp; rintro e w' ⟨rfl, rfl⟩) | (go_at_call 17; refine (hexValue_at _ _ b0 b1 b2 b3 _ ?_ ?_ ?_ ?_ g0.out g1.out g2.out g3.out).mono ?_; go_simp; go_simp; go_simp; go_simp; rw [hr.out]; rintro e w' ⟨rfl, rfl⟩) | go_in)
  rw [rounds_succ]
  go_wp2_with (first | (go_at_call 22; refine (idx0 _ _ _ _).mono ?_; rintro e w' ⟨rfl, rfl⟩) | go_in)
  rw [run_convert_bytes_arg _ 26 5 Try.underlying26 Try.underlying5 _ 0 3 6 [224 + r / 4096, 128 + r / 64 % 64, 128 + r % 64] rfl ?h 9 Try.underlying9]
  case h =>
    intro i hi
    rcases (show i = 0 ∨ i = 1 ∨ i = 2 by omega) with rfl | rfl | rfl <;> go_simp
  simp only [Result.andThen]
  rw [Oper.upon_value]
  go_wp2
  go_ret
  exact ⟨rfl, by repeat (first | exact Grown.refl _ | apply Grown.drew | apply Grown.alloc)⟩

set_option maxHeartbeats 1000000 in
theorem unq3b (b : Nat) (b0 b1 b2 b3 : Int) (w : World) (hb : b < w.heap.size)
    (h1 : w.cell? ⟨b, 1, none⟩ = some (.int .u8 92)) (h2 : w.cell? ⟨b, 2, none⟩ = some (.int .u8 117))
    (h3 : w.cell? ⟨b, 3, none⟩ = some (.int .u8 b0)) (h4 : w.cell? ⟨b, 4, none⟩ = some (.int .u8 b1)) (h5 : w.cell? ⟨b, 5, none⟩ = some (.int .u8 b2)) (h6 : w.cell? ⟨b, 6, none⟩ = some (.int .u8 b3))
    (g0 : Hid (hexB b0 = true)) (g1 : Hid (hexB b1 = true)) (g2 : Hid (hexB b2 = true)) (g3 : Hid (hexB b3 = true))
    (r : Int) (hr : Hid (racc [b0, b1, b2, b3] = r)) (hr0 : 57344 ≤ r) (hr1 : r < 65536) :
    Calls Try.prog 9 #[.slice (some ⟨b, 0, none⟩) 8 8] w fun e w' => e = .returned (.string (strOfNums [224 + r / 4096, 128 + r / 64 % 64, 128 + r % 64])) ∧ Grown w w' := by
  have q0 : 57343 < r := by omega
  have q1 : r ≤ 65535 := by omega
  have q2 : decide (r < 57344) = false := decide_eq_false (by omega)
  have q3 : decide (r < 56320) = false := decide_eq_false (by omega)
  have hmk : ∀ w, (Instr.makeSlice 26 (.int .i64 0) (.int .i64 6)).run Try.prog w = .ok (.slice (some ⟨w.heap.size, 0, none⟩) 0 6) (w.alloc (.cells #[.int .u8 0, .int .u8 0, .int .u8 0, .int .u8 0, .int .u8 0, .int .u8 0] 5)) := fun _ => by kernel_rfl
  go_enter Try.func9, Try.ntmps9
  go_wp2_with (first | (go_at_call 22; refine (idx6 _ _ _ b0 b1 b2 b3 ?_ ?_ ?_ ?_ ?_ ?_).mono ?_; go_simp; go_simp; go_simp; go_simp; go_simp; go_simp; rintro e w' ⟨rfl, rfl⟩) | go_in)
  refine wp_loop_rounds 2 ?_
  rw [rounds_succ]
  go_wp2_with (first | (go_at_call 22; refine (idx6 _ _ _ b0 b1 b2 b3 ?_ ?_ ?_ ?_ ?_ ?_).mono ?_; go_simp; go_simp; go_simp; go_simp; go_simp; go_simp; rintro e w' ⟨rfl, rfl⟩) | (go_at_call 17; refine (hexValue_at _ _ b0 b1 b2 b3 _ ?_ ?_ ?_ ?_ g0.out g1.out g2.out g3.out).mono ?_; go_simp; go_simp; go_simp; go_simp; rw [hr.out]; rintro e w' ⟨rfl, rfl⟩) | go_in)
  rw [rounds_succ]
  go_wp2_with (first | (go_at_call 22; refine (idx0 _ _ _ _).mono ?_; rintro e w' ⟨rfl, rfl⟩) | go_in)
  rw [run_convert_bytes_arg _ 26 5 Try.underlying26 Try.underlying5 _ 0 3 6 [224 + r / 4096, 128 + r / 64 % 64, 128 + r % 64] rfl ?h 9 Try.underlying9]
  case h =>
    intro i hi
    rcases (show i = 0 ∨ i = 1 ∨ i = 2 by omega) with rfl | rfl | rfl <;> go_simp
  simp only [Result.andThen]
  rw [Oper.upon_value]
  go_wp2
  go_ret
  exact ⟨rfl, by repeat (first | exact Grown.refl _ | apply Grown.drew | apply Grown.alloc)⟩

theorem wraps64 (n : Int) (h₀ : 0 ≤ n) (h₁ : n < 2 ^ 63) : IntKind.i64.wrap n = n := by
  have : (2 : Int) ^ 63 = 9223372036854775808 := by decide
  simp [IntKind.wrap, IntKind.bits, IntKind.signed]
  omega
theorem i64_and63 (x : Int) (h₀ : 0 ≤ x) (h₁ : x < 2 ^ 63) : bits .and .i64 x 63 = x % 64 := bits_mask .i64 63 (by decide) wraps64 6 (by decide) x h₀ h₁
theorem i64_or128 (y : Int) (h₀ : 0 ≤ y) (h₁ : y < 64) : bits .or .i64 128 y = 128 + y :=
  bits_join .i64 63 (by decide) wraps64 6 128 y (by decide) (by decide) (by decide) h₀ h₁ (by omega)
theorem i64_or192 (y : Int) (h₀ : 0 ≤ y) (h₁ : y < 32) : bits .or .i64 192 y = 192 + y :=
  bits_join .i64 63 (by decide) wraps64 5 192 y (by decide) (by decide) (by decide) h₀ h₁ (by omega)
theorem i64_or224 (y : Int) (h₀ : 0 ≤ y) (h₁ : y < 16) : bits .or .i64 224 y = 224 + y :=
  bits_join .i64 63 (by decide) wraps64 4 224 y (by decide) (by decide) (by decide) h₀ h₁ (by omega)
theorem by2 (r : Int) (h0 : 128 ≤ r) (h1 : r < 2048) : bits .or .i64 192 (r / 64) % 256 = 192 + r / 64 := by
  rw [i64_or192 _ (by omega) (by omega)]; omega
theorem byL (r : Int) (h0 : 0 ≤ r) (h1 : r < 65536) : bits .or .i64 128 (bits .and .i64 r 63) % 256 = 128 + r % 64 := by
  rw [i64_and63 _ (by omega) (by omega), i64_or128 _ (by omega) (by omega)]; omega
theorem by3 (r : Int) (h0 : 0 ≤ r) (h1 : r < 65536) : bits .or .i64 224 (r / 4096) % 256 = 224 + r / 4096 := by
  rw [i64_or224 _ (by omega) (by omega)]; omega

set_option maxHeartbeats 1000000 in
theorem app1 (b : Nat) (r : Int) (w : World) (hb : b = w.heap.size) (hr0 : 0 ≤ r) (hr1 : r < 128) :
    Calls Try.prog 10 #[.slice (some ⟨b, 0, none⟩) 0 4, .int .i64 r] (w.alloc (.cells #[.int .u8 0, .int .u8 0, .int .u8 0, .int .u8 0] 5)) fun e w' =>
      e = .returned (.slice (some ⟨w.heap.size, 0, none⟩) 1 4) ∧ w' = (w.alloc (.cells #[.int .u8 (r), .int .u8 0, .int .u8 0, .int .u8 0] 5)).alloc (.cells #[.int .u8 (r)] 5) := by
  subst hb
  go_enter Try.func10, Try.ntmps10
  go_wp2
  go_ret
  exact ⟨rfl, rfl⟩

set_option maxHeartbeats 1000000 in
theorem app2 (b : Nat) (r : Int) (w : World) (hb : b = w.heap.size) (hr0 : 128 ≤ r) (hr1 : r < 2048) :
    Calls Try.prog 10 #[.slice (some ⟨b, 0, none⟩) 0 4, .int .i64 r] (w.alloc (.cells #[.int .u8 0, .int .u8 0, .int .u8 0, .int .u8 0] 5)) fun e w' =>
      e = .returned (.slice (some ⟨w.heap.size, 0, none⟩) 2 4) ∧ w' = (w.alloc (.cells #[.int .u8 (192 + r / 64), .int .u8 (128 + r % 64), .int .u8 0, .int .u8 0] 5)).alloc (.cells #[.int .u8 (192 + r / 64), .int .u8 (128 + r % 64)] 5) := by
  subst hb
  go_enter Try.func10, Try.ntmps10
  go_wp2
  go_ret
  exact ⟨rfl, by rw [by2 r hr0 hr1, byL r (by omega) (by omega)]⟩

set_option maxHeartbeats 1000000 in
theorem app3 (b : Nat) (r : Int) (w : World) (hb : b = w.heap.size) (hr0 : 2048 ≤ r) (hr1 : r < 65536) :
    Calls Try.prog 10 #[.slice (some ⟨b, 0, none⟩) 0 4, .int .i64 r] (w.alloc (.cells #[.int .u8 0, .int .u8 0, .int .u8 0, .int .u8 0] 5)) fun e w' =>
      e = .returned (.slice (some ⟨w.heap.size, 0, none⟩) 3 4) ∧ w' = (w.alloc (.cells #[.int .u8 (224 + r / 4096), .int .u8 (128 + r / 64 % 64), .int .u8 (128 + r % 64), .int .u8 0] 5)).alloc (.cells #[.int .u8 (224 + r / 4096), .int .u8 (128 + r / 64 % 64), .int .u8 (128 + r % 64)] 5) := by
  subst hb
  go_enter Try.func10, Try.ntmps10
  go_wp2
  go_ret
  exact ⟨rfl, by rw [by3 r (by omega) (by omega), byL r (by omega) (by omega), byL (r / 64) (by omega) (by omega)]⟩
end Go.Proofs.Qxb6614267a
