/- Contracts of the callees: strings.IndexByte, next, take, zzb1Clone. -/
import Derived.Test.Qxb6000775aRows
import Derived.WalkKit
import Derived.ProofKit
import Derived.OpenShut
import Derived.ShutString
import Derived.ChangeOld
import Derived.Below
import Derived.WalkLawsBesides
import Derived.Lib.Bytealg
import Derived.Lib.Walk
import Derived.Deep.QuietTactic
import Derived.BigQuiet
import Derived.Deep.OwnRows
import Derived.Deep.LoopGhost
namespace Go.Proofs.Qxb6000775a
open Go.ChangeShapes Go.WideShapes Go.ChangeAt Go.RowKit Go.Deep
set_option linter.unusedVariables false
/-- the same world, but for draws -/
def Lk (a b : World) : Prop := ∃ q, b = a.drewN q
theorem Lk.refl (a : World) : Lk a a := ⟨0, rfl⟩
theorem Lk.trans {a b c : World} (h : Lk a b) (k : Lk b c) : Lk a c := by
  obtain ⟨q, rfl⟩ := h; obtain ⟨r, rfl⟩ := k; exact ⟨q + r, by rw [World.drewN_drewN]⟩
theorem Lk.size {a b : World} (h : Lk a b) : b.heap.size = a.heap.size := by obtain ⟨q, rfl⟩ := h; rfl
theorem Lk.cell {a b : World} (h : Lk a b) (x : Addr) : b.cell? x = a.cell? x := by obtain ⟨q, rfl⟩ := h; rfl
theorem Lk.below {B : Nat} {w a b : World} (h : Lk a b) (k : Below B w a) : Below B w b := by
  obtain ⟨q, rfl⟩ := h; exact k.trans ⟨rfl, rfl, rfl, Nat.le_refl _, fun _ _ => rfl⟩
theorem ps_set1 (w0 : World) (a b c x : Value) (q : Nat) : ((w0.alloc (.cells #[a, b, c] 39)).drewN q).setCell ⟨w0.heap.size, 1, none⟩ x = (w0.drewN q).alloc (.cells #[a, x, c] 39) := by
  show ((w0.alloc (.cells #[a, b, c] 39)).setCell ⟨w0.heap.size, 1, none⟩ x).drewN q = _
  rw [World.setCell_alloc_at _ _ _ _ _ rfl]
  rfl
theorem ps_set (w0 : World) (a b c x y : Value) (q : Nat) (h : x = y) : ((w0.alloc (.cells #[a, b, c] 39)).drewN q).setCell ⟨w0.heap.size, 1, none⟩ x = (w0.drewN q).alloc (.cells #[a, y, c] 39) := by
  subst h; exact ps_set1 w0 a b c x q
theorem dr2 (w0 : World) (X : Obj) (p q : Nat) : ((w0.alloc X).drewN p).drewN q = ((w0.drewN p).drewN q).alloc X := rfl
theorem dr3 (w0 : World) (a b c x : Value) (p q : Nat) : (((w0.alloc (.cells #[a, b, c] 39)).drewN p).setCell ⟨w0.heap.size, 1, none⟩ x).drewN q = ((w0.drewN p).drewN q).alloc (.cells #[a, x, c] 39) := by
  rw [ps_set1]; rfl
def wsB (c : Int) : Bool := decide (c = 32 ∨ c = 9 ∨ c = 10 ∨ c = 13)
theorem ws_no {c : Int} (h1 : (c == 32) = false) (h2 : (c == 9) = false) (h3 : (c == 10) = false) (h4 : (c == 13) = false) : wsB c = false := by
  simp at h1 h2 h3 h4
  simp [wsB, h1, h2, h3, h4]
set_option maxHeartbeats 1000000 in
theorem idx_any (s : ByteArray) (c : Int) (w : World) :
    Calls Try.prog 23 #[.string s, .int .u8 c] w fun e w' => e = .returned (.int .i64 (Lib.indexByte s.data.toList c.toNat.toUInt8)) ∧ w' = w := by
  go_enter Try.func23, Try.ntmps23
  go_wp2
  rw [run_callFunc_extern Try.func25 (by kernel_rfl) (by kernel_rfl) (by kernel_rfl) (e := Extern.BytealgIndexByte.indexByte) (by kernel_rfl), Lib.run_indexByteString s c w]
  simp only [Result.andThen]
  rw [Oper.upon_value]
  go_wp2
  go_ret
  exact ⟨rfl, rfl⟩
set_option maxHeartbeats 1000000 in
theorem next_any (S : Nat) (w0 : World) (a : Option Addr) (D len p : Nat) (z : List Int) (hS : Hid (S = w0.heap.size)) (hlen : len ≤ 1048576) (hp : p ≤ len) (ha : Hid (0 < len → a = some ⟨D, 0, none⟩)) (hD : Hid (0 < len → D < w0.heap.size))
    (hc : Hid (∀ i, i < len → w0.cell? ⟨D, i, none⟩ = some (.int .u8 (z.getD i 0)))) :
    Calls Try.prog 21 #[.pointer (some ⟨S, 0, none⟩)] (w0.alloc (.cells #[.slice a len len, .int .i64 p, .int .i64 0] 39)) fun e w' =>
      ∃ (w2 : World) (j : Nat) (c : Int), e = .returned (.int .u8 c) ∧ Hid (Lk w0 w2) ∧ w' = w2.alloc (.cells #[.slice a len len, .int .i64 j, .int .i64 0] 39) ∧ j ≤ len ∧ Hid (j < len → z.getD j 0 = c ∧ wsB c = false) := by
  go_enter Try.func21, Try.ntmps21
  go_wp2
  go_loopg [] (len - p) (fun k wr => ∃ (w2 : World) (j : Nat), wr = w2.alloc (.cells #[.slice a len len, .int .i64 j, .int .i64 0] 39) ∧ Hid (S = w2.heap.size) ∧ Hid (Lk w0 w2) ∧ j ≤ len ∧ k = len - j)
  case atStart => exact ⟨w0, p, rfl, hS, Lk.refl _, hp, rfl⟩
  case round =>
    obtain ⟨w2, j, rfl, hS2, hk, hj, rfl⟩ := hrel
    have e2 := hS2.out; clear hS2; subst e2
    by_cases hlt : j < len
    · have ea := ha.out (by omega); subst ea
      have hDl : D < w2.heap.size := by rw [hk.out.size]; exact hD.out (by omega)
      have hcj : w2.cell? ⟨D, j, none⟩ = some (.int .u8 (z.getD j 0)) := by rw [hk.out.cell]; exact hc.out j hlt
      go_wp2
      go_quiet (fail)
      go_wp2
      go_quiet (fail)
      go_wp2
      iterate 4
        · go_roundg (len - (j + 1))
          case measure => omega
          case rel => exact ⟨_, j + 1, ps_set _ _ _ _ _ _ _ (by go_num), rfl, hk.out.trans ⟨_, rfl⟩, by omega, rfl⟩
      go_ret
      exact ⟨_, j, _, rfl, hk.out.trans ⟨_, rfl⟩, rfl, by omega, fun _ => ⟨by simp [List.getD], ws_no (by assumption) (by assumption) (by assumption) (by assumption)⟩⟩
    · go_wp2
      go_quiet (fail)
      go_wp2
      go_ret
      exact ⟨_, j, 0, rfl, hk.out.trans ⟨_, rfl⟩, rfl, by omega, fun h => absurd h hlt⟩

set_option maxHeartbeats 1000000 in
theorem zznext (w : World) (a : Option Addr) (D len p : Nat) (z : List Int) (hlen : len ≤ 1048576) (hp : p ≤ len) (ha : Hid (0 < len → a = some ⟨D, 0, none⟩)) (hD : Hid (0 < len → D < w.heap.size))
    (hc : Hid (∀ i, i < len → w.cell? ⟨D, i, none⟩ = some (.int .u8 (z.getD i 0)))) :
    Calls Try.prog 13 #[.slice a len len, .int .i64 p] w fun e w' =>
      ∃ (w2 : World) (j : Nat) (c : Int), e = .returned (.tuple #[.int .u8 c, .int .i64 j]) ∧ Hid (Lk w w2) ∧ w' = w2.alloc (.cells #[.slice a len len, .int .i64 j, .int .i64 0] 39) ∧ j ≤ len ∧ Hid (j < len → z.getD j 0 = c ∧ wsB c = false) := by
  go_enter Try.func13, Try.ntmps13
  go_wp2_with (go_at_call 21; refine (next_any _ _ a D len p z ?_ hlen hp ha hD hc).mono ?_; exact (rfl : _ = _); rintro e w' ⟨w2, j, c, rfl, hk, rfl, hj, hcj⟩)
  have hsz : w.heap.size = w2.heap.size := hk.out.size.symm
  go_quiet (fail)
  go_wp2
  go_ret2
  exact ⟨_, j, c, rfl, hk.out.trans ⟨_, rfl⟩, rfl, hj, hcj⟩
set_option maxHeartbeats 1000000 in
theorem take_end (w0 : World) (a : Option Addr) (len j : Nat) (s : ByteArray) (hlen : len ≤ 1048576) (hj : len ≤ j) (hj2 : j ≤ 1048576) :
    Calls Try.prog 18 #[.slice a len len, .int .i64 j, .string s] w0 fun e w' =>
      ∃ w2, e = .returned (.tuple #[.bool false, .int .i64 j]) ∧ Hid (Lk w0 w2) ∧ w' = w2.alloc (.cells #[.slice a len len, .int .i64 j, .int .i64 0] 39) := by
  have hd : decide (j < len) = false := decide_eq_false (by omega)
  go_enter Try.func18, Try.ntmps18
  go_wp2
  go_quiet (fail)
  go_wp2
  go_quiet (fail)
  go_wp2
  go_ret2
  exact ⟨_, rfl, Lk.trans ⟨_, rfl⟩ ⟨_, rfl⟩, dr2 _ _ _ _⟩
set_option maxHeartbeats 1000000 in
theorem take_no (w0 : World) (D len j : Nat) (s : ByteArray) (c : Int) (hlen : len ≤ 1048576) (hj : j < len) (hD : D < w0.heap.size)
    (hc : w0.cell? ⟨D, j, none⟩ = some (.int .u8 c)) (hi : Hid (Lib.indexByte s.data.toList c.toNat.toUInt8 = -1)) :
    Calls Try.prog 18 #[.slice (some ⟨D, 0, none⟩) len len, .int .i64 j, .string s] w0 fun e w' =>
      ∃ w2, e = .returned (.tuple #[.bool false, .int .i64 j]) ∧ Hid (Lk w0 w2) ∧ w' = w2.alloc (.cells #[.slice (some ⟨D, 0, none⟩) len len, .int .i64 j, .int .i64 0] 39) := by
  have hcall : ∀ wx, Calls Try.prog 23 #[.string s, .int .u8 c] wx fun e w' => e = .returned (.int .i64 (-1)) ∧ w' = wx := fun wx => by
    have h := idx_any s c wx
    rw [hi.out] at h
    exact h
  go_enter Try.func18, Try.ntmps18
  go_wp2
  go_quiet ((go_at_call 23; exact Calls.quiet_of_same (hcall _)))
  go_wp2
  go_quiet (fail)
  go_wp2
  go_ret2
  exact ⟨_, rfl, Lk.trans ⟨_, rfl⟩ ⟨_, rfl⟩, dr2 _ _ _ _⟩
set_option maxHeartbeats 1000000 in
theorem take_yes (w0 : World) (D len j k : Nat) (s : ByteArray) (c : Int) (hlen : len ≤ 1048576) (hj : j < len) (hD : D < w0.heap.size)
    (hc : w0.cell? ⟨D, j, none⟩ = some (.int .u8 c)) (hi : Hid (Lib.indexByte s.data.toList c.toNat.toUInt8 = k)) :
    Calls Try.prog 18 #[.slice (some ⟨D, 0, none⟩) len len, .int .i64 j, .string s] w0 fun e w' =>
      ∃ w2, e = .returned (.tuple #[.bool true, .int .i64 (j + 1)]) ∧ Hid (Lk w0 w2) ∧ w' = w2.alloc (.cells #[.slice (some ⟨D, 0, none⟩) len len, .int .i64 (j + 1), .int .i64 0] 39) := by
  have hcall : ∀ wx, Calls Try.prog 23 #[.string s, .int .u8 c] wx fun e w' => e = .returned (.int .i64 k) ∧ w' = wx := fun wx => by
    have h := idx_any s c wx
    rw [hi.out] at h
    exact h
  go_enter Try.func18, Try.ntmps18
  go_wp2
  go_quiet ((go_at_call 23; exact Calls.quiet_of_same (hcall _)))
  go_wp2
  go_quiet (fail)
  go_wp2
  go_ret2
  exact ⟨_, rfl, Lk.trans ⟨_, rfl⟩ ⟨_, rfl⟩, dr3 _ _ _ _ _ _ _⟩
end Go.Proofs.Qxb6000775a
