/- Contracts of the callees: bytes.IndexByte, done, skipLine, zzDeClone. -/
import Derived.Test.Qxb6614368aRows
import Derived.Test.Qxb6614368aPlain
import Derived.WalkKit
import Derived.ProofKit
import Derived.OpenShut
import Derived.ShutString
import Derived.ChangeOld
import Derived.Below
import Derived.WalkLawsBesides
import Derived.Lib.BytesEntry
import Derived.Lib.Walk
import Derived.Deep.QuietTactic
import Derived.BigQuiet
import Derived.Deep.OwnRows
import Derived.Deep.WholeRow
import Derived.Deep.RegionHeld
import Derived.Laws.CopyOwn
namespace Go.Proofs.Qxb6614368a
open Go.ChangeShapes Go.WideShapes Go.ChangeAt Go.RowKit Go.Deep
set_option linter.unusedVariables false
set_option maxHeartbeats 1000000 in
theorem idx_any (b o n c : Nat) (xs : List Int) (cv : Int) (w : World) (hx : xs.length = n)
    (hc : ∀ i, i < n → w.cell? ⟨b, o + i, none⟩ = some (.int .u8 (xs.getD i 0))) :
    Calls Try.prog 13 #[.slice (some ⟨b, o, none⟩) n c, .int .u8 cv] w fun e w' => e = .returned (.int .i64 (Lib.indexByte (Lib.bytesOf xs) cv.toNat.toUInt8)) ∧ w' = w := by
  go_enter Try.func13, Try.ntmps13
  go_wp2
  rw [run_callFunc_extern Try.func14 (by kernel_rfl) (by kernel_rfl) (by kernel_rfl) (e := Extern.BytealgIndexByte.indexByte) (by kernel_rfl), Lib.run_indexByteSlice w b o n c xs hx hc cv]
  simp only [Result.andThen]
  rw [Oper.upon_value]
  go_wp2
  go_ret
  exact ⟨rfl, rfl⟩

set_option maxHeartbeats 400000 in
theorem done_any (w0 : World) (a : Option Addr) (len cap : Nat) (p l : Int) :
    Calls Try.prog 7 #[.pointer (some ⟨w0.heap.size, 0, none⟩)] (w0.alloc (.cells #[.slice a len cap, .int .i64 p, .int .i64 l] 31)) fun e w' =>
      e = .returned (.bool (decide ((len : Int) ≤ p))) ∧ ∃ q, w' = (w0.alloc (.cells #[.slice a len cap, .int .i64 p, .int .i64 l] 31)).drewN q := by
  go_enter Try.func7, Try.ntmps7
  go_wp2
  go_quiet (fail)
  go_wp2
  go_ret
  exact ⟨rfl, _, rfl⟩

theorem sc_set1 (w0 : World) (a b c x : Value) (q : Nat) : ((w0.alloc (.cells #[a, b, c] 31)).drewN q).setCell ⟨w0.heap.size, 1, none⟩ x = (w0.alloc (.cells #[a, x, c] 31)).drewN q := by
  show ((w0.alloc (.cells #[a, b, c] 31)).setCell ⟨w0.heap.size, 1, none⟩ x).drewN q = _
  rw [World.setCell_alloc_at _ _ _ _ _ rfl]
  rfl
theorem sc_set2 (w0 : World) (a b c x y : Value) (q : Nat) : (((w0.alloc (.cells #[a, b, c] 31)).drewN q).setCell ⟨w0.heap.size, 1, none⟩ x).setCell ⟨w0.heap.size, 2, none⟩ y = (w0.alloc (.cells #[a, x, y] 31)).drewN q := by
  rw [sc_set1]
  show ((w0.alloc (.cells #[a, x, c] 31)).setCell ⟨w0.heap.size, 2, none⟩ y).drewN q = _
  rw [World.setCell_alloc_at _ _ _ _ _ rfl]
  rfl
set_option maxHeartbeats 400000 in
theorem skip_none (w0 : World) (D len p : Nat) (l : Int) (z : List Int) (hz : z.length = len) (hlen : len ≤ 65536) (hp : p < len) (hD : D < w0.heap.size)
    (hc : ∀ i, i < len → w0.cell? ⟨D, i, none⟩ = some (.int .u8 (z.getD i 0)))
    (hi : Hid (Lib.indexByte (Lib.bytesOf (z.drop p)) 10 = -1)) :
    Calls Try.prog 8 #[.pointer (some ⟨w0.heap.size, 0, none⟩)] (w0.alloc (.cells #[.slice (some ⟨D, 0, none⟩) len len, .int .i64 p, .int .i64 l] 31)) fun e w' =>
      e = .returned (.tuple #[]) ∧ ∃ q, w' = (w0.alloc (.cells #[.slice (some ⟨D, 0, none⟩) len len, .int .i64 len, .int .i64 l] 31)).drewN q := by
  have hcall : ∀ (c q : Nat), Calls Try.prog 13 #[.slice (some ⟨D, p, none⟩) (len - p) c, .int .u8 10] ((w0.alloc (.cells #[.slice (some ⟨D, 0, none⟩) len len, .int .i64 p, .int .i64 l] 31)).drewN q) fun e w' =>
      e = .returned (.int .i64 (-1)) ∧ w' = (w0.alloc (.cells #[.slice (some ⟨D, 0, none⟩) len len, .int .i64 p, .int .i64 l] 31)).drewN q := fun c q => by
    have h := idx_any D p (len - p) c (z.drop p) 10 ((w0.alloc (.cells #[.slice (some ⟨D, 0, none⟩) len len, .int .i64 p, .int .i64 l] 31)).drewN q) (by simp [hz]) (fun i hi => by
      rw [World.cell?_drewN, World.cell?_alloc_lt _ _ _ hD, hc (p + i) (by omega)]; simp [List.getD])
    rw [show (Lib.indexByte (Lib.bytesOf (z.drop p)) (10 : Int).toNat.toUInt8) = -1 from hi.out] at h
    exact h
  clear hc
  go_enter Try.func8, Try.ntmps8
  go_wp2
  go_quiet ((go_at_call 13; exact Calls.quiet_of_same (hcall _ _)))
  go_wp2
  refine bodyPost_ret (results_none rfl _ _ _) rfl ?_
  go_wp2
  go_end0
  exact ⟨rfl, nq, sc_set1 _ _ _ _ _ _⟩
set_option maxHeartbeats 400000 in
theorem skip_some (w0 : World) (D len p k : Nat) (l : Int) (z : List Int) (hz : z.length = len) (hlen : len ≤ 65536) (hp : p < len) (hk : p + k < len) (hl0 : 0 ≤ l) (hl1 : l ≤ 1073807360) (hD : D < w0.heap.size)
    (hc : ∀ i, i < len → w0.cell? ⟨D, i, none⟩ = some (.int .u8 (z.getD i 0)))
    (hi : Hid (Lib.indexByte (Lib.bytesOf (z.drop p)) 10 = k)) :
    Calls Try.prog 8 #[.pointer (some ⟨w0.heap.size, 0, none⟩)] (w0.alloc (.cells #[.slice (some ⟨D, 0, none⟩) len len, .int .i64 p, .int .i64 l] 31)) fun e w' =>
      e = .returned (.tuple #[]) ∧ ∃ q, w' = (w0.alloc (.cells #[.slice (some ⟨D, 0, none⟩) len len, .int .i64 (p + (k + 1)), .int .i64 (l + 1)] 31)).drewN q := by
  have hcall : ∀ (c q : Nat), Calls Try.prog 13 #[.slice (some ⟨D, p, none⟩) (len - p) c, .int .u8 10] ((w0.alloc (.cells #[.slice (some ⟨D, 0, none⟩) len len, .int .i64 p, .int .i64 l] 31)).drewN q) fun e w' =>
      e = .returned (.int .i64 k) ∧ w' = (w0.alloc (.cells #[.slice (some ⟨D, 0, none⟩) len len, .int .i64 p, .int .i64 l] 31)).drewN q := fun c q => by
    have h := idx_any D p (len - p) c (z.drop p) 10 ((w0.alloc (.cells #[.slice (some ⟨D, 0, none⟩) len len, .int .i64 p, .int .i64 l] 31)).drewN q) (by simp [hz]) (fun i hi => by
      rw [World.cell?_drewN, World.cell?_alloc_lt _ _ _ hD, hc (p + i) (by omega)]; simp [List.getD])
    rw [show (Lib.indexByte (Lib.bytesOf (z.drop p)) (10 : Int).toNat.toUInt8) = k from hi.out] at h
    exact h
  clear hc
  go_enter Try.func8, Try.ntmps8
  go_wp2
  go_quiet ((go_at_call 13; exact Calls.quiet_of_same (hcall _ _)))
  go_wp2
  go_end0
  go_wp2
  go_end0
  exact ⟨rfl, nq, sc_set2 _ _ _ _ _ _ _⟩
theorem cell_past {w : World} {a : Addr} {v : Value} (o : Obj) (h : w.cell? a = some v) : (w.alloc o).cell? a = some v := by
  rw [World.cell?_alloc_some _ _ _ (by rw [h]; rfl), h]
theorem copy_run (x : Addr) (len cap : Nat) (zs : List Int) (w : World) (hz : zs.length = len) (hc : ∀ i, i < len → w.cell? (x.add i) = some (.int .u8 (zs.getD i 0))) (ty : TypeId) :
    (Builtin.copy_ #[22, 22] ty #[.slice (some ⟨w.heap.size, 0, none⟩) len len, .slice (some x) len cap]).run Try.prog (w.alloc (.cells (madeCells #[.int .u8 0] len) 5)) =
      .ok (goInt len) (w.alloc (.cells (zs.map (Value.int .u8)).toArray 5)) := by
  have h := run_copy_row (P := Try.prog) (w.alloc (.cells (madeCells #[.int .u8 0] len) 5)) 22 22 ty 5 w.heap.size 0 len len x len cap (madeCells #[.int .u8 0] len) 5 (zs.map (Value.int .u8))
    Try.underlying22 (by kernel_rfl) (blk_alloc_new _ _) (by simp [hz]) (fun j v hj => by
      have hjl : j < zs.length := by
        rcases Nat.lt_or_ge j zs.length with h | h
        · exact h
        · simp [List.getElem?_eq_none (show (zs.map (Value.int .u8)).length ≤ j by simpa using h)] at hj
      have hcj := hc j (by omega)
      rw [cell_past _ hcj]
      simp [List.getElem?_eq_getElem hjl] at hj
      subst hj
      simp [List.getD, List.getElem?_eq_getElem hjl]) (by simp [size_madeCells, hz]) (by simp [Value.oneCell'])
  rw [h, World.setRow_alloc_new]
  rw [List.drop_of_length_le (by simp [size_madeCells, hz])]
  simp [hz]
set_option maxHeartbeats 400000 in
theorem clone_some (x : Addr) (len cap : Nat) (zs : List Int) (w : World) (hz : zs.length = len) (hl : len ≤ 65536) (hc : ∀ i, i < len → w.cell? (x.add i) = some (.int .u8 (zs.getD i 0))) :
    Calls Try.prog 5 #[.slice (some x) len cap] w fun e w' => e = .returned (.slice (some ⟨w.heap.size, 0, none⟩) len len) ∧ w' = w.alloc (.cells (zs.map (Value.int .u8)).toArray 5) := by
  have q22 : ∀ (w : World) (a : Option Addr) (n c n' c' : Nat), (binOp .eql 22 (.slice a n c) (.slice none n' c')).run Try.prog w = .ok (.bool a.isNone) w := fun w a n c n' c' => Lib.run_eql_slice_nil w _ _ a n c n' c' Try.underlying22
  have hcp := copy_run x len cap zs w hz hc
  have hmk := run_make_row' (P := Try.prog) 22 5 (.int .u8 0) 1 Try.underlying22 (by kernel_rfl) rfl .i64 .i64 len (by omega) (by omega)
  clear hc
  go_enter Try.func5, Try.ntmps5
  go_wp2
  go_ret
  exact ⟨rfl, rfl⟩
set_option maxHeartbeats 400000 in
theorem clone_none  (w : World)  :
    Calls Try.prog 5 #[.slice none 0 0] w fun e w' => e = .returned (.slice none 0 0) ∧ w' = w := by
  have q22 : ∀ (w : World) (a : Option Addr) (n c n' c' : Nat), (binOp .eql 22 (.slice a n c) (.slice none n' c')).run Try.prog w = .ok (.bool a.isNone) w := fun w a n c n' c' => Lib.run_eql_slice_nil w _ _ a n c n' c' Try.underlying22
  go_enter Try.func5, Try.ntmps5
  go_wp2
  go_ret
  exact ⟨rfl, rfl⟩
end Go.Proofs.Qxb6614368a
