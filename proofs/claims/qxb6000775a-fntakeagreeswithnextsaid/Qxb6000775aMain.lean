/- zzb1Clone; the law's walk over a slice that is not nil, and over nil. -/
import Derived.Test.Qxb6000775aCallees
namespace Go.Proofs.Qxb6000775a
open Go.ChangeShapes Go.WideShapes Go.ChangeAt Go.RowKit Go.Deep
set_option linter.unusedVariables false
set_option maxHeartbeats 400000 in
theorem clone_none (w : World) :
    Calls Try.prog 10 #[.slice none 0 0] w fun e w' => e = .returned (.slice none 0 0) ∧ w' = w := by
  have q22 : ∀ (w : World) (a : Option Addr) (n c n' c' : Nat), (binOp .eql 22 (.slice a n c) (.slice none n' c')).run Try.prog w = .ok (.bool a.isNone) w := fun w a n c n' c' => Lib.run_eql_slice_nil w _ _ a n c n' c' Try.underlying22
  go_enter Try.func10, Try.ntmps10
  go_wp2
  go_ret
  exact ⟨rfl, rfl⟩
theorem lt_of_cell {w : World} {a : Addr} {v : Value} (h : w.cell? a = some v) : a.block < w.heap.size := by
  rcases Nat.lt_or_ge a.block w.heap.size with k | k
  · exact k
  · have : w.heap[a.block]? = none := Array.getElem?_eq_none k
    simp [World.cell?, this] at h
set_option maxHeartbeats 1000000 in
theorem clone_some (x : Addr) (len cap : Nat) (zs : List Int) (w : World) (hl : len ≤ 1048576) (hc : Hid (∀ i, i < len → w.cell? (x.add i) = some (.int .u8 (zs.getD i 0)))) :
    Calls Try.prog 10 #[.slice (some x) len cap] w fun e w' => ∃ D, e = .returned (.slice (some ⟨D, 0, none⟩) len len) ∧ D < w'.heap.size ∧ w.heap.size ≤ w'.heap.size ∧ Below w.heap.size w w' ∧ Hid (∀ i, i < len → w'.cell? ⟨D, i, none⟩ = some (.int .u8 (zs.getD i 0))) := by
  have q22 : ∀ (w : World) (a : Option Addr) (n c n' c' : Nat), (binOp .eql 22 (.slice a n c) (.slice none n' c')).run Try.prog w = .ok (.bool a.isNone) w := fun w a n c n' c' => Lib.run_eql_slice_nil w _ _ a n c n' c' Try.underlying22
  have hmk := run_make_row' (P := Try.prog) 22 5 (.int .u8 0) 1 Try.underlying22 (by kernel_rfl) rfl .i64 .i64 len (by omega) (by omega)
  go_enter Try.func10, Try.ntmps10
  go_wp2
  clear hmk q22
  go_loopw [4] (fun i wr => ∃ k : Nat, k ≤ len ∧ i = .int .i64 k ∧ Hid (wr.heap.size = w.heap.size + 1) ∧ Hid (Below w.heap.size w wr) ∧ Hid (wr.rowIs w.heap.size 5 len (fun j => if j < k then .int .u8 (zs.getD j 0) else .int .u8 0)))
    (fun i _ => len - (intOf i).toNat)
  case atStart => 
    refine ⟨0, Nat.zero_le _, rfl, by show _ = _; simp, (Below.refl _ _).alloc (Nat.le_refl _) _, ?_⟩
    exact (World.rowIs_made w (.int .u8 0) len 5)
  case round =>
    obtain ⟨k, hk, rfl, hsz, hB, hrow⟩ := hrel
    by_cases hlt : k < len
    · have hck : wr.cell? (x.add k) = some (.int .u8 (zs.getD k 0)) := by
        have h := hc.out k hlt
        rw [hB.out.cell (lt_of_cell h)]; exact h
      have hdst : wr.cell? ⟨w.heap.size, k, none⟩ = some (.int .u8 0) := by
        rw [hrow.out.cell hlt]; simp
      have hfr : wr.frozen? ⟨w.heap.size, k, none⟩ = false := hrow.out.frozen k
      go_wp2
      go_roundw
      case rel =>
        refine ⟨k + 1, by omega, by go_num, ?_, hB.out.setCell (Nat.le_refl _) _, ?_⟩
        · show _ = _; have h := hsz.out; simpa using h
        · refine (hrow.out.set k _).congr fun i hi => ?_
          by_cases e1 : i = k
          · subst e1; simp [List.getD]
          · by_cases e2 : i < k
            · rw [if_neg e1, if_pos e2, if_pos (by omega)]
            · rw [if_neg e1, if_neg e2, if_neg (by omega)]
      case measure => simp [intOf]; omega
    · obtain rfl : k = len := by omega
      go_wp2
      go_ret
      refine ⟨_, rfl, ?_, ?_, hB.out, ?_⟩
      · rw [hsz.out]; omega
      · rw [hsz.out]; omega
      · intro i hi
        rw [hrow.out.cell hi]; simp [hi]
theorem ws_idx (c : Int) (h0 : 0 ≤ c) (h1 : c ≤ 255) (h : wsB c = false) : Lib.indexByte (⟨#[32, 9, 10, 13]⟩ : ByteArray).data.toList c.toNat.toUInt8 = -1 := by
  obtain ⟨n, rfl⟩ := Int.eq_ofNat_of_zero_le h0
  have hn : n < 256 := by omega
  have key : ∀ m : Fin 256, wsB ((m.val : Nat) : Int) = false → Lib.indexByte [32, 9, 10, 13] m.val.toUInt8 = -1 := by decide +kernel
  exact key ⟨n, hn⟩ h
theorem one_idx (c : Int) : Lib.indexByte (strOfNums [c]).data.toList c.toNat.toUInt8 = (0 : Nat) := by
  show Lib.indexByte [UInt8.ofNat c.toNat] (UInt8.ofNat c.toNat) = _
  simp [Lib.indexByte]
set_option maxHeartbeats 1000000 in
theorem main_some (x : Addr) (len cap : Nat) (z : List Int) (p : Nat) (w : World) (hz : Hid (z.length = len)) (hl : len ≤ 1048576) (hp : p ≤ len)
    (hc : Hid (∀ i, i < len → w.cell? (x.add i) = some (.int .u8 (z.getD i 0)))) (hwf : Hid (∀ n ∈ z, 0 ≤ n ∧ n ≤ 255)) :
    Calls Try.prog 8 #[.slice (some x) len cap, .int .i64 p] w fun e w' => e = .returned (.bool true) ∧ Below w.heap.size w w' := by
  go_enter Try.func8, Try.ntmps8
  go_wp2_with (first 
    | (go_at_call 10; refine (clone_some x len cap z _ hl hc).mono ?_; rintro e w1 ⟨D, rfl, hD, hs, hB, hcell⟩)
    | (go_at_call 19; go_in))
  refine (zznext w1 (some ⟨D, 0, none⟩) D len p z hl hp (fun _ => rfl) (fun _ => hD) hcell).mono ?_
  rintro e w' ⟨w2, j, c, rfl, hk, rfl, hj, hcj⟩
  have hs2 : w.heap.size ≤ w2.heap.size := by rw [hk.out.size]; exact hs
  have hB2 : Below w.heap.size w w2 := hk.out.below hB
  by_cases hlt : j < len
  · obtain ⟨ec, hws⟩ := hcj.out hlt
    have HW : Hid (wsB c = false) := hws
    have hcw : 0 ≤ c ∧ c ≤ 255 := by
      rw [← ec, List.getD_eq_getElem?_getD, List.getElem?_eq_getElem (by rw [hz.out]; exact hlt)]
      exact hwf.out _ (List.getElem_mem _)
    have hC : Hid (w1.cell? ⟨D, j, none⟩ = some (.int .u8 c)) := by
      have h := hcell.out j hlt
      rw [ec] at h; exact h
    clear ec hws hcj hcell
    have hD2 : D < w2.heap.size := by rw [hk.out.size]; exact hD
    go_wp2_with fail
    refine (take_no _ D len j _ c hl hlt (by simp; omega) (by rw [World.cell?_alloc_lt _ _ _ hD2, hk.out.cell]; exact hC.out) (ws_idx c hcw.1 hcw.2 HW.out)).mono ?_
    rintro e w' ⟨w3, rfl, hk3, rfl⟩
    have hs3 : w3.heap.size = w2.heap.size + 1 := by rw [hk3.out.size]; simp
    have HS3 : Hid (w3.heap.size = w2.heap.size + 1) := hs3
    clear hs3
    have hB3 : Below w.heap.size w w3 := hk3.out.below (hB2.alloc hs2 _)
    go_wp2_with fail
    rw [run_convert_bytes_arg _ 22 5 Try.underlying22 Try.underlying5 _ 0 1 1 [c] rfl ?h 9 Try.underlying9]
    case h =>
      intro i hi
      obtain rfl : i = 0 := by omega
      go_simp
    simp only [Result.andThen]
    rw [Oper.upon_value]
    go_wp2_with fail
    have hD3 : D < w3.heap.size := by rw [HS3.out]; omega
    refine (take_yes _ D len j 0 _ c hl hlt (by simp; omega) (by rw [World.cell?_alloc_lt _ _ _ (show D < _ by simp; omega), World.cell?_alloc_lt _ _ _ hD3, hk3.out.cell, World.cell?_alloc_lt _ _ _ hD2, hk.out.cell]; exact hC.out) (one_idx c)).mono ?_
    rintro e w' ⟨w4, rfl, hk4, rfl⟩
    go_wp2
    go_ret
    refine ⟨rfl, Below.alloc (hk4.out.below ((hB3.alloc (by rw [HS3.out]; omega) _).alloc (by simp; have := HS3.out; omega) _)) ?_ _⟩
    rw [hk4.out.size]; simp; have := HS3.out; omega
  · obtain rfl : j = len := by omega
    go_wp2_with fail
    refine (take_end _ _ j j _ hl (Nat.le_refl _) hl).mono ?_
    rintro e w' ⟨w3, rfl, hk3, rfl⟩
    go_wp2
    go_ret
    refine ⟨rfl, Below.alloc (hk3.out.below (hB2.alloc hs2 _)) ?_ _⟩
    rw [hk3.out.size]; simp; omega
set_option maxHeartbeats 1000000 in
theorem main_nil (w : World) : Calls Try.prog 8 #[.slice none 0 0, .int .i64 0] w fun e w' => e = .returned (.bool true) ∧ Below w.heap.size w w' := by
  go_enter Try.func8, Try.ntmps8
  go_wp2_with (first
    | (go_at_call 10; refine (clone_none _).mono ?_; rintro e w' ⟨rfl, rfl⟩)
    | (go_at_call 19; go_in))
  refine (zznext _ none 0 0 0 [] (by omega) (by omega) (fun h => absurd h (by omega)) (fun h => absurd h (by omega)) (fun i hi => absurd hi (by omega))).mono ?_
  rintro e w' ⟨w2, j, c, rfl, hk, rfl, hj, hcj⟩
  obtain rfl : j = 0 := by omega
  go_wp2_with fail
  refine (take_end _ _ 0 0 _ (by omega) (Nat.le_refl _) (by omega)).mono ?_
  rintro e w' ⟨w3, rfl, hk3, rfl⟩
  go_wp2
  go_ret
  refine ⟨rfl, Below.alloc (hk3.out.below (Below.alloc (hk.out.below (Below.refl _ _)) ?_ _)) ?_ _⟩
  · rw [hk.out.size]; exact Nat.le_refl _
  · rw [hk3.out.size]; simp; rw [hk.out.size]; omega
end Go.Proofs.Qxb6000775a
