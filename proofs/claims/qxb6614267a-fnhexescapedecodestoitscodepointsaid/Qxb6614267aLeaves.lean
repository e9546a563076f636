/- Contracts of the leaves: isHexDigit, zzHexValueOf, bytes.IndexByte, hexValue. -/
import Derived.Test.Qxb6614267aRows
import Derived.WalkKit
import Derived.ProofKit
import Derived.OpenShut
import Derived.ShutString
import Derived.WalkLawsBesides
import Derived.Lib.BytesEntry
import Derived.Lib.Walk
namespace Go.Proofs.Qxb6614267a
open Go.ChangeShapes Go.WideShapes Go.ChangeAt Go.RowKit
def hexB (b : Int) : Bool := decide ((48 ≤ b ∧ b ≤ 57) ∨ (97 ≤ b ∧ b ≤ 102) ∨ (65 ≤ b ∧ b ≤ 70))
def hv (b : Int) : Int := if 48 ≤ b ∧ b ≤ 57 then b - 48 else if 97 ≤ b ∧ b ≤ 102 then b - 87 else if 65 ≤ b ∧ b ≤ 70 then b - 55 else 0
theorem ret_bool {a b : Bool} (h : a = b) : Ending.returned (.bool a) = .returned (.bool b) := by rw [h]
set_option maxHeartbeats 400000 in
theorem isHex_any (b : Int) (w : World) :
    Calls Try.prog 7 #[.int .u8 b] w fun e w' => e = .returned (.bool (hexB b)) ∧ w' = w := by
  go_enter Try.func7, Try.ntmps7
  go_wp2
  all_goals
    go_ret
    refine ⟨ret_bool ?_, rfl⟩
    unfold hexB
    rw [Bool.eq_iff_iff]
    simp
    try omega
def lowZ (k : Nat) : Int := if k < 10 then 48 + k else 87 + k
def upZ (k : Nat) : Int := if k < 10 then 48 + k else 55 + k
theorem lowAtF : ∀ k : Fin 16, (((#[48, 49, 50, 51, 52, 53, 54, 55, 56, 57, 97, 98, 99, 100, 101, 102] : Array UInt8)[k].toNat : Nat) : Int) = lowZ k := by decide
theorem upAtF : ∀ k : Fin 16, (((#[48, 49, 50, 51, 52, 53, 54, 55, 56, 57, 65, 66, 67, 68, 69, 70] : Array UInt8)[k].toNat : Nat) : Int) = upZ k := by decide
theorem lowAt (k : Nat) (h : k < 16) (h') : (((({ data := #[48, 49, 50, 51, 52, 53, 54, 55, 56, 57, 97, 98, 99, 100, 101, 102] } : ByteArray)[k]'h').toNat : Nat) : Int) = lowZ k := lowAtF ⟨k, h⟩
theorem upAt (k : Nat) (h : k < 16) (h') : (((({ data := #[48, 49, 50, 51, 52, 53, 54, 55, 56, 57, 65, 66, 67, 68, 69, 70] } : ByteArray)[k]'h').toNat : Nat) : Int) = upZ k := upAtF ⟨k, h⟩
theorem hv_low (k : Nat) (h : k < 16) (b : Int) (e : lowZ k = b) : hv b = k ∧ hexB b = true := by
  unfold lowZ at e; subst e; unfold hv hexB; split <;> simp <;> omega
theorem hv_up (k : Nat) (h : k < 16) (b : Int) (e : upZ k = b) : hv b = k ∧ hexB b = true := by
  unfold upZ at e; subst e; unfold hv hexB; split <;> simp <;> omega
theorem hv_none (b : Int) (h : ∀ j : Nat, j < 16 → lowZ j ≠ b ∧ upZ j ≠ b) : hv b = 0 ∧ hexB b = false := by
  have hn : ¬ ((48 ≤ b ∧ b ≤ 57) ∨ (97 ≤ b ∧ b ≤ 102) ∨ (65 ≤ b ∧ b ≤ 70)) := by
    rintro (⟨h1, h2⟩ | ⟨h1, h2⟩ | ⟨h1, h2⟩)
    · exact (h (b - 48).toNat (by omega)).1 (by unfold lowZ; split <;> omega)
    · exact (h (b - 87).toNat (by omega)).1 (by unfold lowZ; split <;> omega)
    · exact (h (b - 55).toNat (by omega)).2 (by unfold upZ; split <;> omega)
  unfold hv hexB
  exact ⟨by split; omega; split; omega; split; omega; rfl, by simpa using hn⟩
theorem none_step (k : Nat) (hlt : k < 16) (b : Int) {x y : Int} (ex : x = lowZ k) (ey : y = upZ k) (h0 : ¬ x = b) (h1 : y ≠ b)
    (hf : Hid (∀ j : Nat, j < k → lowZ j ≠ b ∧ upZ j ≠ b)) : Hid (∀ j : Nat, j < k + 1 → lowZ j ≠ b ∧ upZ j ≠ b) := by
  intro j hj
  by_cases e : j = k
  · subst e; subst ex; subst ey; exact ⟨h0, h1⟩
  · exact hf j (by omega)
theorem ret_tup {a a' : Int} {b b' : Bool} (h : a' = a ∧ b' = b) : Ending.returned (.tuple #[.int .i64 a, .bool b]) = .returned (.tuple #[.int .i64 a', .bool b']) := by rw [h.1, h.2]
set_option maxHeartbeats 400000 in
theorem hexVal_any (b : Int) (w : World) :
    Calls Try.prog 6 #[.int .u8 b] w fun e w' => e = .returned (.tuple #[.int .i64 (hv b), .bool (hexB b)]) ∧ w' = w := by
  go_enter Try.func6, Try.ntmps6
  go_wp2
  go_loop [4] (fun i => ∃ k : Nat, k ≤ 16 ∧ i = .int .i64 k ∧ Hid (∀ j : Nat, j < k → lowZ j ≠ b ∧ upZ j ≠ b)) (fun i => 16 - (intOf i).toNat)
  case atStart => exact ⟨0, Nat.zero_le _, rfl, show Hid _ from fun j hj => by omega⟩
  case round =>
    obtain ⟨k, hk, rfl, hf⟩ := hrel
    by_cases hlt : k < 16
    · go_wp2
      · go_ret2
        exact ⟨ret_tup (hv_low k hlt b (by rw [← lowAt k hlt (by assumption)]; assumption)), rfl⟩
      · go_ret2
        refine ⟨ret_tup (hv_up k hlt b ?_), rfl⟩
        rename_i h0 h1 _
        rw [← upAt k hlt (by assumption)]
        simp only [beq_iff_eq] at h1
        exact h1.resolve_left h0
      · go_round
        case rel => 
          refine ⟨k + 1, by omega, by go_num, ?_⟩
          rename_i h0 h1
          simp only [beq_eq_false_iff_ne] at h1
          exact none_step k hlt b (lowAt k hlt (by assumption)) (upAt k hlt (by assumption)) h0 h1.2 hf
        case measure => simp [intOf]; omega
    · have hk16 : k = 16 := by omega
      go_wp2
      go_ret2
      exact ⟨ret_tup (hv_none b (by rw [← hk16]; exact hf.out)), rfl⟩

/-! ### bytes.IndexByte, at the two texts that unquote hands it -/
set_option maxHeartbeats 1000000 in
theorem idx_any (b o n c : Nat) (xs : List Int) (cv : Int) (w : World) (hx : xs.length = n)
    (hc : ∀ i, i < n → w.cell? ⟨b, o + i, none⟩ = some (.int .u8 (xs.getD i 0))) :
    Calls Try.prog 22 #[.slice (some ⟨b, o, none⟩) n c, .int .u8 cv] w fun e w' => e = .returned (.int .i64 (Lib.indexByte (Lib.bytesOf xs) cv.toNat.toUInt8)) ∧ w' = w := by
  go_enter Try.func22, Try.ntmps22
  go_wp2
  rw [run_callFunc_extern Try.func35 (by kernel_rfl) (by kernel_rfl) (by kernel_rfl) (e := Extern.BytealgIndexByte.indexByte) (by kernel_rfl), Lib.run_indexByteSlice w b o n c xs hx hc cv]
  simp only [Result.andThen]
  rw [Oper.upon_value]
  go_wp2
  go_ret
  exact ⟨rfl, rfl⟩
theorem idx6 (b c : Nat) (w : World) (b0 b1 b2 b3 : Int) (h1 : w.cell? ⟨b, 1, none⟩ = some (.int .u8 92)) (h2 : w.cell? ⟨b, 2, none⟩ = some (.int .u8 117))
    (h3 : w.cell? ⟨b, 3, none⟩ = some (.int .u8 b0)) (h4 : w.cell? ⟨b, 4, none⟩ = some (.int .u8 b1)) (h5 : w.cell? ⟨b, 5, none⟩ = some (.int .u8 b2)) (h6 : w.cell? ⟨b, 6, none⟩ = some (.int .u8 b3)) :
    Calls Try.prog 22 #[.slice (some ⟨b, 1, none⟩) 6 c, .int .u8 92] w fun e w' => e = .returned (.int .i64 0) ∧ w' = w :=
  idx_any b 1 6 c [92, 117, b0, b1, b2, b3] 92 w rfl fun i hi => by
    rcases (show i = 0 ∨ i = 1 ∨ i = 2 ∨ i = 3 ∨ i = 4 ∨ i = 5 by omega) with rfl | rfl | rfl | rfl | rfl | rfl <;> assumption
theorem idx0 (b o c : Nat) (w : World) :
    Calls Try.prog 22 #[.slice (some ⟨b, o, none⟩) 0 c, .int .u8 92] w fun e w' => e = .returned (.int .i64 (-1)) ∧ w' = w :=
  idx_any b o 0 c [] 92 w rfl fun i hi => by omega

/-! ### hexValue -/
def racc (l : List Int) : Int := l.foldl (fun r x => r * 16 + hv x) 0
theorem racc_snoc (l : List Int) (x : Int) : racc (l ++ [x]) = racc l * 16 + hv x := by simp [racc]
theorem hv_bd (x : Int) : 0 ≤ hv x ∧ hv x < 16 := by unfold hv; split; omega; split; omega; split; omega; omega
theorem racc_bd0 (l : List Int) : 0 ≤ racc l := by
  unfold racc
  suffices ∀ (l : List Int) (r : Int), 0 ≤ r → 0 ≤ l.foldl (fun r x => r * 16 + hv x) r from this l 0 (by omega)
  intro l
  induction l with
  | nil => intro r h; exact h
  | cons x l ih => intro r h; have := hv_bd x; exact ih _ (show 0 ≤ r * 16 + hv x by omega)
theorem racc_bd (x0 x1 x2 x3 : Int) (k : Nat) (hk : k < 4) : racc ([x0, x1, x2, x3].take k) < 4096 := by
  have h0 := hv_bd x0; have h1 := hv_bd x1; have h2 := hv_bd x2
  rcases (show k = 0 ∨ k = 1 ∨ k = 2 ∨ k = 3 by omega) with rfl | rfl | rfl | rfl <;> simp [racc] <;> omega
theorem racc_four (x0 x1 x2 x3 : Int) : racc [x0, x1, x2, x3] = hv x0 * 4096 + hv x1 * 256 + hv x2 * 16 + hv x3 := by
  simp [racc]; omega
theorem racc_lt (x0 x1 x2 x3 : Int) : racc [x0, x1, x2, x3] < 65536 := by
  have h0 := hv_bd x0; have h1 := hv_bd x1; have h2 := hv_bd x2; have h3 := hv_bd x3
  rw [racc_four]; omega
theorem or16 (r d : Int) (h0 : 0 ≤ r) (h1 : r < 4096) (h2 : 0 ≤ d) (h3 : d < 16) : bits .or .i32 (r * 16) d = r * 16 + d :=
  bits_join .i32 31 (by decide) wraps_i32 4 (r * 16) d (by omega) (by omega) (by omega) h2 (by omega) (by omega)
theorem take_next (l : List Int) (k : Nat) (h : k < l.length) : racc (l.take (k + 1)) = racc (l.take k) * 16 + hv l[k] := by
  rw [List.take_succ_eq_append_getElem h, racc_snoc]
theorem step_dig {l : List Int} {k : Nat} (h : k < l.length) (h0 : 0 ≤ racc (l.take k)) (h1 : racc (l.take k) < 4096) (ha : 48 ≤ l[k]) (hb : l[k] ≤ 57) :
    bits .or .i32 (racc (l.take k) * 16) (l[k] - 48) = racc (l.take (k + 1)) := by
  rw [take_next l k h, or16 _ _ h0 h1 (by omega) (by omega)]; unfold hv; rw [if_pos ⟨ha, hb⟩]
theorem step_low {l : List Int} {k : Nat} (h : k < l.length) (h0 : 0 ≤ racc (l.take k)) (h1 : racc (l.take k) < 4096) (ha : 97 ≤ l[k]) (hb : l[k] ≤ 102) :
    bits .or .i32 (racc (l.take k) * 16) (l[k] - 97 + 10) = racc (l.take (k + 1)) := by
  rw [take_next l k h, or16 _ _ h0 h1 (by omega) (by omega)]; unfold hv; rw [if_neg (by omega), if_pos ⟨ha, hb⟩]; omega
theorem step_up {l : List Int} {k : Nat} (h : k < l.length) (h0 : 0 ≤ racc (l.take k)) (h1 : racc (l.take k) < 4096) (hx : hexB (l.getD k 0) = true) (ha : ¬ (48 ≤ l[k] ∧ l[k] ≤ 57)) (hb : ¬ (97 ≤ l[k] ∧ l[k] ≤ 102)) :
    bits .or .i32 (racc (l.take k) * 16) ((l[k] - 65 + 10) % 256) = racc (l.take (k + 1)) := by
  have hx' : hexB l[k] = true := by rw [List.getD_eq_getElem?_getD, List.getElem?_eq_getElem h] at hx; exact hx
  unfold hexB at hx'
  have hu := (of_decide_eq_true hx').resolve_left ha |>.resolve_left hb
  rw [take_next l k h, or16 _ _ h0 h1 (by omega) (by omega)]; unfold hv; rw [if_neg ha, if_neg hb, if_pos hu]; omega
theorem ret_i32 {a b : Int} (h : a = b) : Ending.returned (.int .i32 a) = .returned (.int .i32 b) := by rw [h]
set_option maxHeartbeats 400000 in
theorem hexValue_any (b o c : Nat) (x : List Int) (w : World) (hx : x.length = 4) (hc : ∀ i, i < 4 → w.cell? ⟨b, o + i, none⟩ = some (.int .u8 (x.getD i 0)))
    (hh : ∀ i, i < 4 → hexB (x.getD i 0) = true) (hbd : ∀ k, k < 4 → racc (x.take k) < 4096) :
    Calls Try.prog 17 #[.slice (some ⟨b, o, none⟩) 4 c] w fun e w' => e = .returned (.int .i32 (racc x)) ∧ w' = w := by
  go_enter Try.func17, Try.ntmps17
  go_wp2
  go_loop [3, 8] (fun r i => ∃ k : Nat, k ≤ 4 ∧ i = .int .i64 k ∧ r = .int .i32 (racc (x.take k))) (fun _ i => 4 - (intOf i).toNat)
  case atStart => exact ⟨0, Nat.zero_le _, rfl, rfl⟩
  case round =>
    obtain ⟨k, hk, rfl, rfl⟩ := hrel
    have hcell : k < 4 → w.cell? ⟨b, o + k, none⟩ = some (.int .u8 (x.getD k 0)) := fun _ => hc k (by omega)
    by_cases hlt : k < 4
    · have hr1 := racc_bd0 (x.take k)
      have hr2 := hbd k hlt
      have HH : Hid (hexB (x.getD k 0) = true) := hh k hlt
      clear hh hbd
      go_wp2
      · go_round
        case rel => exact ⟨k + 1, by omega, by go_num, by rw [step_dig (by omega) hr1 hr2 (by assumption) (by assumption)]⟩
        case measure => simp [intOf]; omega
      · go_round
        case rel => exact ⟨k + 1, by omega, by go_num, by rw [step_low (by omega) hr1 hr2 (by assumption) (by assumption)]⟩
        case measure => simp [intOf]; omega
      all_goals
        go_round
        case rel => exact ⟨k + 1, by omega, by go_num, by rw [step_up (by omega) hr1 hr2 HH.out (by omega) (by omega)]⟩
        case measure => simp [intOf]; omega
    · obtain rfl : k = 4 := by omega
      go_wp2
      go_ret
      exact ⟨ret_i32 (by rw [List.take_of_length_le (by omega)]), rfl⟩
theorem hexValue_at (b c : Nat) (b0 b1 b2 b3 : Int) (w : World) (h3 : w.cell? ⟨b, 3, none⟩ = some (.int .u8 b0)) (h4 : w.cell? ⟨b, 4, none⟩ = some (.int .u8 b1)) (h5 : w.cell? ⟨b, 5, none⟩ = some (.int .u8 b2)) (h6 : w.cell? ⟨b, 6, none⟩ = some (.int .u8 b3))
    (g0 : hexB b0 = true) (g1 : hexB b1 = true) (g2 : hexB b2 = true) (g3 : hexB b3 = true) :
    Calls Try.prog 17 #[.slice (some ⟨b, 3, none⟩) 4 c] w fun e w' => e = .returned (.int .i32 (racc [b0, b1, b2, b3])) ∧ w' = w :=
  hexValue_any b 3 c [b0, b1, b2, b3] w rfl
    (fun i hi => by rcases (show i = 0 ∨ i = 1 ∨ i = 2 ∨ i = 3 by omega) with rfl | rfl | rfl | rfl <;> assumption)
    (fun i hi => by rcases (show i = 0 ∨ i = 1 ∨ i = 2 ∨ i = 3 by omega) with rfl | rfl | rfl | rfl <;> assumption)
    (fun k hk => racc_bd b0 b1 b2 b3 k hk)
end Go.Proofs.Qxb6614267a
