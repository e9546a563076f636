/- firstEq, hasSub, the bound on the lengths, textBytes. -/
import Derived.Test.Qxb6614432aHas

namespace Go.Proofs.Qxb6614432a
open Go.ChangeShapes Go.WideShapes Go.ChangeAt Go.RowKit Go.Deep
set_option linter.unusedVariables false
theorem ib_some : ∀ (l : List UInt8) (c : UInt8) (k : Nat), l[k]? = some c → (∀ j, j < k → l[j]? ≠ some c) → Lib.indexByte l c = k
  | [], c, k, h, _ => by simp at h
  | b :: l, c, 0, h, _ => by
    simp at h
    show (if b == c then (0 : Int) else _) = _
    rw [if_pos (by simp [h])]; rfl
  | b :: l, c, k + 1, h, hn => by
    have h0 : ¬ (b == c) = true := by
      intro e
      exact hn 0 (by omega) (by simpa using e)
    have ih := ib_some l c k (by simpa using h) (fun j hj e => hn (j + 1) (by omega) (by simpa using e))
    show (if b == c then (0 : Int) else if Lib.indexByte l c == -1 then -1 else Lib.indexByte l c + 1) = _
    rw [if_neg h0, ih, if_neg (by simp)]
    omega
theorem ib_none : ∀ (l : List UInt8) (c : UInt8), (∀ j : Nat, l[j]? ≠ some c) → Lib.indexByte l c = -1
  | [], _, _ => rfl
  | b :: l, c, hn => by
    have h0 : ¬ (b == c) = true := by
      intro e
      exact hn 0 (by simpa using e)
    have ih := ib_none l c (fun j e => hn (j + 1) (by simpa using e))
    show (if b == c then (0 : Int) else if Lib.indexByte l c == -1 then -1 else Lib.indexByte l c + 1) = _
    rw [if_neg h0, ih]; rfl
theorem at_byte {s : ByteArray} {k : Nat} (h : k < s.size) : s.data.toList[k]? = some s[k] := by
  rw [List.getElem?_eq_getElem (by simpa using h)]; rfl
theorem b61 {c : UInt8} : ((c.toNat : Int) == 61) = true ↔ c = 61 := by
  rw [beq_iff_eq]
  constructor
  · intro h; apply UInt8.toNat_inj.1; show c.toNat = 61; omega
  · rintro rfl; rfl
set_option maxHeartbeats 400000 in
theorem firstEq_any (s : ByteArray) (w : World) (hs : s.size ≤ 1048576) :
    Calls Try.prog 11 #[.string s] w fun e w' => e = .returned (.int .i64 (Lib.indexByte s.data.toList 61)) ∧ w = w' := by
  go_enter Try.func11, Try.ntmps11
  go_wp2
  go_loop [3] (fun i => ∃ k : Nat, k ≤ s.size ∧ i = .int .i64 k ∧ Hid (∀ j, j < k → s.data.toList[j]? ≠ some 61)) (fun i => s.size - (intOf i).toNat)
  case atStart => exact ⟨0, Nat.zero_le _, rfl, fun j hj => by omega⟩
  case round =>
    obtain ⟨k, hk, rfl, hf⟩ := hrel
    by_cases hlt : k < s.size
    · go_wp2
      · go_ret
        rename_i hh _
        exact ⟨ret_int (ib_some _ _ _ (by rw [at_byte hlt, b61.1 hh]) hf.out).symm, rfl⟩
      · go_round
        case rel =>
          rename_i hh
          refine ⟨k + 1, by omega, by go_num, fun j hj => ?_⟩
          by_cases e : j = k
          · subst e
            rw [at_byte hlt]
            intro e2
            rw [Option.some.injEq] at e2
            rw [b61.2 e2] at hh; cases hh
          · exact hf.out j (by omega)
        case measure => simp [intOf]; omega
    · obtain rfl : k = s.size := by omega
      go_wp2
      go_ret
      refine ⟨ret_int (ib_none _ _ fun j => ?_).symm, rfl⟩
      by_cases e : j < s.size
      · exact hf.out j e
      · rw [List.getElem?_eq_none (by simp; omega)]; simp
theorem ext_occ {s : ByteArray} {k : Nat} : ((s.extract k (k + 7)).toList == [80, 65, 84, 84, 69, 82, 78]) = true ↔ occ s.data.toList k := by
  rw [Lib.toList_data, Lib.extract_data, show k + 7 - k = 7 by omega, beq_iff_eq]
  exact occ_iff _ _
set_option maxHeartbeats 400000 in
theorem hasSub_any (s : ByteArray) (w : World) (hs : s.size ≤ 1048576) :
    Calls Try.prog 12 #[.string s, .string ⟨#[80, 65, 84, 84, 69, 82, 78]⟩] w fun e w' => e = .returned (.bool (hasL s.data.toList)) ∧ w = w' := by
  go_enter Try.func12, Try.ntmps12
  go_wp2
  go_loop [5] (fun i => ∃ k : Nat, k ≤ s.size ∧ i = .int .i64 k ∧ Hid (∀ m, m < k → ¬ occ s.data.toList m)) (fun i => s.size + 1 - (intOf i).toNat)
  case atStart => exact ⟨0, Nat.zero_le _, rfl, fun j hj => by omega⟩
  case round =>
    obtain ⟨k, hk, rfl, hf⟩ := hrel
    by_cases hlt : k + 7 ≤ s.size
    · have hsl := slice_at s k (k + 7) ((k : Int) + 7) (by omega) (by omega) hlt
      go_wp2
      · go_ret
        rename_i hh _
        exact ⟨ret_b (hasL_true (ext_occ.1 hh)).symm, rfl⟩
      · go_round
        case rel =>
          rename_i hh
          refine ⟨k + 1, by omega, by go_num, fun m hm ho => ?_⟩
          by_cases e : m = k
          · subst e
            rw [ext_occ.2 ho] at hh; cases hh
          · exact hf.out m (by omega) ho
        case measure => simp [intOf]; omega
    · go_wp2
      go_ret
      exact ⟨ret_b (hasL_false fun m hm ho => hf.out m (by have := occ_le ho; simp at this; omega) ho).symm, rfl⟩

/-- what is told of a []string that came in, its bounds not yet known -/
structure InS (w : World) (a : Option Addr) (b o n : Nat) (ys : List ByteArray) : Prop where
  len : ys.length = n
  big : n ≤ 9223372036854775807
  adr : 0 < n → a = some ⟨b, o, none⟩
  nil : a = none → n = 0
  cell : ∀ i, i < n → w.cell? ⟨b, o + i, none⟩ = some (.string (ys.getD i ByteArray.empty))
def ZFacts (le la : Nat) (es gs1 : List ByteArray) (a e : ByteArray) : Prop := le ≤ 1048576 ∧ la ≤ 1048576 ∧ (∀ i, i < le → (es.getD i ByteArray.empty).size ≤ 1048576) ∧ (∀ i, i < la → (gs1.getD i ByteArray.empty).size ≤ 1048576) ∧ a.size ≤ 1048576 ∧ e.size ≤ 1048576
def ZPost (P : Prop) (w : World) (en : Ending) (w' : World) : Prop := ∃ ok : Bool, en = .returned (.bool ok) ∧ w = w' ∧ (ok = true → P)
theorem zfalse {P : Prop} {w : World} : ZPost P w (.returned (.bool false)) w := ⟨false, rfl, rfl, fun h => by cases h⟩
set_option maxRecDepth 20000 in
set_option maxHeartbeats 2000000 in
theorem zz_any (ae aa : Option Addr) (be oe le ce ba oa la ca : Nat) (es gs1 : List ByteArray) (i j : Int) (a e : ByteArray) (w : World) (hE : Hid (InS w ae be oe le es)) (hA : Hid (InS w aa ba oa la gs1)) :
    Calls Try.prog 14 #[.slice ae le ce, .slice aa la ca, .int .i64 i, .string a, .int .i64 j, .string e] w fun en w' => ZPost (ZFacts le la es gs1 a e) w en w' := by
  by_cases h1 : le ≤ 1048576
  · go_enter Try.func14, Try.ntmps14
    go_wp2
    go_loop [13, 14] (fun z i => ∃ n k : Nat, n ≤ 1048576 ∧ k ≤ le ∧ z = .int .i64 n ∧ i = .int .i64 k ∧ Hid (∀ i, i < k → (es.getD i ByteArray.empty).size ≤ 1048576)) (fun _ i => le - (intOf i).toNat)
    case atStart => exact ⟨le, 0, h1, Nat.zero_le _, rfl, rfl, fun i hi => by omega⟩
    case round =>
      obtain ⟨n, k, hn, hk, rfl, rfl, hsz⟩ := hrel
      by_cases hlt : k < le
      · have ea := hE.out.adr (by omega); subst ea
        obtain ⟨s, hs⟩ : ∃ s, Hid (es.getD k ByteArray.empty = s) := ⟨es.getD k ByteArray.empty, show _ = _ from rfl⟩
        have hck : w.cell? ⟨be, oe + k, none⟩ = some (.string s) := by rw [hE.out.cell k hlt, hs.out]
        by_cases hss : s.size ≤ 1048576
        · go_wp2
          · go_ret
            exact zfalse
          · go_round
            case rel =>
              refine ⟨n + s.size, k + 1, by omega, by omega, by go_num, by go_num, fun i hi => ?_⟩
              by_cases e : i = k
              · subst e; rw [hs.out]; exact hss
              · exact hsz.out i (by omega)
            case measure => simp [intOf]; omega
        · go_wp2
          go_ret
          exact zfalse
      · obtain rfl : k = le := by omega
        by_cases h2 : la ≤ 1048576
        · go_wp2
          · go_ret
            exact zfalse
          go_loop [13, 15] (fun z i => ∃ n m : Nat, n ≤ 1048576 ∧ m ≤ la ∧ z = .int .i64 n ∧ i = .int .i64 m ∧ Hid (∀ i, i < m → (gs1.getD i ByteArray.empty).size ≤ 1048576)) (fun _ i => la - (intOf i).toNat)
          case atStart => exact ⟨n + la, 0, by omega, Nat.zero_le _, by go_num, rfl, fun i hi => by omega⟩
          case round =>
            obtain ⟨n, m, hn, hm, rfl, rfl, hsz2⟩ := hrel
            by_cases hlt : m < la
            · have ea := hA.out.adr (by omega); subst ea
              obtain ⟨s, hs⟩ : ∃ s, Hid (gs1.getD m ByteArray.empty = s) := ⟨gs1.getD m ByteArray.empty, show _ = _ from rfl⟩
              have hck : w.cell? ⟨ba, oa + m, none⟩ = some (.string s) := by rw [hA.out.cell m hlt, hs.out]
              by_cases hss : s.size ≤ 1048576
              · go_wp2
                · go_ret
                  exact zfalse
                · go_round
                  case rel =>
                    refine ⟨n + s.size, m + 1, by omega, by omega, by go_num, by go_num, fun i hi => ?_⟩
                    by_cases e : i = m
                    · subst e; rw [hs.out]; exact hss
                    · exact hsz2.out i (by omega)
                  case measure => simp [intOf]; omega
              · go_wp2
                go_ret
                exact zfalse
            · obtain rfl : m = la := by omega
              by_cases h3 : a.size ≤ 1048576
              · by_cases h4 : e.size ≤ 1048576
                · go_wp2
                  all_goals go_ret
                  all_goals first
                    | exact zfalse
                    | exact ⟨true, rfl, rfl, fun _ => ⟨h1, h2, hsz.out, hsz2.out, h3, h4⟩⟩
                · go_wp2
                  all_goals go_ret
                  all_goals exact zfalse
              · go_wp2
                all_goals go_ret
                all_goals exact zfalse
        · have := hA.out.big
          go_wp2
          go_ret
          exact zfalse
  · have hbig := hE.out.big
    go_enter Try.func14, Try.ntmps14
    go_wp2
    go_ret
    exact zfalse

def TPost (z : Nat) (w : World) (en : Ending) (w' : World) : Prop := ∃ (n : Nat) (ok : Bool), en = .returned (.tuple #[.int .i64 n, .bool ok]) ∧ w = w' ∧ n ≤ 1048576 ∧ (ok = true → z ≤ n)
theorem tfalse {z : Nat} {w : World} : TPost z w (.returned (.tuple #[.int .i64 0, .bool false])) w := ⟨0, false, rfl, rfl, by omega, fun h => by cases h⟩
set_option maxRecDepth 20000 in
set_option maxHeartbeats 2000000 in
theorem text_any (ae aa : Option Addr) (be oe le ce ba oa la ca : Nat) (es gs1 : List ByteArray) (w : World) (hE : Hid (InS w ae be oe le es)) (hA : Hid (InS w aa ba oa la gs1)) (h1 : le ≤ 1048576) (h2 : la ≤ 1048576)
    (hse : Hid (∀ i, i < le → (es.getD i ByteArray.empty).size ≤ 1048576)) (hsa : Hid (∀ i, i < la → (gs1.getD i ByteArray.empty).size ≤ 1048576)) :
    Calls Try.prog 7 #[.slice ae le ce, .slice aa la ca] w fun en w' => TPost (le + la) w en w' := by
  go_enter Try.func7, Try.ntmps7
  go_wp2
  go_loop [6, 7] (fun z i => ∃ n k : Nat, n ≤ 1048576 ∧ k ≤ le ∧ k ≤ n ∧ z = .int .i64 n ∧ i = .int .i64 k) (fun _ i => le - (intOf i).toNat)
  case atStart => exact ⟨0, 0, by omega, Nat.zero_le _, by omega, rfl, rfl⟩
  case round =>
    obtain ⟨n, k, hn, hk, hz, rfl, rfl⟩ := hrel
    by_cases hlt : k < le
    · have ea := hE.out.adr (by omega); subst ea
      obtain ⟨s, hs⟩ : ∃ s, Hid (es.getD k ByteArray.empty = s) := ⟨es.getD k ByteArray.empty, show _ = _ from rfl⟩
      have hck : w.cell? ⟨be, oe + k, none⟩ = some (.string s) := by rw [hE.out.cell k hlt, hs.out]
      have hss : s.size ≤ 1048576 := by rw [← hs.out]; exact hse.out k hlt
      go_wp2
      · go_ret2
        exact tfalse
      · go_round
        case rel => exact ⟨n + (16 + s.size), k + 1, by omega, by omega, by omega, by go_num, by go_num⟩
        case measure => simp [intOf]; omega
    · obtain rfl : k = le := by omega
      go_wp2
      go_loop [6, 8] (fun z i => ∃ n m : Nat, n ≤ 1048576 ∧ m ≤ la ∧ k + m ≤ n ∧ z = .int .i64 n ∧ i = .int .i64 m) (fun _ i => la - (intOf i).toNat)
      case atStart => exact ⟨n, 0, hn, Nat.zero_le _, by omega, rfl, rfl⟩
      case round =>
        obtain ⟨n, m, hn, hm, hz, rfl, rfl⟩ := hrel
        by_cases hlt : m < la
        · have ea := hA.out.adr (by omega); subst ea
          obtain ⟨s, hs⟩ : ∃ s, Hid (gs1.getD m ByteArray.empty = s) := ⟨gs1.getD m ByteArray.empty, show _ = _ from rfl⟩
          have hck : w.cell? ⟨ba, oa + m, none⟩ = some (.string s) := by rw [hA.out.cell m hlt, hs.out]
          have hss : s.size ≤ 1048576 := by rw [← hs.out]; exact hsa.out m hlt
          go_wp2
          · go_ret2
            exact tfalse
          · go_round
            case rel => exact ⟨n + (16 + s.size), m + 1, by omega, by omega, by omega, by go_num, by go_num⟩
            case measure => simp [intOf]; omega
        · obtain rfl : m = la := by omega
          go_wp2
          go_ret2
          exact ⟨n, true, rfl, rfl, hn, fun _ => by omega⟩
end Go.Proofs.Qxb6614432a
