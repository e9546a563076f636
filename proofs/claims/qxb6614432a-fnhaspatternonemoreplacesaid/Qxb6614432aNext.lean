/- The finder in memory; the contract of (*strings.stringFinder).next. -/
import Derived.Test.Qxb6614432aShelf
import Derived.Test.Qxb6614432aRows
import Derived.Test.Qxb6614432aPlain
import Derived.WalkKit
import Derived.ProofKit
import Derived.OpenShut
import Derived.ShutString
import Derived.ChangeOld
import Derived.Below
import Derived.WalkLawsBesides
import Derived.Lib.Bytealg
import Derived.Lib.Walk
import Derived.Deep.QuietTactic
import Derived.BigQuiet
import Derived.Deep.OwnRows
import Derived.Deep.LoopGhost

namespace Go.Proofs.Qxb6614432a
open Go.ChangeShapes Go.WideShapes Go.ChangeAt Go.RowKit Go.Deep
set_option linter.unusedVariables false
/-- the finder of the word, in memory: its struct at block F (the word, 256 skips, a slice), its row of skips at block G -/
structure Finder (F G : Nat) (w : World) : Prop where
  word : w.cell? ⟨F, 0, none⟩ = some (.string ⟨#[80, 65, 84, 84, 69, 82, 78]⟩)
  bads : ∀ c, c < 256 → w.cell? ⟨F, 1 + c, none⟩ = some (.int .i64 (bad c))
  good : w.cell? ⟨F, 257, none⟩ = some (.slice (some ⟨G, 0, none⟩) 7 7)
  goods : ∀ j, j < 7 → w.cell? ⟨G, j, none⟩ = some (.int .i64 (gs j))
theorem Finder.drewN {F G : Nat} {w : World} (h : Finder F G w) (q : Nat) : Finder F G (w.drewN q) := ⟨h.word, h.bads, h.good, h.goods⟩
def patN (k : Nat) : Int := (((pat.getD k 0).toNat : Nat) : Int)
theorem pidx (k : Nat) (hk : k < 7) (wx : World) : (Instr.index 9 (.string ⟨#[80, 65, 84, 84, 69, 82, 78]⟩) (.int .i64 k)).run Try.prog wx = .ok (.int .u8 (patN k)) wx := by
  rcases (show k = 0 ∨ k = 1 ∨ k = 2 ∨ k = 3 ∨ k = 4 ∨ k = 5 ∨ k = 6 by omega) with rfl | rfl | rfl | rfl | rfl | rfl | rfl <;> kernel_rfl
theorem hmt_step {s : ByteArray} {m k i : Nat} (hi : i = m + k) (hmk : i < s.size) (h : ((s[i].toNat : Int) == patN k) = true) (hmt : ∀ k', k + 1 ≤ k' → k' < 7 → s.data.toList[m + k']? = pat[k']?) :
    Hid (∀ k', k ≤ k' → k' < 7 → s.data.toList[m + k']? = pat[k']?) := by
  intro k' h1 h2
  by_cases e : k' = k
  · subst e
    have e1 : s.data.toList[m + k']? = some s[i] := by
      subst hi
      rw [List.getElem?_eq_getElem (by simpa using hmk)]
      rfl
    rw [e1]
    have hp : k' < pat.length := h2
    rw [List.getElem?_eq_getElem hp]
    unfold patN at h
    rw [List.getD_eq_getElem?_getD, List.getElem?_eq_getElem hp] at h
    simp only [beq_iff_eq, Option.getD_some] at h
    have : s[i].toNat = pat[k'].toNat := by omega
    rw [UInt8.toNat_inj.1 this]
  · exact hmt k' (by omega) h2
theorem ret_int {a b : Int} (h : a = b) : Ending.returned (.int .i64 a) = .returned (.int .i64 b) := by rw [h]
theorem gs_ge (k : Nat) (h : k < 7) : 7 ≤ k + gs k := by unfold gs; split <;> omega
theorem mis {s : ByteArray} {m k i : Nat} (hi : i = m + k) (hmk : i < s.size) (hk : k < 7) (h : ((s[i].toNat : Int) == patN k) = false) (hmt : ∀ k', k + 1 ≤ k' → k' < 7 → s.data.toList[m + k']? = pat[k']?)
    (m' : Nat) (h1 : m ≤ m') (h2 : (m' : Int) < m + k + max (bad s[i].toNat) (gs k) - 6) : ¬ occ s.data.toList m' := by
  refine shift hk s[i] ?_ ?_ (fun k' a b => hmt k' (by omega) b) m' h1 h2
  · subst hi
    rw [List.getElem?_eq_getElem (by simpa using hmk)]
    rfl
  · have hp : k < pat.length := hk
    unfold patN at h
    rw [List.getD_eq_getElem?_getD, List.getElem?_eq_getElem hp] at h
    rw [List.getElem?_eq_getElem hp]
    simp only [beq_eq_false_iff_ne, Option.getD_some] at h
    intro e
    rw [Option.some.injEq] at e
    apply h
    rw [e]
set_option maxHeartbeats 1000000 in
theorem next_any (F G : Nat) (s : ByteArray) (w : World) (hs : s.size ≤ 1048576) (hF : Hid (Finder F G w)) :
    Calls Try.prog 77 #[.pointer (some ⟨F, 0, none⟩), .string s] w fun e w' => e = .returned (.int .i64 (fo s.data.toList)) ∧ ∃ (q : Nat), w' = w.drewN q := by
  have c0 := hF.out.word
  go_enter Try.func77, Try.ntmps77
  go_wp2
  go_loopg [5] (s.size + 1) (fun n i wr => ∃ (m q : Nat), i = .int .i64 ((m : Int) + 6) ∧ wr = w.drewN q ∧ m ≤ s.size + 100 ∧ s.size + 1 ≤ n + m ∧ Hid (∀ m', m' < m → ¬ occ s.data.toList m'))
  case atStart => exact ⟨0, 0, rfl, rfl, by omega, by omega, fun m' h => by omega⟩
  case round =>
    obtain ⟨m, q, rfl, rfl, hm, hn, hno⟩ := hrel
    by_cases hlt : m + 6 < s.size
    · go_wp2
      go_loopg [5, 6] 7 (fun n i j wr => ∃ (c q' : Nat), i = .int .i64 ((m : Int) + c - 1) ∧ j = .int .i64 ((c : Int) - 1) ∧ wr = w.drewN q' ∧ c ≤ 7 ∧ c = n ∧ Hid (∀ k, c ≤ k → k < 7 → s.data.toList[m + k]? = pat[k]?))
      case atStart => exact ⟨7, q, by go_num, by go_num, rfl, by omega, rfl, fun k h1 h2 => by omega⟩
      case round =>
        obtain ⟨c, q', rfl, rfl, rfl, hc7, rfl, hmt⟩ := hrel
        rcases c with _ | k
        · have ei : (m : Int) + (0 : Nat) - 1 = m - 1 := by omega
          have ej : ((0 : Nat) : Int) - 1 = -1 := by omega
          rw [ei, ej]
          clear ei ej
          go_wp2
          go_quiet (fail)
          go_wp2
          go_ret
          refine ⟨ret_int ?_, _, rfl⟩
          rw [fo_some _ m (fun k hk => hmt.out k (by omega) hk) hno.out]
        · obtain ⟨i, hi⟩ : ∃ i : Nat, Hid (i = m + k) := ⟨_, rfl⟩
          have hi' := hi.out
          have ei : (m : Int) + (k + 1 : Nat) - 1 = (i : Int) := by omega
          have ej : ((k + 1 : Nat) : Int) - 1 = (k : Int) := by omega
          have hk7 : k < 7 := by omega
          have hmk : i < s.size := by omega
          have hpi := pidx k hk7
          rw [ei, ej]
          clear ei ej hi'
          go_wp2
          go_quiet (fail)
          go_wp2
          · go_roundg k
            case measure => omega
            case rel => exact ⟨k, _, by rw [hi.out]; go_num, by go_num, rfl, by omega, rfl, hmt_step hi.out hmk (by assumption) hmt.out⟩
          · have hcb := hF.out.bads s[i].toNat (s[i].toNat_lt)
            have h256 : s[i].toNat < 256 := s[i].toNat_lt
            have h256' : (s[i].toNat : Int) < 256 := by omega
            have hcg := hF.out.good
            have hcj := hF.out.goods k hk7
            have hbb := bad_bd s[i].toNat
            have hgb := gs_bd k hk7
            obtain ⟨B, hB⟩ : ∃ B, Hid (B = bad s[i].toNat) := ⟨bad s[i].toNat, show _ = _ from rfl⟩
            obtain ⟨Gk, hG⟩ : ∃ B, Hid (B = gs k) := ⟨gs k, show _ = _ from rfl⟩
            rw [← hB.out] at hcb hbb
            rw [← hG.out] at hcj hgb
            go_quiet (fail)
            go_wp2
            have hm1 : Gk ≤ max B Gk := Int.le_max_right _ _
            have hm2 : max B Gk ≤ 13 := Int.max_le.2 ⟨by omega, by omega⟩
            have hm3 : 7 ≤ k + Gk := by rw [hG.out]; exact gs_ge k hk7
            have hi2 := hi.out
            go_roundg (gk - 1)
            case measure => omega
            case rel =>
              refine ⟨(i + max B Gk - 6).toNat, _, ?_, World.drewN_drewN .., by omega, by omega, ?_⟩
              · rw [show (((i + max B Gk - 6).toNat : Nat) : Int) + 6 = i + max B Gk by omega]
              · intro m' h'
                by_cases hlt' : m' < m
                · exact hno.out m' hlt'
                · refine mis hi2 hmk hk7 (by assumption) hmt.out m' (by omega) ?_
                  rw [← hB.out, ← hG.out]
                  omega
    · go_wp2
      go_ret
      exact ⟨ret_int (fo_none _ fun m' ho => hno m' (by have h := occ_le ho; simp at h; omega) ho).symm, q, rfl⟩
end Go.Proofs.Qxb6614432a
