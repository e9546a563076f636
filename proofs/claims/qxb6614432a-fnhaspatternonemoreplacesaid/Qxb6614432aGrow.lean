/- (*strings.Builder).Grow at a builder that has been written. -/
import Derived.Test.Qxb6614432aNext
import Derived.Lib.Builder
import Derived.Deep.WholeRow
import Derived.Deep.RegionHeld
import Derived.Laws.CopyOwn
import Derived.RegionTactic

namespace Go.Proofs.Qxb6614432a
open Go.ChangeShapes Go.WideShapes Go.ChangeAt Go.RowKit Go.Deep
set_option linter.unusedVariables false
theorem heap_lt {w : World} {b : Nat} {o : Obj} (h : w.heap[b]? = some o) : b < w.heap.size := by
  rcases Nat.lt_or_ge b w.heap.size with h' | h'
  · exact h'
  · simp [Array.getElem?_eq_none h'] at h
set_option maxHeartbeats 1000000 in
set_option maxRecDepth 100000 in
theorem grow_row (B b n g len cap : Nat) (cur : Array Value) (w : World) (hB : B ≤ b) (hBg : B ≤ g)
    (hbk : Hid (w.heap[b]? = some (.cells #[.pointer (some ⟨b, 0, none⟩), .slice (some ⟨g, 0, none⟩) len cap] 131 (0, 0)))) (hg : Hid (w.heap[g]? = some (.cells cur 5 (0, 0))))
    (hlc : len ≤ cap) (hcur : Hid (cur.size = cap)) (hgb : ¬ g = b) (hBw : B ≤ w.heap.size) (hcap : cap ≤ 2097152) (hn : n ≤ 2097152) (hone : ∀ v ∈ cur.toList.take len, v.oneCell' = true) :
    Calls Try.prog 82 #[.pointer (some ⟨b, 0, none⟩), .int .i64 n] w fun e w' => ∃ cs : Array Value, e = .returned (.tuple #[]) ∧ 2 * cap + n ≤ cs.size ∧ cs.size ≤ maxLen ∧
      w' = ((w.setCell ⟨b, 1, none⟩ (.slice (some ⟨w.heap.size, 0, none⟩) len cs.size)).alloc (.cells (cur.toList.take len ++ cs.toList.drop len).toArray 5)).drew.drew.drew := by
  obtain ⟨cs, hrun, hle, hmax⟩ := Lib.run_makeNoZero (P := Try.prog) w.drew #[3] 75 5 Try.underlying75 (2 * cap + n) (by omega)
  have hcall : (callFunc 84 #[.int .i64 (2 * (cap : Int) + (n : Int))]).run Try.prog w.drew = .ok (.value (.slice (some ⟨w.drew.heap.size, 0, none⟩) (2 * cap + n) cs.size)) (w.drew.drew.drew.alloc (.cells cs 5)) := by
    rw [show (2 * (cap : Int) + (n : Int)) = ((2 * cap + n : Nat) : Int) by omega, run_callFunc_extern Try.func84 (by kernel_rfl) (by kernel_rfl) (by kernel_rfl) (e := Extern.BytealgMakeNoZero.makeNoZero #[3] #[75]) (by kernel_rfl), hrun]
    rfl
  clear hrun
  have hb := heap_lt hbk.out
  have c1 : w.cell? ⟨b, 1, none⟩ = some (.slice (some ⟨g, 0, none⟩) len cap) := by rw [Lib.cell_of_heap hbk.out]; rfl
  have f1 : w.frozen? ⟨b, 1, none⟩ = false := Lib.frozen_of_heap hbk.out 1
  have hcopy : (Builtin.copy_ #[75, 75] 3 #[.slice (some ⟨w.heap.size, 0, none⟩) len cs.size, .slice (some ⟨g, 0, none⟩) len cap]).run Try.prog (w.alloc (.cells cs 5)).drew.drew.drew = .ok (goInt len) (w.alloc (.cells (cur.toList.take len ++ cs.toList.drop len).toArray 5)).drew.drew.drew := by
    have hlen : (cur.toList.take len).length = len := by simp [hcur.out]; omega
    have h := run_copy_row (P := Try.prog) (w.alloc (.cells cs 5)).drew.drew.drew 75 75 3 5 w.heap.size 0 len cs.size ⟨g, 0, none⟩ len cap cs 5 (cur.toList.take len) Try.underlying75 (by kernel_rfl)
      (blk_alloc_new _ _) (by rw [hlen]; simp) (fun j v hj => by
        have e : (⟨g, 0, none⟩ : Addr).add j = ⟨g, j, none⟩ := by unfold Addr.add; split <;> simp_all
        rw [e]
        show (w.alloc (.cells cs 5)).cell? ⟨g, j, none⟩ = some v
        rw [World.cell?_alloc_lt _ _ _ (heap_lt hg.out), Lib.cell_of_heap hg.out]
        rw [List.getElem?_take] at hj
        split at hj
        · simpa using hj
        · cases hj) (by rw [hlen]; omega) hone
    rw [h, hlen]
    show Result.ok (goInt len) (((w.alloc (.cells cs 5)).setRow w.heap.size _).drew.drew.drew) = _
    rw [World.setRow_alloc_new]
    simp
  go_enter Try.func82, Try.ntmps82
  go_wp2
  go_region
  all_goals go_wp2
  go_end0
  exact ⟨cs, rfl, hle, hmax (by unfold maxLen; omega), rfl⟩

theorem below_drewN {B : Nat} {a w : World} (h : Below B a w) (q : Nat) : Below B a (w.drewN q) := h.trans ⟨rfl, rfl, rfl, Nat.le_refl _, fun _ _ => rfl⟩
theorem built_drewN {B b : Nat} {p : Value} {bs : List Value} {w : World} (h : Lib.BuilderAt 131 5 B b p bs w) (q : Nat) : Lib.BuilderAt 131 5 B b p bs (w.drewN q) := h
/-- the builder behind 'grow' -/
theorem grown_built (B b g len : Nat) (cap : Nat) (cur cs : Array Value) (w : World) (bs : List Value) (hB : B ≤ b) (hbk : w.heap[b]? = some (.cells #[.pointer (some ⟨b, 0, none⟩), .slice (some ⟨g, 0, none⟩) len cap] 131 (0, 0)))
    (hbs : bs.length = len) (htk : cur.toList.take len = bs) (hBw : B ≤ w.heap.size) (hle : len ≤ cs.size) (hm : cs.size ≤ maxLen) :
    Lib.BuilderAt 131 5 B b (.pointer (some ⟨b, 0, none⟩)) bs ((w.setCell ⟨b, 1, none⟩ (.slice (some ⟨w.heap.size, 0, none⟩) len cs.size)).alloc (.cells (cur.toList.take len ++ cs.toList.drop len).toArray 5)) := by
  have hb := heap_lt hbk
  have hsz : (w.setCell ⟨b, 1, none⟩ (.slice (some ⟨w.heap.size, 0, none⟩) len cs.size)).heap.size = w.heap.size := by simp [World.setCell]
  refine ⟨hB, .slice (some ⟨w.heap.size, 0, none⟩) len cs.size, ?_, ⟨by omega, .inr ⟨w.heap.size, cs.size, (cur.toList.take len ++ cs.toList.drop len).toArray, by rw [hbs], hBw, ?_, by omega, hm, ?_, ?_⟩⟩, ?_⟩
  · rw [Lib.alloc_old _ _ _ (by rw [hsz]; exact hb)]
    simp [World.setCell, Array.getElem?_modify, hbk]
  · have := blk_alloc_new (w.setCell ⟨b, 1, none⟩ (.slice (some ⟨w.heap.size, 0, none⟩) len cs.size)) (.cells (cur.toList.take len ++ cs.toList.drop len).toArray 5)
    rw [hsz] at this
    exact this
  · rw [htk]; simp; omega
  · rw [htk, hbs]; simp
    rw [List.take_append_of_le_length (by omega), List.take_of_length_le (by omega)]
  · simp [Value.ownBlock]; omega
theorem grow_fresh (B b n : Nat) (w : World) (hB : B ≤ b) (hbk : w.heap[b]? = some (.cells #[.pointer (some ⟨b, 0, none⟩), .slice none 0 0] 131 (0, 0))) (hBw : B ≤ w.heap.size) (hn : n ≤ 281474976710656) :
    Calls Try.prog 82 #[.pointer (some ⟨b, 0, none⟩), .int .i64 n] w fun e w' => e = .returned (.tuple #[]) ∧ (Lib.BuilderAt 131 5 B b (.pointer (some ⟨b, 0, none⟩)) [] w' ∧ Below B w w') :=
  Any.Builder_grow_fresh (ρ := Try.lays165_ren) { Try.lays165 with } Try.Builder_Extra_165 B b n w hB hbk hBw hn
theorem cc_used (b : Nat) (w : World) (h0 : w.cell? ⟨b, 0, none⟩ = some (.pointer (some ⟨b, 0, none⟩))) :
    Calls Try.prog 81 #[.pointer (some ⟨b, 0, none⟩)] w fun e w' => e = .returned (.tuple #[]) ∧ w = w' :=
  (Try.Builder_copyCheck_used b w h0).mono fun e w' ⟨h1, h2⟩ => ⟨h1, h2.symm⟩
set_option maxHeartbeats 1000000 in
theorem Grow_room (b n len cap : Nat) (a : Option Addr) (w : World) (c0 : w.cell? ⟨b, 0, none⟩ = some (.pointer (some ⟨b, 0, none⟩))) (c1 : w.cell? ⟨b, 1, none⟩ = some (.slice a len cap))
    (hle : len ≤ cap) (hcm : cap ≤ 9223372036854775807) (hc : len + n ≤ cap) :
    Calls Try.prog 78 #[.pointer (some ⟨b, 0, none⟩), .int .i64 n] w fun e w' => e = .returned (.tuple #[]) ∧ ∃ q, w' = w.drewN q := by
  go_enter Try.func78, Try.ntmps78
  go_wp2_with (go_at_call 81; refine (cc_used b _ c0).mono ?_; rintro e w' ⟨rfl, rfl⟩)
  go_quiet (fail)
  go_wp2
  go_end0
  exact ⟨rfl, _, rfl⟩
set_option maxHeartbeats 1000000 in
theorem Grow_calls (b n len cap : Nat) (a : Option Addr) (w : World) (c0 : w.cell? ⟨b, 0, none⟩ = some (.pointer (some ⟨b, 0, none⟩))) (c1 : w.cell? ⟨b, 1, none⟩ = some (.slice a len cap))
    (hle : len ≤ cap) (hcm : cap ≤ 9223372036854775807) (hn : n ≤ 2097152) (hc : cap < len + n) (R : World → Prop)
    (hr : Hid (∀ q, Calls Try.prog 82 #[.pointer (some ⟨b, 0, none⟩), .int .i64 n] (w.drewN q) fun e w' => e = .returned (.tuple #[]) ∧ R w')) :
    Calls Try.prog 78 #[.pointer (some ⟨b, 0, none⟩), .int .i64 n] w fun e w' => e = .returned (.tuple #[]) ∧ R w' := by
  go_enter Try.func78, Try.ntmps78
  go_wp2_with (go_at_call 81; refine (cc_used b _ c0).mono ?_; rintro e w' ⟨rfl, rfl⟩)
  go_quiet (fail)
  go_wp2_with (go_at_call 82; refine (hr.out _).mono ?_; rintro e w' ⟨rfl, h1⟩)
  go_end0
  exact ⟨rfl, h1⟩
theorem Grow_used (B b n : Nat) (bs : List Value) (w : World) (h : Lib.BuilderAt 131 5 B b (.pointer (some ⟨b, 0, none⟩)) bs w) (hone : ∀ v ∈ bs, v.oneCell' = true) (hBw : B ≤ w.heap.size) (hn : bs.length + n ≤ 2097152) :
    Calls Try.prog 78 #[.pointer (some ⟨b, 0, none⟩), .int .i64 n] w fun e w' => e = .returned (.tuple #[]) ∧ Lib.BuilderAt 131 5 B b (.pointer (some ⟨b, 0, none⟩)) bs w' ∧ Below B w w' := by
  have h0 := h
  obtain ⟨hB, v, hbk, hown, hne⟩ := h0
  have c0 : w.cell? ⟨b, 0, none⟩ = some (.pointer (some ⟨b, 0, none⟩)) := by rw [Lib.cell_of_heap hbk]; rfl
  have c1 : w.cell? ⟨b, 1, none⟩ = some v := by rw [Lib.cell_of_heap hbk]; rfl
  rcases hown with ⟨_, ⟨rfl, hz⟩ | ⟨g, cap, cur, rfl, hBg, hg, hle, hcm, hcs, htk⟩⟩
  · by_cases hn0 : n = 0
    · subst hn0
      refine (Grow_room b 0 0 0 none w c0 c1 (Nat.le_refl _) (by omega) (by omega)).mono ?_
      rintro e w' ⟨rfl, q, rfl⟩
      exact ⟨rfl, built_drewN h _, below_drewN (Below.refl _ _) _⟩
    · have eb : bs = [] := List.length_eq_zero_iff.1 hz
      refine Grow_calls b n 0 0 none w c0 c1 (Nat.le_refl _) (by omega) (by omega) (by omega) _ fun q => ?_
      refine (grow_fresh B b n (w.drewN q) hB hbk hBw (by omega)).mono ?_
      rintro e w' ⟨rfl, h1, h2⟩
      exact ⟨rfl, by rw [eb]; exact h1, (below_drewN (Below.refl _ _) _).trans h2⟩
  · have hcs' : Hid (cur.size = cap) := by show _ = _; omega
    have HT : cur.toList.take bs.length = bs := by rw [Nat.mul_one] at htk; exact htk
    have hgb : ¬ g = b := by intro e; apply hne; simp [Value.ownBlock, e]
    unfold maxLen at hcm
    by_cases hc : cap < bs.length + n
    · refine Grow_calls b n bs.length cap _ w c0 c1 hle (by omega) (by omega) hc _ fun q => ?_
      refine (grow_row B b n g bs.length cap cur (w.drewN q) hB hBg hbk hg hle hcs' hgb hBw (by omega) (by omega) (by rw [HT]; exact hone)).mono ?_
      rintro e w' ⟨cs, rfl, h1, h2, rfl⟩
      refine ⟨rfl, grown_built B b g bs.length cap cur cs (w.drewN q) bs hB hbk rfl HT hBw (by omega) h2, ?_⟩
      exact ((((below_drewN (Below.refl B w) q).setCell (p := ⟨b, 1, none⟩) hB _).alloc (by simpa [World.setCell] using hBw) _).drew.drew.drew)
    · refine (Grow_room b n bs.length cap _ w c0 c1 hle (by omega) (by omega)).mono ?_
      rintro e w' ⟨rfl, q, rfl⟩
      exact ⟨rfl, built_drewN h _, below_drewN (Below.refl _ _) _⟩
end Go.Proofs.Qxb6614432a
