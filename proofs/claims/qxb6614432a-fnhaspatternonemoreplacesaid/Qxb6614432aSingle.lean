/- The contract of (*strings.singleStringReplacer).Replace. -/
import Derived.Test.Qxb6614432aGrow
import Derived.Lib.IndexBytes
import Derived.Laws.DeepStrings4

namespace Go.Proofs.Qxb6614432a
open Go.ChangeShapes Go.WideShapes Go.ChangeAt Go.RowKit Go.Deep
set_option linter.unusedVariables false
/-- the builder of the call: fresh and empty, or written -/
def Bst (B b : Nat) (bs : List Value) (w : World) : Prop :=
  (B ≤ b ∧ bs = [] ∧ w.heap[b]? = some (.cells #[.pointer none, .slice none 0 0] 131 (0, 0))) ∨ Lib.BuilderAt 131 5 B b (.pointer (some ⟨b, 0, none⟩)) bs w
theorem Grow_any (B b n : Nat) (bs : List Value) (w : World) (h : Bst B b bs w) (hone : ∀ v ∈ bs, v.oneCell' = true) (hBw : B ≤ w.heap.size) (hn : bs.length + n ≤ 2097152) :
    Calls Try.prog 78 #[.pointer (some ⟨b, 0, none⟩), .int .i64 n] w fun e w' => e = .returned (.tuple #[]) ∧ Lib.BuilderAt 131 5 B b (.pointer (some ⟨b, 0, none⟩)) bs w' ∧ Below B w w' := by
  rcases h with ⟨hB, rfl, hbk⟩ | h
  · exact Try.Builder_Grow_fresh B b n w hB hbk hBw (by omega)
  · exact Grow_used B b n bs w h hone hBw hn
/-- the single-string replacer in memory: its struct at block S, the finder at F, the finder's row at G -/
structure Single (S F G : Nat) (w : World) : Prop where
  fin : Finder F G w
  ptr : w.cell? ⟨S, 0, none⟩ = some (.pointer (some ⟨F, 0, none⟩))
  val : w.cell? ⟨S, 1, none⟩ = some (.string ⟨#[]⟩)
  ltS : S < w.heap.size
  ltF : F < w.heap.size
  ltG : G < w.heap.size
theorem Single.below {S F G B : Nat} {w w' : World} (h : Single S F G w) (hb : Below B w w') (hS : S < B) (hF : F < B) (hG : G < B) : Single S F G w' :=
  ⟨⟨by rw [hb.cell hF]; exact h.fin.word, fun c hc => by rw [hb.cell hF]; exact h.fin.bads c hc, by rw [hb.cell hF]; exact h.fin.good, fun j hj => by rw [hb.cell hG]; exact h.fin.goods j hj⟩,
   by rw [hb.cell hS]; exact h.ptr, by rw [hb.cell hS]; exact h.val, by have := hb.size; have := h.ltS; omega, by have := hb.size; have := h.ltF; omega, by have := hb.size; have := h.ltG; omega⟩
theorem slice_at (s : ByteArray) (a b : Nat) (bi : Int) (hb : bi = b) (h1 : a ≤ b) (h2 : b ≤ s.size) (wx : World) :
    (Instr.slice 9 (.string s) (some (.int .i64 a)) (some (.int .i64 bi)) none).run Try.prog wx = .ok (.string (s.extract a b)) wx := by
  subst hb
  rw [run_slice_string_if wx 9 s .i64 .i64 a b Try.underlying9, if_pos ⟨by omega, by omega⟩, if_pos ⟨by omega, by omega⟩]
  rfl
theorem Bst.drewN {B b : Nat} {bs : List Value} {w : World} (h : Bst B b bs w) (q : Nat) : Bst B b bs (w.drewN q) := h
theorem Bst.is {B b : Nat} {bs : List Value} {w : World} (h : Bst B b bs w) : Lib.IsBuilder 131 5 B b bs w := by
  rcases h with ⟨hB, rfl, hbk⟩ | h
  · exact .inl ⟨hB, .slice none 0 0, hbk, World.ownsRow_nil _ _ _ _, by simp [Value.ownBlock]⟩
  · exact .inr h
theorem byteCells_app (a b : List UInt8) : Lib.byteCells (a ++ b) = Lib.byteCells a ++ Lib.byteCells b := by simp [Lib.byteCells]
theorem byteCells_one (l : List UInt8) : ∀ v ∈ Lib.byteCells l, v.oneCell' = true := by
  intro v hv
  simp only [Lib.byteCells, List.mem_map] at hv
  obtain ⟨b, _, rfl⟩ := hv
  rfl
theorem hasL_drop (l : List UInt8) (p : Nat) (h : hasL (l.drop p) = true) : hasL l = true := by
  rcases fo_cases (l.drop p) with ⟨_, h'⟩ | _
  · rw [h'] at h; cases h
  unfold hasL at h
  rw [List.any_eq_true] at h
  obtain ⟨m, _, hm⟩ := h
  rw [beq_iff_eq, List.drop_drop] at hm
  exact hasL_true ((occ_iff l (p + m)).1 hm)
set_option maxHeartbeats 1000000 in
set_option maxRecDepth 20000 in
theorem single_any (S F G : Nat) (s : ByteArray) (w : World) (hs : s.size ≤ 1048576) (hF : Hid (Single S F G w)) :
    Calls Try.prog 75 #[.pointer (some ⟨S, 0, none⟩), .string s] w fun e w' => ∃ t : ByteArray, e = .returned (.string t) ∧ Below w.heap.size w w' ∧ Hid ((hasL s.data.toList = false ∧ t = s) ∨ (hasL s.data.toList = true ∧ t.size < s.size)) := by
  go_enter Try.func75, Try.ntmps75
  go_wp2
  go_loopg [6, 7] (s.size + 1) (fun n i mt wr => ∃ (p : Nat) (l : List UInt8), i = .int .i64 p ∧ p ≤ s.size ∧ p + n = s.size + 1 ∧ Hid (Below w.heap.size w wr) ∧ Hid (w.heap.size + 1 ≤ wr.heap.size) ∧ Hid (Bst w.heap.size w.heap.size (Lib.byteCells l) wr) ∧
    ((mt = .bool false ∧ p = 0 ∧ l = []) ∨ (mt = .bool true ∧ l.length + 7 ≤ p ∧ Hid (hasL s.data.toList = true))))
  case atStart =>
    refine ⟨0, [], rfl, Nat.zero_le _, by omega, (Below.refl _ _).alloc (Nat.le_refl _) _, by show _ ≤ _; simp, .inl ⟨Nat.le_refl _, rfl, ?_⟩, .inl ⟨rfl, rfl, rfl⟩⟩
    exact blk_alloc_new _ _
  case round =>
    obtain ⟨p, l, rfl, hp, hn, hB, hsz, hb, hmt⟩ := hrel
    have HS : Hid (Single S F G wr) := hF.out.below hB.out hF.out.ltS hF.out.ltF hF.out.ltG
    have e0 := HS.out.ptr
    have hll : Hid (l.length ≤ p) := by
      rcases hmt with ⟨_, h1, h2⟩ | ⟨_, h1, _⟩
      · show _ ≤ _; rw [h2]; simp
      · show _ ≤ _; omega
    rcases fo_cases (s.extract p s.size).data.toList with ⟨hk, hno⟩ | ⟨m, hk, hm, hyes⟩
    · have hcall : ∀ q, Calls Try.prog 77 #[.pointer (some ⟨F, 0, none⟩), .string (s.extract p s.size)] (wr.drewN q) fun e w' => e = .returned (.int .i64 (-1)) ∧ ∃ m, w' = (wr.drewN q).drewN m := fun q => by
        have h := next_any F G (s.extract p s.size) (wr.drewN q) (by simp; omega) (HS.out.fin.drewN q)
        rw [hk] at h
        exact h
      have HNO : Hid (hasL (s.extract p s.size).data.toList = false) := hno
      clear hno hk
      rcases hmt with ⟨rfl, hp0, hl0⟩ | ⟨rfl, hlp, hyes⟩
      · have HP0 : Hid (p = 0) := hp0
        clear hp0 hl0
        go_wp2
        go_quiet ((go_at_call 77; exact Calls.quiet_of (hcall _)))
        go_wp2
        go_ret
        refine ⟨s, rfl, below_drewN hB.out _, .inl ⟨?_, rfl⟩⟩
        have h := HNO.out
        rw [HP0.out, Lib.extract_to_end] at h
        exact h
      · go_wp2
        go_quiet ((go_at_call 77; exact Calls.quiet_of (hcall _)))
        go_wp2_with fail
        refine (Try.Builder_WriteString w.heap.size w.heap.size (Lib.byteCells l) (s.extract p s.size) _ (Bst.is (Bst.drewN hb.out _)) ?_ ?_).mono ?_
        · rw [Lib.byteCells_length]; simp; have := hll.out; omega
        · have := hsz.out; simp; omega
        rintro e w1 ⟨rfl, h1, h2⟩
        have h2s := h2.size
        go_wp2_with fail
        refine (Try.Builder_String_any w.heap.size w.heap.size (l ++ s.data.toList.drop p) _ (.inr ?_) ?_).mono ?_
        · rw [Lib.strCells_eq, Lib.extract_to_end] at h1
          simpa [Lib.byteCells] using h1
        · have := hsz.out; simp at h2s; omega
        rintro e w2 ⟨rfl, h3⟩
        go_wp2
        go_ret
        refine ⟨_, rfl, ((below_drewN hB.out _).trans h2).trans h3, .inr ⟨hyes.out, ?_⟩⟩
        have e1 : (⟨(l ++ s.data.toList.drop p).toArray⟩ : ByteArray).size = l.length + (s.size - p) := by
          show (l ++ s.data.toList.drop p).toArray.size = _
          simp
        rw [e1]; omega
    · have hcall : ∀ q, Calls Try.prog 77 #[.pointer (some ⟨F, 0, none⟩), .string (s.extract p s.size)] (wr.drewN q) fun e w' => e = .returned (.int .i64 m) ∧ ∃ m, w' = (wr.drewN q).drewN m := fun q => by
        have h := next_any F G (s.extract p s.size) (wr.drewN q) (by simp; omega) (HS.out.fin.drewN q)
        rw [hk] at h
        exact h
      have hm' : p + m + 7 ≤ s.size := by simp at hm; omega
      have HY : Hid (hasL s.data.toList = true) := by
        rw [Lib.extract_to_end] at hyes
        exact hasL_drop _ _ hyes
      have HM : Hid ((u7 = Value.bool false ∧ p = 0 ∧ l = []) ∨ (u7 = Value.bool true ∧ l.length + 7 ≤ p ∧ Hid (hasL s.data.toList = true))) := hmt
      clear hmt hk hm hyes
      have hv := HS.out.val
      go_wp2
      go_quiet ((go_at_call 77; exact Calls.quiet_of (hcall _)))
      clear hcall
      go_wp2_with fail
      refine (Grow_any w.heap.size w.heap.size m (Lib.byteCells l) _ (Bst.drewN hb.out _) (byteCells_one l) ?_ ?_).mono ?_
      · have := hsz.out; simp; omega
      · rw [Lib.byteCells_length]; have := hll.out; omega
      rintro e w1 ⟨rfl, h1, h2⟩
      have H1 : Hid (Lib.BuilderAt 131 5 w.heap.size w.heap.size (.pointer (some ⟨w.heap.size, 0, none⟩)) (Lib.byteCells l) w1) := h1
      have H2 : Hid (Below w.heap.size w w1) := (below_drewN hB.out _).trans h2
      have H3 : Hid (w.heap.size + 1 ≤ w1.heap.size) := by have a := h2.size; have b := hsz.out; simp at a; show _ ≤ _; omega
      have HS1 : Hid (Single S F G w1) := hF.out.below H2.out hF.out.ltS hF.out.ltF hF.out.ltG
      clear h1 h2 e0 hv
      have hsl := slice_at s p (p + m) ((p : Int) + m) (by omega) (by omega) (by omega)
      go_wp2_with fail
      clear hsl
      refine (Try.Builder_WriteString w.heap.size w.heap.size (Lib.byteCells l) (s.extract p (p + m)) _ (.inr H1.out) ?_ ?_).mono ?_
      · rw [Lib.byteCells_length]; simp; have := hll.out; omega
      · have := H3.out; omega
      rintro e w2 ⟨rfl, h1, h2⟩
      have H4 : Hid (Lib.BuilderAt 131 5 w.heap.size w.heap.size (.pointer (some ⟨w.heap.size, 0, none⟩)) (Lib.byteCells (l ++ (s.data.toList.drop p).take m)) w2) := by
        rw [Lib.strCells_eq, Lib.extract_data, show p + m - p = m by omega, ← byteCells_app] at h1
        exact h1
      have H5 : Hid (Below w.heap.size w w2) := H2.out.trans h2
      have H6 : Hid (w.heap.size + 1 ≤ w2.heap.size) := by have a := h2.size; have b := H3.out; show _ ≤ _; omega
      have HS2 : Hid (Single S F G w2) := hF.out.below H5.out hF.out.ltS hF.out.ltF hF.out.ltG
      clear h1 h2 HS1
      have hv2 := HS2.out.val
      go_wp2_with fail
      refine (Try.Builder_WriteString w.heap.size w.heap.size _ _ _ (.inr H4.out) ?_ ?_).mono ?_
      · rw [Lib.byteCells_length]
        have h1 : (l ++ (s.data.toList.drop p).take m).length ≤ l.length + m := by simp; omega
        have h2 : (⟨#[]⟩ : ByteArray).size = 0 := rfl
        have := hll.out; omega
      · have := H6.out; omega
      rintro e w3 ⟨rfl, h1, h2⟩
      have H7 : Hid (Lib.BuilderAt 131 5 w.heap.size w.heap.size (.pointer (some ⟨w.heap.size, 0, none⟩)) (Lib.byteCells (l ++ (s.data.toList.drop p).take m)) w3) := by
        have e : Lib.strCells ⟨#[]⟩ = [] := rfl
        rw [e, List.append_nil] at h1
        exact h1
      have H8 : Hid (Below w.heap.size w w3) := H5.out.trans h2
      have H9 : Hid (w.heap.size + 1 ≤ w3.heap.size) := by have a := h2.size; have b := H6.out; show _ ≤ _; omega
      have HS3 : Hid (Single S F G w3) := hF.out.below H8.out hF.out.ltS hF.out.ltF hF.out.ltG
      clear h1 h2 HS2 hv2
      have hp3 := HS3.out.ptr
      have hf3 := HS3.out.fin.word
      go_wp2
      go_roundg (gk - (m + 7))
      case measure => omega
      case rel =>
        refine ⟨p + (m + 7), _, by go_num, by omega, by omega, H8.out, H9.out, .inr H7.out, .inr ⟨rfl, ?_, HY.out⟩⟩
        have : (l ++ (s.data.toList.drop p).take m).length ≤ l.length + m := by simp; omega
        rcases HM.out with ⟨_, h1, h2⟩ | ⟨_, h1, _⟩
        · rw [h2] at this ⊢; simp at this ⊢; omega
        · omega
end Go.Proofs.Qxb6614432a
