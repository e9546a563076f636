/- The contract of (*Command).expand. -/
import Derived.Test.Qxb6614432aStrs

namespace Go.Proofs.Qxb6614432a
open Go.ChangeShapes Go.WideShapes Go.ChangeAt Go.RowKit Go.Deep
set_option linter.unusedVariables false
theorem made_CR (w : World) (n : Nat) : CR w.heap.size n (List.replicate n ByteArray.empty) (w.alloc (.cells (madeCells #[.string ⟨#[]⟩] n) 9)) := by
  have h := World.rowIs_made w (.string ⟨#[]⟩) n 9
  refine ⟨by simp, fun i hi => ?_, fun i => h.frozen i, h.lt⟩
  rw [h.cell hi, List.getD_eq_getElem?_getD, List.getElem?_replicate, if_pos hi]
  rfl
theorem ib_cases : ∀ (l : List UInt8) (c : UInt8), Lib.indexByte l c = -1 ∨ ∃ j : Nat, Lib.indexByte l c = j ∧ j < l.length
  | [], _ => .inl rfl
  | b :: l, c => by
    have ih := ib_cases l c
    show (if b == c then (0 : Int) else if Lib.indexByte l c == -1 then -1 else Lib.indexByte l c + 1) = -1 ∨ ∃ j : Nat, (if b == c then (0 : Int) else if Lib.indexByte l c == -1 then -1 else Lib.indexByte l c + 1) = j ∧ j < (b :: l).length
    by_cases h1 : (b == c) = true
    · rw [if_pos h1]; exact .inr ⟨0, rfl, by simp⟩
    · rw [if_neg h1]
      rcases ih with ih | ⟨j, ih, hj⟩
      · rw [ih]; exact .inl rfl
      · rw [ih, if_neg (by simp)]
        exact .inr ⟨j + 1, by omega, by simp; omega⟩
theorem slice_hi (s : ByteArray) (b : Nat) (bi : Int) (hb : bi = b) (h2 : b ≤ s.size) (wx : World) :
    (Instr.slice 9 (.string s) none (some (.int .i64 bi)) none).run Try.prog wx = .ok (.string (s.extract 0 b)) wx := by
  subst hb
  exact run_slice_string_h wx 9 s Try.underlying9 .i64 b (by omega) (by omega)
theorem slice_lo (s : ByteArray) (b : Nat) (bi : Int) (hb : bi = b) (h2 : b ≤ s.size) (wx : World) :
    (Instr.slice 9 (.string s) (some (.int .i64 bi)) none none).run Try.prog wx = .ok (.string (s.extract b s.size)) wx := by
  subst hb
  exact run_slice_string_l wx 9 s Try.underlying9 .i64 b (by omega) (by omega)
theorem rep_at (R E : Nat) (s : ByteArray) (w : World) (hs : s.size ≤ 1048576) (h : RS R (fun k => k = E) w) (hE : E < w.heap.size) :
    Calls Try.prog 19 #[.pointer (some ⟨R, 0, none⟩), .string s] w fun e w' => ∃ t : ByteArray, e = .returned (.string t) ∧ t.size ≤ 1048576 ∧ Hid (Frm R w w') ∧ Hid (RS R (fun k => k = E) w') ∧ Hid ((hasL s.data.toList = false ∧ t = s) ∨ (hasL s.data.toList = true ∧ t.size < s.size)) := by
  refine (replace_any R (fun k => k = E) s w hs h (fun k hk => by rw [show k = E from hk]; exact hE)).mono ?_
  rintro e w' ⟨t, rfl, h1, h2, h3⟩
  refine ⟨t, rfl, ?_, h1, h2, h3⟩
  rcases h3.out with ⟨_, rfl⟩ | ⟨_, h⟩
  · exact hs
  · omega
theorem cat_at (s : ByteArray) (n : Nat) (t : ByteArray) (hs : s.size ≤ 1048576) (ht : t.size ≤ 1048576) (wx : World) :
    (Op.stringOp .add (s.extract 0 n) t).run Try.prog wx = .ok (.string (s.extract 0 n ++ t)) wx :=
  run_string_add_sum wx _ _ (by simp; omega)
theorem Frm.set_new {R : Nat} {w w' : World} (h : Frm R w w') {g : Nat} (hg : w.heap.size ≤ g) (i : Nat) (v : Value) : Frm R w (w'.setCell ⟨g, i, none⟩ v) :=
  ⟨h.1, h.2.1, h.2.2.1, by simpa [World.setCell] using h.2.2.2.1, fun k hk hR => (Below.heap_setCell w' ⟨g, i, none⟩ v k (by show k ≠ g; omega)).trans (h.2.2.2.2 k hk hR)⟩
theorem cut_join (s : ByteArray) (n : Nat) : s.extract 0 n ++ s.extract n s.size = s := by
  apply ByteArray.ext
  apply Array.toList_inj.1
  rw [ByteArray.data_append, Array.toList_append, Lib.extract_data, Lib.extract_to_end]
  simp
theorem env_step {s t : ByteArray} {j : Nat} (k : Nat) (hi : Lib.indexByte s.data.toList 61 = j) (hj : j + 1 ≤ s.size)
    (h : (hasL (s.extract (j + 1) s.size).data.toList = false ∧ t = s.extract (j + 1) s.size) ∨ (hasL (s.extract (j + 1) s.size).data.toList = true ∧ t.size < (s.extract (j + 1) s.size).size)) :
    (envHit k s = false ∧ s.extract 0 (j + 1) ++ t = s) ∨ (envHit k s = true ∧ (s.extract 0 (j + 1) ++ t).size < s.size) := by
  have e : envHit k s = hasL (s.extract (j + 1) s.size).data.toList := by
    unfold envHit
    rw [hi, show ((j : Int) + 1).toNat = j + 1 by omega, decide_eq_true (by omega)]
    rfl
  rw [e]
  rcases h with ⟨h1, h2⟩ | ⟨h1, h2⟩
  · left; exact ⟨h1, by rw [h2, cut_join]⟩
  · right; refine ⟨h1, ?_⟩
    simp at h2 ⊢
    omega
theorem arg_step {s t : ByteArray} (m : Nat) (hm : 1 ≤ m) (h : (hasL s.data.toList = false ∧ t = s) ∨ (hasL s.data.toList = true ∧ t.size < s.size)) :
    (argHit m s = false ∧ t = s) ∨ (argHit m s = true ∧ t.size < s.size) := by
  have e : argHit m s = hasL s.data.toList := by unfold argHit; rw [decide_eq_true hm]; rfl
  rw [e]; exact h
theorem rel_one (xs : List ByteArray) : RelK argHit 1 xs xs := fun i hi => .inl ⟨by unfold argHit; rw [decide_eq_false (by omega)]; rfl, rfl⟩
set_option maxRecDepth 20000 in
set_option maxHeartbeats 4000000 in
theorem expand_any (C R : Nat) (ae aa : Option Addr) (be oe le ce ba oa la ca : Nat) (es gs1 : List ByteArray) (w : World) (hR : Hid (RS R (fun _ => False) w)) (hC : C < w.heap.size) (hCR : ¬ C = R)
    (c0 : Hid (w.cell? ⟨C, 0, none⟩ = some (.slice ae le ce))) (c1 : Hid (w.cell? ⟨C, 1, none⟩ = some (.slice aa la ca)))
    (hes : Hid (es.length = le)) (has : Hid (gs1.length = la)) (hle : le ≤ 1048576) (hla : la ≤ 1048576)
    (hae : Hid (0 < le → ae = some ⟨be, oe, none⟩)) (haa : Hid (0 < la → aa = some ⟨ba, oa, none⟩)) (han : Hid (aa = none → la = 0))
    (hce : Hid (∀ i, i < le → w.cell? ⟨be, oe + i, none⟩ = some (.string (es.getD i ByteArray.empty)))) (hca : Hid (∀ i, i < la → w.cell? ⟨ba, oa + i, none⟩ = some (.string (gs1.getD i ByteArray.empty))))
    (hbe : Hid (0 < le → be < w.heap.size ∧ be ≠ R)) (hba : Hid (0 < la → ba < w.heap.size ∧ ba ≠ R))
    (hse : Hid (∀ i, (es.getD i ByteArray.empty).size ≤ 1048576)) (hsa : Hid (∀ i, (gs1.getD i ByteArray.empty).size ≤ 1048576)) :
    Calls Try.prog 15 #[.pointer (some ⟨C, 0, none⟩), .pointer (some ⟨R, 0, none⟩)] w fun e w' => ∃ (E : Nat) (a' : Option Addr) (c' : Nat) (xs ys : List ByteArray), e = .returned (.tuple #[.slice (some ⟨E, 0, none⟩) le le, .slice a' la c']) ∧
      Frm R w w' ∧ CR E le xs w' ∧ RelK envHit le es xs ∧ ((la = 0 ∧ ys = []) ∨ ∃ g, a' = some ⟨g, 0, none⟩ ∧ CR g la ys w') ∧ RelK argHit la gs1 ys := by
  have d0 := c0.out
  have hmk := run_make_row' (P := Try.prog) 22 9 (.string ⟨#[]⟩) 16 Try.underlying22 (by kernel_rfl) rfl .i64 .i64 le (by omega) (by omega)
  have hRw := hR.out.lt
  go_enter Try.func15, Try.ntmps15
  go_wp2_with fail
  clear hmk d0
  go_loopg [21] le (fun n i wr => ∃ (k : Nat) (xs : List ByteArray), i = .int .i64 k ∧ k ≤ le ∧ k + n = le ∧ Hid (Frm R w wr) ∧ Hid (RS R (fun k => k = w.heap.size) wr) ∧ Hid (CR w.heap.size le xs wr) ∧ Hid (RelK envHit k es xs))
  case atStart =>
    refine ⟨0, List.replicate le ByteArray.empty, rfl, Nat.zero_le _, by omega, Frm.of_below ((Below.refl _ _).alloc (Nat.le_refl _) _), (hR.out.change (X' := fun k => k = w.heap.size) (fun k hk => by rw [show k = w.heap.size from hk]; exact Nat.le_refl _)).below ((Below.refl _ _).alloc (Nat.le_refl _) _), made_CR w le, fun i hi => by omega⟩
  case round =>
    obtain ⟨k, xs, rfl, hk, hkn, hF, hRS, hX, hRel⟩ := hrel
    by_cases hlt : k < le
    · have ea := hae.out (by omega); subst ea
      obtain ⟨hbl, hbR⟩ := hbe.out (by omega)
      have hck : wr.cell? ⟨be, oe + k, none⟩ = some (.string (es.getD k ByteArray.empty)) := by
        rw [hF.out.cell (a := ⟨be, oe + k, none⟩) hbl hbR]; exact hce.out k hlt
      obtain ⟨s, hs⟩ : ∃ s, Hid (es.getD k ByteArray.empty = s) := ⟨es.getD k ByteArray.empty, show _ = _ from rfl⟩
      rw [hs.out] at hck
      have hsz : s.size ≤ 1048576 := by rw [← hs.out]; exact hse.out k
      have hXc := hX.out.cell k hlt
      have hXf := hX.out.froz k
      rcases ib_cases s.data.toList 61 with hi | ⟨j, hi, hj⟩
      · have hib : ∀ wx, Calls Try.prog 18 #[.string s, .int .u8 61] wx fun e w' => e = .returned (.int .i64 (-1)) ∧ wx = w' := fun wx => by
          have h := Try.strings_IndexByte s 61 wx
          rw [show (61 : Int).toNat.toUInt8 = 61 from rfl, hi] at h
          exact h.mono fun e w' ⟨h1, h2⟩ => ⟨h1, h2.symm⟩
        have HI : Hid (Lib.indexByte s.data.toList 61 = -1) := hi
        clear hi
        go_wp2_with (go_at_call 18; refine (hib _).mono ?_; rintro e w' ⟨rfl, rfl⟩)
        go_roundg (gk - 1)
        case measure => omega
        case rel =>
          refine ⟨k + 1, xs.set k s, by go_num, by omega, by omega, ?_, ?_, hX.out.set k hlt s, hRel.out.step (by rw [hX.out.len]; exact hlt) (.inl ⟨?_, hs.out.symm⟩)⟩
          · exact hF.out.set_new (Nat.le_refl _) _ _
          · exact hRS.out.set _ _ _ rfl (by omega)
          · rw [hs.out]
            unfold envHit
            rw [HI.out]
            rfl
      · have hib : ∀ wx, Calls Try.prog 18 #[.string s, .int .u8 61] wx fun e w' => e = .returned (.int .i64 j) ∧ wx = w' := fun wx => by
          have h := Try.strings_IndexByte s 61 wx
          rw [show (61 : Int).toNat.toUInt8 = 61 from rfl, hi] at h
          exact h.mono fun e w' ⟨h1, h2⟩ => ⟨h1, h2.symm⟩
        have HI : Hid (Lib.indexByte s.data.toList 61 = j) := hi
        have hj' : j + 1 ≤ s.size := by simp at hj; omega
        have hs1 := slice_hi s (j + 1) ((j : Int) + 1) (by omega) hj'
        have hs2 := slice_lo s (j + 1) ((j : Int) + 1) (by omega) hj'
        clear hi hj
        go_wp2_with (go_at_call 18; refine (hib _).mono ?_; rintro e w' ⟨rfl, rfl⟩)
        clear hXc hXf hck
        have hjI : (j : Int) ≤ 1048576 := by omega
        have hjJ : (j : Int) + 1 ≤ (s.size : Int) := by omega
        have hrep : Hid (Calls Try.prog 19 #[.pointer (some ⟨R, 0, none⟩), .string (s.extract (j + 1) s.size)] wr.drew fun e w' => ∃ t : ByteArray, e = .returned (.string t) ∧ t.size ≤ 1048576 ∧ Hid (Frm R wr.drew w') ∧ Hid (RS R (fun k => k = w.heap.size) w') ∧ Hid ((hasL (s.extract (j + 1) s.size).data.toList = false ∧ t = s.extract (j + 1) s.size) ∨ (hasL (s.extract (j + 1) s.size).data.toList = true ∧ t.size < (s.extract (j + 1) s.size).size))) :=
          rep_at R (w.heap.size) (s.extract (j + 1) s.size) wr.drew (by simp; omega) (RS.drew hRS.out) hX.out.lt
        have hw2 : IntKind.i64.wrap ((j : Int) + 1) = (j : Int) + 1 := by rw [IntKind.wrap_i64]; omega
        have hw1 : wrap64 ((j : Int) + 1) = (j : Int) + 1 := by unfold wrap64; omega
        go_region_with (go_at_call 19; refine hrep.out.mono ?_; rintro e w1 ⟨t, rfl, ht, h1, h2, h3⟩; have hcat := cat_at s (j + 1) t hsz ht)
        all_goals
          have HX1 : Hid (CR w.heap.size le xs w1) := (hX.out.drew).frm h1.out (by omega)
          have hXc1 := HX1.out.cell k hlt
          have hXf1 := HX1.out.froz k
          clear hw1 hw2 hcat hs1 hs2 hrep
          go_wp2
          go_roundg (gk - 1)
          case measure => omega
          case rel =>
            refine ⟨k + 1, xs.set k (s.extract 0 (j + 1) ++ t), by go_num, by omega, by omega, ?_, ?_, HX1.out.set k hlt _, hRel.out.step (by rw [hX.out.len]; exact hlt) ?_⟩
            · exact (hF.out.drew.trans h1.out).set_new (Nat.le_refl _) _ _
            · exact h2.out.set _ _ _ rfl (by omega)
            · rw [hs.out]
              exact env_step k HI.out hj' h3.out
    · obtain rfl : k = le := by omega
      have hc1 : wr.cell? ⟨C, 1, none⟩ = some (.slice aa la ca) := by rw [hF.out.cell (a := ⟨C, 1, none⟩) hC hCR]; exact c1.out
      go_wp2_with fail
      refine (clone_any aa ba oa la ca gs1 _ has.out hla haa.out han.out (fun i hi => ?_)).mono ?_
      · obtain ⟨h1, h2⟩ := hba.out (by omega)
        rw [hF.out.cell (a := ⟨ba, oa + i, none⟩) h1 h2]; exact hca.out i hi
      rintro e w1 ⟨a', c', rfl, hB1, hcl⟩
      have HF1 : Hid (Frm R w w1) := hF.out.trans (Frm.of_below hB1)
      have HX1 : Hid (CR w.heap.size k xs w1) := hX.out.frm (R := R) (Frm.of_below hB1) (by omega)
      have HB1 : Hid (Below wr.heap.size wr w1) := hB1
      have HCL : Hid (la = 0 ∨ ∃ g, a' = some ⟨g, 0, none⟩ ∧ wr.heap.size ≤ g ∧ CR g la gs1 w1) := hcl
      clear hB1 hcl hc1
      by_cases hl0 : la = 0
      · have HL0 : Hid (la = 0) := hl0
        have hlz : la < 1 := by omega
        clear HCL hl0
        go_wp2
        refine wp_loop_rounds 1 ?_
        rw [rounds_succ]
        go_wp2
        go_ret2
        exact ⟨w.heap.size, a', c', xs, [], rfl, HF1.out, HX1.out, hRel.out, .inl ⟨HL0.out, rfl⟩, fun i hi => by omega⟩
      · obtain ⟨g, rfl, hg, hgc⟩ := HCL.out.resolve_left hl0
        have HGC : Hid (CR g la gs1 w1) := hgc
        have HRS : Hid (RS R (fun k => k = g) w1) := (hRS.out.change (X' := fun k => k = g) (fun k hk => by rw [show k = g from hk]; exact hg)).below HB1.out
        have hEl := hX.out.lt
        clear HCL hgc hF hRS hX HB1
        go_wp2
        go_loopg [9] la (fun n i wr => ∃ (m : Nat) (ys : List ByteArray), i = .int .i64 m ∧ 1 ≤ m ∧ m ≤ la ∧ m + n = la + 1 ∧ Hid (Frm R w wr) ∧ Hid (RS R (fun k => k = g) wr) ∧ Hid (CR w.heap.size k xs wr) ∧ Hid (CR g la ys wr) ∧ Hid (RelK argHit m gs1 ys) ∧ Hid (∀ i, m ≤ i → ys.getD i ByteArray.empty = gs1.getD i ByteArray.empty))
        case atStart => exact ⟨1, gs1, rfl, Nat.le_refl _, by omega, by omega, HF1, HRS, HX1, HGC, rel_one gs1, fun i hi => rfl⟩
        case round =>
          clear HF1 HRS HX1 HGC
          obtain ⟨m, ys, rfl, hm1, hm2, hmn, hF, hRS, hX, hG, hRl, hEq⟩ := hrel
          by_cases hlt2 : m < la
          · obtain ⟨s, hs⟩ : ∃ s, Hid (gs1.getD m ByteArray.empty = s) := ⟨gs1.getD m ByteArray.empty, show _ = _ from rfl⟩
            have hsz : s.size ≤ 1048576 := by rw [← hs.out]; exact hsa.out m
            have hgm : wr.cell? ⟨g, m, none⟩ = some (.string s) := by rw [hG.out.cell m hlt2, hEq.out m (Nat.le_refl _), hs.out]
            go_wp2_with fail
            refine (rep_at R g s _ hsz hRS.out hG.out.lt).mono ?_
            rintro e w2 ⟨t, rfl, ht, h1, h2, h3⟩
            have HG2 : Hid (CR g la ys w2) := hG.out.frm h1.out (by omega)
            have HX2 : Hid (CR w.heap.size k xs w2) := hX.out.frm h1.out (by omega)
            have hgm2 := HG2.out.cell m hlt2
            have hgf2 := HG2.out.froz m
            clear hgm
            go_wp2
            go_roundg (gk - 1)
            case measure => omega
            case rel =>
              refine ⟨m + 1, ys.set m t, by go_num, by omega, by omega, by omega, (hF.out.trans h1.out).set_new (by omega) _ _, h2.out.set _ _ _ rfl (by omega), HX2.out.other (by omega) _ _, HG2.out.set m hlt2 t, hRl.out.step (by rw [hG.out.len]; exact hlt2) ?_, fun i hi => ?_⟩
              · rw [hs.out]
                exact arg_step m hm1 h3.out
              · rw [List.getD_eq_getElem?_getD, List.getElem?_set, if_neg (by omega), ← List.getD_eq_getElem?_getD]
                exact hEq.out i (by omega)
          · obtain rfl : m = la := by omega
            go_wp2
            go_ret2
            exact ⟨w.heap.size, _, c', xs, ys, rfl, hF.out, hX.out, hRel.out, .inr ⟨g, rfl, hG.out⟩, hRl.out⟩
end Go.Proofs.Qxb6614432a
