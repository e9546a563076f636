/- The proof of 'Rows.FnHexEscapeDecodesToItsCodePointSaid': the walk by the contracts of Leaves and Sides; the frame is the guide's own (proof-skeleton). -/
import Derived.Test.Qxb6614267aSides
import Derived.WalkKit
import Derived.ProofKit
import Derived.OpenShut
import Derived.ShutString
namespace Go.Proofs.Qxb6614267a.fnHexEscapeDecodesToItsCodePoint
open Go.ChangeShapes Go.WideShapes Go.ChangeAt Go.RowKit
open Go.ChangeMaps (open_string shut_string)
set_option linter.unusedVariables false      -- a walk need not use every 'w<i>' (that an integer argument fits its kind)

theorem own : ownKnob Try.prog.godebug = none := by kernel_rfl


theorem unq3 (b : Nat) (b0 b1 b2 b3 : Int) (w : World) (hb : b < w.heap.size)
    (h1 : w.cell? ⟨b, 1, none⟩ = some (.int .u8 92)) (h2 : w.cell? ⟨b, 2, none⟩ = some (.int .u8 117))
    (h3 : w.cell? ⟨b, 3, none⟩ = some (.int .u8 b0)) (h4 : w.cell? ⟨b, 4, none⟩ = some (.int .u8 b1)) (h5 : w.cell? ⟨b, 5, none⟩ = some (.int .u8 b2)) (h6 : w.cell? ⟨b, 6, none⟩ = some (.int .u8 b3))
    (g0 : Hid (hexB b0 = true)) (g1 : Hid (hexB b1 = true)) (g2 : Hid (hexB b2 = true)) (g3 : Hid (hexB b3 = true))
    (r : Int) (hr : Hid (racc [b0, b1, b2, b3] = r)) (hr0 : 2048 ≤ r) (hr1 : r < 65536) :
    Calls Try.prog 9 #[.slice (some ⟨b, 0, none⟩) 8 8] w fun e w' => e = .returned (.string (strOfNums [224 + r / 4096, 128 + r / 64 % 64, 128 + r % 64])) ∧ Grown w w' := by
  by_cases c1 : r < 55296
  · exact unq3a b b0 b1 b2 b3 w hb h1 h2 h3 h4 h5 h6 g0 g1 g2 g3 r hr hr0 c1
  by_cases c2 : r < 56320
  · exact unq3h b b0 b1 b2 b3 w hb h1 h2 h3 h4 h5 h6 g0 g1 g2 g3 r hr (by omega) c2
  by_cases c3 : r < 57344
  · exact unq3l b b0 b1 b2 b3 w hb h1 h2 h3 h4 h5 h6 g0 g1 g2 g3 r hr (by omega) c3
  exact unq3b b b0 b1 b2 b3 w hb h1 h2 h3 h4 h5 h6 g0 g1 g2 g3 r hr (by omega) hr1
set_option maxHeartbeats 1000000 in
theorem walk_no (a0 a1 a2 a3 : Int) (w : World) (hn : Hid ((hexB a0 && hexB a1 && hexB a2 && hexB a3) = false)) :
    Calls Try.prog 4 #[.int .u8 a0, .int .u8 a1, .int .u8 a2, .int .u8 a3] w fun e w' => e = .returned (.bool true) ∧ Grown w w' := by
  go_enter Try.func4, Try.ntmps4
  go_wp2_with (first | (go_at_call 6; refine (hexVal_any _ _).mono ?_; rintro e w' ⟨rfl, rfl⟩) | (go_at_call 7; refine (isHex_any _ _).mono ?_; rintro e w' ⟨rfl, rfl⟩))
  all_goals first
    | (go_ret; exact ⟨rfl, Grown.refl _⟩)
    | (exfalso; have hm := hn.out; simp_all)

set_option maxHeartbeats 1000000 in
theorem walk_1 (a0 a1 a2 a3 : Int) (w : World) (g0 : hexB a0 = true) (g1 : hexB a1 = true) (g2 : hexB a2 = true) (g3 : hexB a3 = true)
    (d0 d1 d2 d3 : Int) (e0 : Hid (hv a0 = d0)) (e1 : Hid (hv a1 = d1)) (e2 : Hid (hv a2 = d2)) (e3 : Hid (hv a3 = d3))
    (l0 : 0 ≤ d0) (l1 : 0 ≤ d1) (l2 : 0 ≤ d2) (l3 : 0 ≤ d3) (k0 : d0 < 16) (k1 : d1 < 16) (k2 : d2 < 16) (k3 : d3 < 16)
    (r : Int) (er : Hid (d0 * 4096 + d1 * 256 + d2 * 16 + d3 = r)) (hr0 : 0 ≤ r) (hr1 : r < 128) :
    Calls Try.prog 4 #[.int .u8 a0, .int .u8 a1, .int .u8 a2, .int .u8 a3] w fun e w' => e = .returned (.bool true) ∧ Grown w w' := by
  have hmk : ∀ w, (Instr.makeSlice 26 (.int .i64 0) (.int .i64 4)).run Try.prog w = .ok (.slice (some ⟨w.heap.size, 0, none⟩) 0 4) (w.alloc (.cells #[.int .u8 0, .int .u8 0, .int .u8 0, .int .u8 0] 5)) := fun _ => by kernel_rfl
  have G0 : Hid (hexB a0 = true) := g0
  have G1 : Hid (hexB a1 = true) := g1
  have G2 : Hid (hexB a2 = true) := g2
  have G3 : Hid (hexB a3 = true) := g3
  have R : Hid (racc [a0, a1, a2, a3] = r) := (racc_four a0 a1 a2 a3).trans (by rw [e0.out, e1.out, e2.out, e3.out]; exact er.out)
  go_enter Try.func4, Try.ntmps4
  go_wp2_with (first
    | (go_at_call 6; refine (hexVal_any _ _).mono ?_; rintro e w' ⟨rfl, rfl⟩; first | rw [e0.out] | rw [e1.out] | rw [e2.out] | rw [e3.out])
    | (go_at_call 7; refine (isHex_any _ _).mono ?_; rintro e w' ⟨rfl, rfl⟩))
  rw [er.out]
  refine (unq1 _ a0 a1 a2 a3 _ (by simp) (by simp) (by simp) (by simp) (by simp) (by simp) (by simp) G0 G1 G2 G3 r R hr0 hr1).mono ?_
  rintro e w1 ⟨rfl, hg⟩
  go_wp2_with (go_at_call 10; refine (app1 _ r w1 rfl hr0 hr1).mono ?_; rintro e w' ⟨rfl, rfl⟩)
  rw [run_convert_bytes_arg _ 26 5 Try.underlying26 Try.underlying5 _ 0 1 4 [r] rfl ?h 9 Try.underlying9]
  case h =>
    intro i hi
    obtain rfl : i = 0 := by omega
    go_simp
  simp only [Result.andThen]
  rw [Oper.upon_value]
  go_wp2
  go_ret
  refine ⟨rfl, ?_⟩
  refine Grown.alloc (Grown.alloc (Grown.trans (Grown.alloc (Grown.refl _) _ _) hg) _ _) _ _

set_option maxHeartbeats 1000000 in
theorem walk_2 (a0 a1 a2 a3 : Int) (w : World) (g0 : hexB a0 = true) (g1 : hexB a1 = true) (g2 : hexB a2 = true) (g3 : hexB a3 = true)
    (d0 d1 d2 d3 : Int) (e0 : Hid (hv a0 = d0)) (e1 : Hid (hv a1 = d1)) (e2 : Hid (hv a2 = d2)) (e3 : Hid (hv a3 = d3))
    (l0 : 0 ≤ d0) (l1 : 0 ≤ d1) (l2 : 0 ≤ d2) (l3 : 0 ≤ d3) (k0 : d0 < 16) (k1 : d1 < 16) (k2 : d2 < 16) (k3 : d3 < 16)
    (r : Int) (er : Hid (d0 * 4096 + d1 * 256 + d2 * 16 + d3 = r)) (hr0 : 128 ≤ r) (hr1 : r < 2048) :
    Calls Try.prog 4 #[.int .u8 a0, .int .u8 a1, .int .u8 a2, .int .u8 a3] w fun e w' => e = .returned (.bool true) ∧ Grown w w' := by
  have hmk : ∀ w, (Instr.makeSlice 26 (.int .i64 0) (.int .i64 4)).run Try.prog w = .ok (.slice (some ⟨w.heap.size, 0, none⟩) 0 4) (w.alloc (.cells #[.int .u8 0, .int .u8 0, .int .u8 0, .int .u8 0] 5)) := fun _ => by kernel_rfl
  have G0 : Hid (hexB a0 = true) := g0
  have G1 : Hid (hexB a1 = true) := g1
  have G2 : Hid (hexB a2 = true) := g2
  have G3 : Hid (hexB a3 = true) := g3
  have R : Hid (racc [a0, a1, a2, a3] = r) := (racc_four a0 a1 a2 a3).trans (by rw [e0.out, e1.out, e2.out, e3.out]; exact er.out)
  go_enter Try.func4, Try.ntmps4
  go_wp2_with (first
    | (go_at_call 6; refine (hexVal_any _ _).mono ?_; rintro e w' ⟨rfl, rfl⟩; first | rw [e0.out] | rw [e1.out] | rw [e2.out] | rw [e3.out])
    | (go_at_call 7; refine (isHex_any _ _).mono ?_; rintro e w' ⟨rfl, rfl⟩))
  rw [er.out]
  refine (unq2 _ a0 a1 a2 a3 _ (by simp) (by simp) (by simp) (by simp) (by simp) (by simp) (by simp) G0 G1 G2 G3 r R hr0 hr1).mono ?_
  rintro e w1 ⟨rfl, hg⟩
  go_wp2_with (go_at_call 10; refine (app2 _ r w1 rfl hr0 hr1).mono ?_; rintro e w' ⟨rfl, rfl⟩)
  rw [run_convert_bytes_arg _ 26 5 Try.underlying26 Try.underlying5 _ 0 2 4 [192 + r / 64, 128 + r % 64] rfl ?h 9 Try.underlying9]
  case h =>
    intro i hi
    rcases (show i = 0 ∨ i = 1 by omega) with rfl | rfl <;> go_simp
  simp only [Result.andThen]
  rw [Oper.upon_value]
  go_wp2
  go_ret
  refine ⟨rfl, ?_⟩
  refine Grown.alloc (Grown.alloc (Grown.trans (Grown.alloc (Grown.refl _) _ _) hg) _ _) _ _

set_option maxHeartbeats 1000000 in
theorem walk_3 (a0 a1 a2 a3 : Int) (w : World) (g0 : hexB a0 = true) (g1 : hexB a1 = true) (g2 : hexB a2 = true) (g3 : hexB a3 = true)
    (d0 d1 d2 d3 : Int) (e0 : Hid (hv a0 = d0)) (e1 : Hid (hv a1 = d1)) (e2 : Hid (hv a2 = d2)) (e3 : Hid (hv a3 = d3))
    (l0 : 0 ≤ d0) (l1 : 0 ≤ d1) (l2 : 0 ≤ d2) (l3 : 0 ≤ d3) (k0 : d0 < 16) (k1 : d1 < 16) (k2 : d2 < 16) (k3 : d3 < 16)
    (r : Int) (er : Hid (d0 * 4096 + d1 * 256 + d2 * 16 + d3 = r)) (hr0 : 2048 ≤ r) (hr1 : r < 65536) :
    Calls Try.prog 4 #[.int .u8 a0, .int .u8 a1, .int .u8 a2, .int .u8 a3] w fun e w' => e = .returned (.bool true) ∧ Grown w w' := by
  have hmk : ∀ w, (Instr.makeSlice 26 (.int .i64 0) (.int .i64 4)).run Try.prog w = .ok (.slice (some ⟨w.heap.size, 0, none⟩) 0 4) (w.alloc (.cells #[.int .u8 0, .int .u8 0, .int .u8 0, .int .u8 0] 5)) := fun _ => by kernel_rfl
  have G0 : Hid (hexB a0 = true) := g0
  have G1 : Hid (hexB a1 = true) := g1
  have G2 : Hid (hexB a2 = true) := g2
  have G3 : Hid (hexB a3 = true) := g3
  have R : Hid (racc [a0, a1, a2, a3] = r) := (racc_four a0 a1 a2 a3).trans (by rw [e0.out, e1.out, e2.out, e3.out]; exact er.out)
  go_enter Try.func4, Try.ntmps4
  go_wp2_with (first
    | (go_at_call 6; refine (hexVal_any _ _).mono ?_; rintro e w' ⟨rfl, rfl⟩; first | rw [e0.out] | rw [e1.out] | rw [e2.out] | rw [e3.out])
    | (go_at_call 7; refine (isHex_any _ _).mono ?_; rintro e w' ⟨rfl, rfl⟩))
  rw [er.out]
  refine (unq3 _ a0 a1 a2 a3 _ (by simp) (by simp) (by simp) (by simp) (by simp) (by simp) (by simp) G0 G1 G2 G3 r R hr0 hr1).mono ?_
  rintro e w1 ⟨rfl, hg⟩
  go_wp2_with (go_at_call 10; refine (app3 _ r w1 rfl hr0 hr1).mono ?_; rintro e w' ⟨rfl, rfl⟩)
  rw [run_convert_bytes_arg _ 26 5 Try.underlying26 Try.underlying5 _ 0 3 4 [224 + r / 4096, 128 + r / 64 % 64, 128 + r % 64] rfl ?h 9 Try.underlying9]
  case h =>
    intro i hi
    rcases (show i = 0 ∨ i = 1 ∨ i = 2 by omega) with rfl | rfl | rfl <;> go_simp
  simp only [Result.andThen]
  rw [Oper.upon_value]
  go_wp2
  go_ret
  refine ⟨rfl, ?_⟩
  refine Grown.alloc (Grown.alloc (Grown.trans (Grown.alloc (Grown.refl _) _ _) hg) _ _) _ _

theorem walk (a0 : Int) (a1 : Int) (a2 : Int) (a3 : Int) (w0 : (Lit.int .u8 a0).wf = true) (w1 : (Lit.int .u8 a1).wf = true) (w2 : (Lit.int .u8 a2).wf = true) (w3 : (Lit.int .u8 a3).wf = true) (w : World) :
    Calls Try.prog 4 #[.int .u8 a0, .int .u8 a1, .int .u8 a2, .int .u8 a3] w fun e w' => e = .returned (.bool true) ∧ Grown w w' := by
  by_cases hn : (hexB a0 && hexB a1 && hexB a2 && hexB a3) = false
  · exact walk_no a0 a1 a2 a3 w hn
  · simp only [Bool.not_eq_false, Bool.and_eq_true] at hn
    obtain ⟨⟨⟨g0, g1⟩, g2⟩, g3⟩ := hn
    have b0 := hv_bd a0; have b1 := hv_bd a1; have b2 := hv_bd a2; have b3 := hv_bd a3
    by_cases c1 : hv a0 * 4096 + hv a1 * 256 + hv a2 * 16 + hv a3 < 128
    · exact walk_1 a0 a1 a2 a3 w g0 g1 g2 g3 _ _ _ _ rfl rfl rfl rfl b0.1 b1.1 b2.1 b3.1 b0.2 b1.2 b2.2 b3.2 _ rfl (by omega) c1
    by_cases c2 : hv a0 * 4096 + hv a1 * 256 + hv a2 * 16 + hv a3 < 2048
    · exact walk_2 a0 a1 a2 a3 w g0 g1 g2 g3 _ _ _ _ rfl rfl rfl rfl b0.1 b1.1 b2.1 b3.1 b0.2 b1.2 b2.2 b3.2 _ rfl (by omega) c2
    exact walk_3 a0 a1 a2 a3 w g0 g1 g2 g3 _ _ _ _ rfl rfl rfl rfl b0.1 b1.1 b2.1 b3.1 b0.2 b1.2 b2.2 b3.2 _ rfl (by omega) (by omega)

/-! ### THE ROW's STEP: WRITTEN OUT: LEAVE IT -/
set_option maxRecDepth 100000 in
theorem lifted (os : Os) (started : os.Started) (H : Type) (enc : TypeId × Value → H) :
    ReturnsInHanded {} Try.checked os 4 .any (Rows.fnHexEscapeDecodesToItsCodePointSpec.pre6 enc Try.prog Try.f4 Rows.fnHexEscapeDecodesToItsCodePointRow.domain false) (Rows.fnHexEscapeDecodesToItsCodePointSpec.post enc Try.prog Try.f4 false true false false) := by
  refine returnsInHanded_of_change (C := Try.checked) own started (by kernel_rfl) Try.func4
    (ChangeSpec.witness6 (enc := enc) (C := Try.checked) false ⟨#[], #[.int .u8 0, .int .u8 0, .int .u8 0, .int .u8 0], []⟩ 8 (by kernel_rfl) (by kernel_rfl) (by kernel_rfl) (by kernel_rfl)) ?_
  intro W base args ds gs before hval0 hW hcnd _
  have hval : ∀ (j : Nat) t v, Try.f4.params[j]? = some t → args[j]? = some v → Value.okWide Try.prog W .any base t v := hval0
  have hW' := hW
  obtain ⟨p, q, hA0, hV, rfl, hfz, hnd⟩ := hW
  have hA : DataW.TrodAll enc Try.prog W 0 (fun _ => true) true Try.f4.params.toList args.toList ds p := hA0
  rw [Try.params4] at hA hval
  obtain ⟨v0, vs0, d0, ds0, p0, q0, hargs, rfl, rfl, h0, r0⟩ := trodAll_cons hA
  obtain ⟨v1, vs1, d1, ds1, p1, q1, rfl, rfl, rfl, h1, r1⟩ := trodAll_cons r0
  obtain ⟨v2, vs2, d2, ds2, p2, q2, rfl, rfl, rfl, h2, r2⟩ := trodAll_cons r1
  obtain ⟨v3, vs3, d3, ds3, p3, q3, rfl, rfl, rfl, h3, r3⟩ := trodAll_cons r2
  obtain ⟨rfl, rfl, rfl⟩ := trodAll_nil r3
  obtain rfl : args = #[v0, v1, v2, v3] := by cases args; simp_all
  obtain ⟨rfl, rfl⟩ := trodVars_none hV
  obtain ⟨a0, rfl, rfl, rfl, w0⟩ := open_int Try.underlying5 (hval 0 5 v0 rfl rfl) h0
  obtain ⟨a1, rfl, rfl, rfl, w1⟩ := open_int Try.underlying5 (hval 1 5 v1 rfl rfl) h1
  obtain ⟨a2, rfl, rfl, rfl, w2⟩ := open_int Try.underlying5 (hval 2 5 v2 rfl rfl) h2
  obtain ⟨a3, rfl, rfl, rfl, w3⟩ := open_int Try.underlying5 (hval 3 5 v3 rfl rfl) h3
  clear hA0 hval0
  simp only [List.append_nil] at hW'
  refine (walk a0 a1 a2 a3 w0 w1 w2 w3 W).mono fun e W' ⟨he, hg⟩ => ?_
  subst he
  exact ⟨_, rfl, post_of_same (pa := []) (pv := []) hW' (fun _ _ _ => (trodAll_cons_mk (shut_bool Try.underlying4 _) trodAll_mk0)) (fun sp _ => (trodAll_cons_mk (shut_int Try.underlying5 w0) (trodAll_cons_mk (shut_int Try.underlying5 w1) (trodAll_cons_mk (shut_int Try.underlying5 w2) (trodAll_cons_mk (shut_int Try.underlying5 w3) trodAll_mk0))))) (fun _ _ => rfl) rfl
    (hg.frame _) hg.2.1 (ok_one (by kernel_rfl) rfl (okWide_bool_mk Try.underlying4 _))⟩

theorem over : Rows.fnHexEscapeDecodesToItsCodePointRow.holds Try.pinned (OpenSpec.ofChange Rows.fnHexEscapeDecodesToItsCodePointSpec) :=
  OpenClaim.holds_of_wide 4 Try.f4 rfl rfl rfl rfl rfl rfl rfl ⟨rfl, rfl, rfl, rfl, rfl⟩ rfl rfl rfl rfl rfl (by kernel_rfl) Try.func4 (by kernel_rfl)
    (of_decide_eq_true (by kernel_rfl)) (by unfold Func.isWrapper; first | (rw [if_pos (by decide +kernel)]; kernel_rfl) | (rw [if_neg (by decide +kernel)]; exact ⟨rfl, rfl⟩))
    (fun os started H enc _ => lifted os started H enc)

/-- ████ THE STATEMENT ████ -/
theorem proved : Rows.FnHexEscapeDecodesToItsCodePointSaid :=
  over
end Go.Proofs.Qxb6614267a.fnHexEscapeDecodesToItsCodePoint
