/- (*sync.Once).Do, (*strings.Replacer).Replace, strings.NewReplacer. -/
import Derived.Test.Qxb6614432aOnce

namespace Go.Proofs.Qxb6614432a
open Go.ChangeShapes Go.WideShapes Go.ChangeAt Go.RowKit Go.Deep
set_option linter.unusedVariables false
set_option maxRecDepth 100000 in
set_option maxHeartbeats 1600000 in
/-- '(*sync.Once).doSlow', not yet done, the lock free: the replacer is built. -/
theorem slow_any (R O c : Nat) (r : Value) (w : World) (hR : Hid (RAt R 0 0 r (.slice (some ⟨O, 0, none⟩) 2 c) w)) (hOR : ¬ O = R) (o0 : Hid (w.cell? ⟨O, 0, none⟩ = some (.string ⟨#[80, 65, 84, 84, 69, 82, 78]⟩))) (o1 : Hid (w.cell? ⟨O, 1, none⟩ = some (.string ⟨#[]⟩))) :
    Calls Try.prog 26 #[.pointer (some ⟨R, 0, none⟩), .func (.func 23) #[.pointer (some ⟨R, 0, none⟩)] #[]] w fun e w' => ∃ S F G : Nat, e = .returned (.tuple #[]) ∧ Frm R w w' ∧ Built R S F G 1 0 w' ∧ w.heap.size ≤ S ∧ w.heap.size ≤ F ∧ w.heap.size ≤ G := by
  have HR1 : Hid (RAt R 0 1 r (.slice (some ⟨O, 0, none⟩) 2 c) (w.setCell ⟨R, 1, none⟩ (.int .i32 1))) := hR.out.set1 1
  have hl := run_call_load (P := Try.prog) Try.func28 (by kernel_rfl) (by kernel_rfl) (by kernel_rfl) .u32 (by kernel_rfl) (w := w.setCell ⟨R, 1, none⟩ (.int .i32 1)) (a := ⟨R, 0, none⟩) (x := 0) (by rw [HR1.out.cell]; rfl)
  have hnot : ∀ (x : Bool) (w : World), (Op.unary .not (.bool x)).run Try.prog w = .ok (.bool (!x)) w := fun _ _ => rfl
  have hc1 : w.cell? ⟨R, 1, none⟩ = some (.int .i32 0) := by rw [hR.out.cell]; rfl
  have hf1 := hR.out.frozen 1
  have q0 : Hid ((w.setCell ⟨R, 1, none⟩ (.int .i32 1)).cell? ⟨O, 0, none⟩ = some (.string ⟨#[80, 65, 84, 84, 69, 82, 78]⟩)) := (World.cell?_setCell_other _ ⟨R, 1, none⟩ ⟨O, 0, none⟩ _ (by simp)).trans o0.out
  have q1 : Hid ((w.setCell ⟨R, 1, none⟩ (.int .i32 1)).cell? ⟨O, 1, none⟩ = some (.string ⟨#[]⟩)) := (World.cell?_setCell_other _ ⟨R, 1, none⟩ ⟨O, 1, none⟩ _ (by simp)).trans o1.out
  go_enter_defers Try.func26, Try.ntmps26
  go_wp2_with (first | (go_at_call 29; refine (lock_free ⟨R, 1, none⟩ _ hc1 hf1).mono ?_; rintro e w' ⟨rfl, rfl⟩) | (go_at_call 25; go_in))
  refine (once_at R O c 0 1 r _ HR1 q0.out q1.out).mono ?_
  rintro e w2 ⟨S, F, G, rfl, hFr, hBu, hg1, hg2, hg3⟩
  have HG : Hid (w.heap.size ≤ S ∧ w.heap.size ≤ F ∧ w.heap.size ≤ G) := by simp [World.setCell] at hg1 hg2 hg3; exact ⟨hg1, hg2, hg3⟩
  clear hg1 hg2 hg3
  have HF : Hid (Frm R (w.setCell ⟨R, 1, none⟩ (.int .i32 1)) w2) := hFr
  have HBu : Hid (Built R S F G 0 1 w2) := hBu
  clear hFr hBu hl
  go_wp2
  refine leaves_cons (f := 31) (args := #[.pointer (some ⟨R, 0, none⟩), .bool true]) (by simp) (by simp [go_sem]) ?_
  refine (store_deferred ⟨R, 0, none⟩ (.int .u32 0) .returning _ (by rw [HBu.out.1.cell]; rfl) (HBu.out.1.frozen 0)).mono ?_
  rintro e u' w'' ⟨rfl, rfl, rfl⟩
  have HR3 : RAt R 1 1 (.iface 68 (.pointer (some ⟨S, 0, none⟩))) (.slice none 0 0) (w2.drew.setCell ⟨R, 0, none⟩ (.int .u32 1)) := RAt.set0 (w := w2.drew) HBu.out.1 1
  refine leaves_cons (f := 30) (args := #[.pointer (some ⟨R, 1, none⟩)]) (by simp [settle]) (by simp [go_sem]) ?_
  refine (unlock_deferred ⟨R, 1, none⟩ _ _ (by rw [HR3.cell]; rfl) (HR3.frozen 1)).mono ?_
  rintro e u' w'' ⟨rfl, rfl, rfl⟩
  have hfr : Frm R w2 ((w2.drew.setCell ⟨R, 0, none⟩ (.int .u32 1)).setCell ⟨R, 1, none⟩ (.int .i32 0)) := (Frm.set R 0 w2.drew _).trans (Frm.set R 1 _ _)
  have hfin : Frm R w ((w2.drew.setCell ⟨R, 0, none⟩ (.int .u32 1)).setCell ⟨R, 1, none⟩ (.int .i32 0)) := ((Frm.set R 1 w _).trans HF.out).trans hfr
  have hbu : Built R S F G 1 0 ((w2.drew.setCell ⟨R, 0, none⟩ (.int .u32 1)).setCell ⟨R, 1, none⟩ (.int .i32 0)) := ⟨HR3.set1 0, HBu.out.2.1.frm hfr HBu.out.2.2.1 HBu.out.2.2.2.1 HBu.out.2.2.2.2, HBu.out.2.2⟩
  simp [Leaves, settle, results, Try.results26]
  exact ⟨hfin, S, F, G, hbu, HG.out⟩
set_option maxRecDepth 100000 in
set_option maxHeartbeats 1600000 in
theorem do_first (R O c : Nat) (r : Value) (w : World) (hR : Hid (RAt R 0 0 r (.slice (some ⟨O, 0, none⟩) 2 c) w)) (hOR : ¬ O = R) (o0 : Hid (w.cell? ⟨O, 0, none⟩ = some (.string ⟨#[80, 65, 84, 84, 69, 82, 78]⟩))) (o1 : Hid (w.cell? ⟨O, 1, none⟩ = some (.string ⟨#[]⟩))) :
    Calls Try.prog 22 #[.pointer (some ⟨R, 0, none⟩), .func (.func 23) #[.pointer (some ⟨R, 0, none⟩)] #[]] w fun e w' => ∃ S F G : Nat, e = .returned (.tuple #[]) ∧ Frm R w w' ∧ Built R S F G 1 0 w' ∧ w.heap.size ≤ S ∧ w.heap.size ≤ F ∧ w.heap.size ≤ G := by
  have hl := run_call_load (P := Try.prog) Try.func28 (by kernel_rfl) (by kernel_rfl) (by kernel_rfl) .u32 (by kernel_rfl) (w := w) (a := ⟨R, 0, none⟩) (x := 0) (by rw [hR.out.cell]; rfl)
  have hnot : ∀ (x : Bool) (w : World), (Op.unary .not (.bool x)).run Try.prog w = .ok (.bool (!x)) w := fun _ _ => rfl
  go_enter Try.func22, Try.ntmps22
  go_wp2_with (first | (go_at_call 26; refine (slow_any R O c r _ hR hOR o0 o1).mono ?_; rintro e w' ⟨S, F, G, rfl, h1, h2, h3⟩) | (go_at_call 25; go_in))
  go_end0
  exact ⟨S, F, G, rfl, h1, h2, h3⟩
theorem do_done (R : Nat) (st : Int) (r on : Value) (fv : Value) (w : World) (hR : RAt R 1 st r on w) :
    Calls Try.prog 22 #[.pointer (some ⟨R, 0, none⟩), fv] w fun e w' => e = .returned (.tuple #[]) ∧ w = w' := by
  have hl := run_call_load (P := Try.prog) Try.func28 (by kernel_rfl) (by kernel_rfl) (by kernel_rfl) .u32 (by kernel_rfl) (w := w) (a := ⟨R, 0, none⟩) (x := 1) (by rw [hR.cell]; rfl)
  have hnot : ∀ (x : Bool) (w : World), (Op.unary .not (.bool x)).run Try.prog w = .ok (.bool (!x)) w := fun _ _ => rfl
  clear hR
  go_enter Try.func22, Try.ntmps22
  go_wp2
  go_end0
  exact ⟨rfl, rfl⟩
/-- the replacer, raw or built, its own blocks outside X -/
def RS (R : Nat) (X : Nat → Prop) (w : World) : Prop :=
  (∃ O c, RAt R 0 0 .nilIface (.slice (some ⟨O, 0, none⟩) 2 c) w ∧ ¬ O = R ∧ w.cell? ⟨O, 0, none⟩ = some (.string ⟨#[80, 65, 84, 84, 69, 82, 78]⟩) ∧ w.cell? ⟨O, 1, none⟩ = some (.string ⟨#[]⟩) ∧ O < w.heap.size ∧ ¬ X O) ∨
  ∃ S F G, Built R S F G 1 0 w ∧ ¬ X S ∧ ¬ X F ∧ ¬ X G
theorem RS.lt {R : Nat} {X : Nat → Prop} {w : World} (h : RS R X w) : R < w.heap.size := by
  rcases h with ⟨O, c, h, _⟩ | ⟨S, F, G, ⟨h, _⟩, _⟩
  · exact h.lt
  · exact h.lt
theorem RS.change {R : Nat} {X X' : Nat → Prop} {w : World} (h : RS R X w) (hX : ∀ k, X' k → w.heap.size ≤ k) : RS R X' w := by
  rcases h with ⟨O, c, h1, h2, h3, h4, h5, _⟩ | ⟨S, F, G, h, _⟩
  · exact .inl ⟨O, c, h1, h2, h3, h4, h5, fun hx => by have := hX O hx; omega⟩
  · have a := h.2.1.ltS; have b := h.2.1.ltF; have c := h.2.1.ltG
    exact .inr ⟨S, F, G, h, fun hx => by have := hX S hx; omega, fun hx => by have := hX F hx; omega, fun hx => by have := hX G hx; omega⟩
theorem RS.below {R : Nat} {X : Nat → Prop} {w w' : World} (h : RS R X w) (hb : Below w.heap.size w w') : RS R X w' := by
  rcases h with ⟨O, c, h1, h2, h3, h4, h5, h6⟩ | ⟨S, F, G, h, hx⟩
  · exact .inl ⟨O, c, h1.of_below hb h1.lt, h2, by rw [hb.cell (p := ⟨O, 0, none⟩) h5]; exact h3, by rw [hb.cell (p := ⟨O, 1, none⟩) h5]; exact h4, Nat.lt_of_lt_of_le h5 hb.size, h6⟩
  · exact .inr ⟨S, F, G, ⟨h.1.of_below hb h.1.lt, h.2.1.below hb h.2.1.ltS h.2.1.ltF h.2.1.ltG, h.2.2⟩, hx⟩
theorem RS.drew {R : Nat} {X : Nat → Prop} {w : World} (h : RS R X w) : RS R X w.drew := h.below (Below.refl _ _).drew
theorem RS.drewN {R : Nat} {X : Nat → Prop} {w : World} (h : RS R X w) (q : Nat) : RS R X (w.drewN q) := h.below (below_drewN (Below.refl _ _) q)
/-- a store into a block of X -/
theorem RS.set {R : Nat} {X : Nat → Prop} {w : World} (h : RS R X w) (g i : Nat) (v : Value) (hg : X g) (hR : g ≠ R) : RS R X (w.setCell ⟨g, i, none⟩ v) := by
  have hf : Frm g w (w.setCell ⟨g, i, none⟩ v) := Frm.set g i w v
  rcases h with ⟨O, c, h1, h2, h3, h4, h5, h6⟩ | ⟨S, F, G, h, hS, hF, hG⟩
  · have hO : O ≠ g := fun e => h6 (e ▸ hg)
    exact .inl ⟨O, c, (hf.2.2.2.2 R h1.lt (fun e => hR e.symm)).trans h1, h2, by rw [hf.cell (a := ⟨O, 0, none⟩) h5 hO]; exact h3, by rw [hf.cell (a := ⟨O, 1, none⟩) h5 hO]; exact h4, Nat.lt_of_lt_of_le h5 hf.2.2.2.1, h6⟩
  · exact .inr ⟨S, F, G, ⟨(hf.2.2.2.2 R h.1.lt (fun e => hR e.symm)).trans h.1, h.2.1.frm hf (fun e => hS (e ▸ hg)) (fun e => hF (e ▸ hg)) (fun e => hG (e ▸ hg)), h.2.2⟩, hS, hF, hG⟩
theorem do_any (R : Nat) (X : Nat → Prop) (w : World) (h : RS R X w) (hX : ∀ k, X k → k < w.heap.size) :
    Calls Try.prog 22 #[.pointer (some ⟨R, 0, none⟩), .func (.func 23) #[.pointer (some ⟨R, 0, none⟩)] #[]] w fun e w' => ∃ S F G : Nat, e = .returned (.tuple #[]) ∧ Frm R w w' ∧ Built R S F G 1 0 w' ∧ ¬ X S ∧ ¬ X F ∧ ¬ X G := by
  rcases h with ⟨O, c, h1, h2, h3, h4, _, _⟩ | ⟨S, F, G, h, hx⟩
  · refine (do_first R O c _ w h1 h2 h3 h4).mono ?_
    rintro e w' ⟨S, F, G, rfl, k1, k2, k3, k4, k5⟩
    exact ⟨S, F, G, rfl, k1, k2, fun hx => by have := hX S hx; omega, fun hx => by have := hX F hx; omega, fun hx => by have := hX G hx; omega⟩
  · refine (do_done R 0 _ _ _ w h.1).mono ?_
    rintro e w' ⟨rfl, rfl⟩
    exact ⟨S, F, G, rfl, Frm.refl _ _, h, hx⟩
theorem method_replace (a : Addr) (w : World) : (method 253 68 (.pointer (some a)) "Replace").run Try.prog w = .ok (75, .pointer (some a)) w := by kernel_rfl
set_option maxRecDepth 100000 in
set_option maxHeartbeats 1600000 in
theorem replace_any (R : Nat) (X : Nat → Prop) (s : ByteArray) (w : World) (hs : s.size ≤ 1048576) (h : Hid (RS R X w)) (hX : Hid (∀ k, X k → k < w.heap.size)) :
    Calls Try.prog 19 #[.pointer (some ⟨R, 0, none⟩), .string s] w fun e w' => ∃ t : ByteArray, e = .returned (.string t) ∧ Frm R w w' ∧ RS R X w' ∧ Hid ((hasL s.data.toList = false ∧ t = s) ∨ (hasL s.data.toList = true ∧ t.size < s.size)) := by
  have hmf : ∀ (fn : Fn) (first cap : Array Value) (w : World), (Instr.makeFunc fn first cap).run Try.prog w = .ok (.func fn first cap) w := fun _ _ _ _ => rfl
  go_enter Try.func19, Try.ntmps19
  go_wp2_with fail
  refine (do_any R X _ h.out hX.out).mono ?_
  rintro e w1 ⟨S, F, G, rfl, h1, h2, hx⟩
  have HX : Hid (¬ X S ∧ ¬ X F ∧ ¬ X G) := hx
  clear hx
  have HF : Hid (Frm R w w1) := h1
  have HB : Hid (Built R S F G 1 0 w1) := h2
  have c3 : w1.cell? ⟨R, 3, none⟩ = some (.iface 68 (.pointer (some ⟨S, 0, none⟩))) := by rw [h2.1.cell]; rfl
  clear h1 h2
  have hmeth := method_replace
  go_wp2_with fail
  refine (single_any S F G s _ hs HB.out.2.1).mono ?_
  rintro e w2 ⟨t, rfl, h3, h4⟩
  go_wp2
  go_ret
  have hfr : Frm R w1 w2 := Frm.of_below h3
  exact ⟨t, rfl, HF.out.trans hfr, .inr ⟨S, F, G, ⟨HB.out.1.of_below h3 HB.out.1.lt, HB.out.2.1.frm hfr HB.out.2.2.1 HB.out.2.2.2.1 HB.out.2.2.2.2, HB.out.2.2⟩, HX.out⟩, h4⟩
set_option maxRecDepth 100000 in
set_option maxHeartbeats 1600000 in
theorem new_any (X : Nat) (w : World) (h0 : w.cell? ⟨X, 0, none⟩ = some (.string ⟨#[80, 65, 84, 84, 69, 82, 78]⟩)) (h1 : w.cell? ⟨X, 1, none⟩ = some (.string ⟨#[]⟩)) :
    Calls Try.prog 16 #[.slice (some ⟨X, 0, none⟩) 2 2] w fun e w' => ∃ R, e = .returned (.pointer (some ⟨R, 0, none⟩)) ∧ Below w.heap.size w w' ∧ RS R (fun _ => False) w' ∧ w.heap.size ≤ R := by
  go_enter Try.func16, Try.ntmps16
  go_wp2_with fail
  go_ret
  refine ⟨w.heap.size + 1, rfl, (((Below.refl _ _).alloc (Nat.le_refl _) _).alloc (by simp) _).drew, .inl ⟨w.heap.size, (Question.appendCap 2 0 9).cut (w.tape w.drawn (Question.appendCap 2 0 9)), ?_, by omega, ?_, ?_, by simp; omega, fun h => h⟩, by omega⟩
  · have hb := blk_alloc_new (w.alloc (Obj.cells (#[Value.string ⟨#[80, 65, 84, 84, 69, 82, 78]⟩, Value.string ⟨#[]⟩] ++ Builtin.zeroCells #[Value.string ⟨#[]⟩] ((Question.appendCap 2 0 9).cut (w.tape w.drawn (Question.appendCap 2 0 9)) - 2)) 9))
      (Obj.cells #[Value.int .u32 0, Value.int .i32 0, Value.int .u32 0, Value.nilIface, Value.slice (some ⟨w.heap.size, 0, none⟩) 2 ((Question.appendCap 2 0 9).cut (w.tape w.drawn (Question.appendCap 2 0 9)))] 60)
    rw [World.size_alloc] at hb
    exact hb
  · go_simp
    rw [Array.getElem?_append, if_pos (by simp)]
    rfl
  · go_simp
    rw [Array.getElem?_append, if_pos (by simp)]
    rfl
end Go.Proofs.Qxb6614432a
