/- build, buildOnce; the parts of sync.Once's slow road. -/
import Derived.Test.Qxb6614432aFinder
import Derived.Deep.RegionWith
import Derived.Defers
import Derived.Laws.Pointers
import Derived.Laws.LoneSync
import Derived.Conc.MuLone
import Derived.RegionTactic
import Derived.RegionCalls
import Derived.ChangeAlike
namespace Go.Proofs.Qxb6614432a
open Go.ChangeShapes Go.WideShapes Go.ChangeAt Go.RowKit Go.Deep
set_option linter.unusedVariables false
set_option maxHeartbeats 1000000 in
theorem mkSingle (w : World) :
    Calls Try.prog 32 #[.string ⟨#[80, 65, 84, 84, 69, 82, 78]⟩, .string ⟨#[]⟩] w fun e w' => ∃ S F G : Nat, e = .returned (.pointer (some ⟨S, 0, none⟩)) ∧ Below w.heap.size w w' ∧ Single S F G w' ∧ w.heap.size ≤ S ∧ w.heap.size ≤ F ∧ w.heap.size ≤ G := by
  go_enter Try.func32, Try.ntmps32
  go_wp2_with (go_at_call 38; refine (finder_any _).mono ?_; rintro e w1 ⟨F, G, rfl, hB, hF, h1, h2, h3, h4⟩)
  have HB : Hid (Below w.heap.size w w1) := hB
  have HF : Hid (Finder F G w1) := hF
  clear hB hF
  go_wp2
  go_ret
  have hs := HB.out.size
  have hb1 : Below w1.heap.size w1 (w1.alloc (.cells #[.pointer (some ⟨F, 0, none⟩), .string ⟨#[]⟩] 86)) := (Below.refl _ _).alloc (Nat.le_refl _) _
  refine ⟨w1.heap.size, F, G, rfl, HB.out.alloc hs _, ⟨⟨by rw [hb1.cell h1]; exact HF.out.word, fun c hc => by rw [hb1.cell h1]; exact HF.out.bads c hc, by rw [hb1.cell h1]; exact HF.out.good, fun j hj => by rw [hb1.cell h2]; exact HF.out.goods j hj⟩, ?_, ?_, ?_, ?_, ?_⟩, hs, h3, h4⟩
  · go_simp
  · go_simp
  · simp
  · simp; omega
  · simp; omega
/-- the replacer's struct, whole -/
def RAt (R : Nat) (d : Int) (st : Int) (r on : Value) (w : World) : Prop := w.heap[R]? = some (.cells #[.int .u32 d, .int .i32 st, .int .u32 0, r, on] 60 (0, 0))
theorem RAt.cell {R : Nat} {d st : Int} {r on : Value} {w : World} (h : RAt R d st r on w) (i : Nat) : w.cell? ⟨R, i, none⟩ = #[Value.int .u32 d, .int .i32 st, .int .u32 0, r, on][i]? := by
  rw [Lib.cell_of_heap h]
theorem RAt.frozen {R : Nat} {d st : Int} {r on : Value} {w : World} (h : RAt R d st r on w) (i : Nat) : w.frozen? ⟨R, i, none⟩ = false := Lib.frozen_of_heap h i
theorem RAt.lt {R : Nat} {d st : Int} {r on : Value} {w : World} (h : RAt R d st r on w) : R < w.heap.size := heap_lt h
set_option maxHeartbeats 1000000 in
theorem build_at (R O c : Nat) (d st : Int) (r : Value) (w : World) (hR : Hid (RAt R d st r (.slice (some ⟨O, 0, none⟩) 2 c) w)) (o0 : w.cell? ⟨O, 0, none⟩ = some (.string ⟨#[80, 65, 84, 84, 69, 82, 78]⟩)) (o1 : w.cell? ⟨O, 1, none⟩ = some (.string ⟨#[]⟩)) :
    Calls Try.prog 27 #[.pointer (some ⟨R, 0, none⟩)] w fun e w' => ∃ S F G : Nat, e = .returned (.iface 68 (.pointer (some ⟨S, 0, none⟩))) ∧ Below w.heap.size w w' ∧ Single S F G w' ∧ w.heap.size ≤ S ∧ w.heap.size ≤ F ∧ w.heap.size ≤ G := by
  have c4 : w.cell? ⟨R, 4, none⟩ = some (.slice (some ⟨O, 0, none⟩) 2 c) := by rw [hR.out.cell]; rfl
  go_enter Try.func27, Try.ntmps27
  go_wp2
  go_region_with (go_at_call 32; refine (mkSingle _).mono ?_; rintro e w1 ⟨S, F, G, rfl, hB, hS, h1, h2, h3⟩)
  all_goals
    have HB : Hid (Below w.heap.size w w1) := (Below.refl _ _).drew.trans hB
    have HS : Hid (Single S F G w1 ∧ w.heap.size ≤ S ∧ w.heap.size ≤ F ∧ w.heap.size ≤ G) := ⟨hS, h1, h2, h3⟩
    clear hB hS h1 h2 h3
    go_wp2
    go_ret
    exact ⟨S, F, G, rfl, HB.out, HS.out⟩
/-- all but block R, and what is new, stands as it stood -/
def Frm (R : Nat) (w w' : World) : Prop := w'.os = w.os ∧ w'.tape = w.tape ∧ w'.output = w.output ∧ w.heap.size ≤ w'.heap.size ∧ ∀ k, k < w.heap.size → k ≠ R → w'.heap[k]? = w.heap[k]?
theorem Frm.refl (R : Nat) (w : World) : Frm R w w := ⟨rfl, rfl, rfl, Nat.le_refl _, fun _ _ _ => rfl⟩
theorem Frm.trans {R : Nat} {a b c : World} (h : Frm R a b) (k : Frm R b c) : Frm R a c :=
  ⟨k.1.trans h.1, k.2.1.trans h.2.1, k.2.2.1.trans h.2.2.1, Nat.le_trans h.2.2.2.1 k.2.2.2.1, fun i hi hR => (k.2.2.2.2 i (Nat.lt_of_lt_of_le hi h.2.2.2.1) hR).trans (h.2.2.2.2 i hi hR)⟩
theorem Frm.of_below {R : Nat} {w w' : World} (h : Below w.heap.size w w') : Frm R w w' := ⟨h.os, h.tape, h.output, h.size, fun k hk _ => h.block k hk⟩
theorem Frm.set (R i : Nat) (w : World) (v : Value) : Frm R w (w.setCell ⟨R, i, none⟩ v) :=
  ⟨rfl, rfl, rfl, by simp [World.setCell], fun k hk hR => Below.heap_setCell w ⟨R, i, none⟩ v k hR⟩
theorem Frm.drew {R : Nat} {w w' : World} (h : Frm R w w') : Frm R w w'.drew := h
theorem Frm.below {R B : Nat} {w w' : World} (h : Frm R w w') (hB : B ≤ R) (hBw : B ≤ w.heap.size) : Below B w w' :=
  ⟨h.1, h.2.1, h.2.2.1, h.2.2.2.1, fun k hk => h.2.2.2.2 k (by omega) (by omega)⟩
theorem Frm.cell {R : Nat} {w w' : World} (h : Frm R w w') {a : Addr} (ha : a.block < w.heap.size) (hR : a.block ≠ R) : w'.cell? a = w.cell? a := World.cell?_of_block (w := w) (h.2.2.2.2 a.block ha hR)
theorem RAt.set3 {R : Nat} {d st : Int} {r on : Value} {w : World} (h : RAt R d st r on w) (v : Value) : RAt R d st v on (w.setCell ⟨R, 3, none⟩ v) := by
  unfold RAt at h ⊢; simp [World.setCell, Array.getElem?_modify, h]
theorem RAt.set4 {R : Nat} {d st : Int} {r on : Value} {w : World} (h : RAt R d st r on w) (v : Value) : RAt R d st r v (w.setCell ⟨R, 4, none⟩ v) := by
  unfold RAt at h ⊢; simp [World.setCell, Array.getElem?_modify, h]
theorem RAt.set0 {R : Nat} {d st : Int} {r on : Value} {w : World} (h : RAt R d st r on w) (v : Int) : RAt R v st r on (w.setCell ⟨R, 0, none⟩ (.int .u32 v)) := by
  unfold RAt at h ⊢; simp [World.setCell, Array.getElem?_modify, h]
theorem RAt.set1 {R : Nat} {d st : Int} {r on : Value} {w : World} (h : RAt R d st r on w) (v : Int) : RAt R d v r on (w.setCell ⟨R, 1, none⟩ (.int .i32 v)) := by
  unfold RAt at h ⊢; simp [World.setCell, Array.getElem?_modify, h]
theorem RAt.of_below {R B : Nat} {d st : Int} {r on : Value} {w w' : World} (h : RAt R d st r on w) (hb : Below B w w') (hB : R < B) : RAt R d st r on w' := (hb.block R hB).trans h
theorem Single.frm {R S F G : Nat} {w w' : World} (h : Single S F G w) (hf : Frm R w w') (hS : S ≠ R) (hF : F ≠ R) (hG : G ≠ R) : Single S F G w' :=
  ⟨⟨by rw [hf.cell h.ltF hF]; exact h.fin.word, fun c hc => by rw [hf.cell h.ltF hF]; exact h.fin.bads c hc, by rw [hf.cell h.ltF hF]; exact h.fin.good, fun j hj => by rw [hf.cell h.ltG hG]; exact h.fin.goods j hj⟩,
   by rw [hf.cell h.ltS hS]; exact h.ptr, by rw [hf.cell h.ltS hS]; exact h.val, Nat.lt_of_lt_of_le h.ltS hf.2.2.2.1, Nat.lt_of_lt_of_le h.ltF hf.2.2.2.1, Nat.lt_of_lt_of_le h.ltG hf.2.2.2.1⟩
/-- the built replacer -/
def Built (R S F G : Nat) (d st : Int) (w : World) : Prop := RAt R d st (.iface 68 (.pointer (some ⟨S, 0, none⟩))) (.slice none 0 0) w ∧ Single S F G w ∧ S ≠ R ∧ F ≠ R ∧ G ≠ R
set_option maxHeartbeats 1000000 in
theorem once_at (R O c : Nat) (d st : Int) (r : Value) (w : World) (hR : Hid (RAt R d st r (.slice (some ⟨O, 0, none⟩) 2 c) w)) (o0 : w.cell? ⟨O, 0, none⟩ = some (.string ⟨#[80, 65, 84, 84, 69, 82, 78]⟩)) (o1 : w.cell? ⟨O, 1, none⟩ = some (.string ⟨#[]⟩)) :
    Calls Try.prog 23 #[.pointer (some ⟨R, 0, none⟩)] w fun e w' => ∃ S F G : Nat, e = .returned (.tuple #[]) ∧ Frm R w w' ∧ Built R S F G d st w' ∧ w.heap.size ≤ S ∧ w.heap.size ≤ F ∧ w.heap.size ≤ G := by
  have hlt := hR.out.lt
  go_enter Try.func23, Try.ntmps23
  go_wp2_with fail
  refine (build_at R O c d st r _ hR o0 o1).mono ?_
  rintro e w1 ⟨S, F, G, rfl, hB, hS, h1, h2, h3⟩
  have HR : Hid (RAt R d st r (.slice (some ⟨O, 0, none⟩) 2 c) w1) := hR.out.of_below hB hlt
  have HB : Hid (Below w.heap.size w w1) := hB
  have HS : Hid (Single S F G w1 ∧ w.heap.size ≤ S ∧ w.heap.size ≤ F ∧ w.heap.size ≤ G) := ⟨hS, h1, h2, h3⟩
  clear hB hS h1 h2 h3 o0 o1
  have c3 : w1.cell? ⟨R, 3, none⟩ = some r := by rw [HR.out.cell]; rfl
  have c4 : w1.cell? ⟨R, 4, none⟩ = some (.slice (some ⟨O, 0, none⟩) 2 c) := by rw [HR.out.cell]; rfl
  have f3 := HR.out.frozen 3
  have f4 := HR.out.frozen 4
  go_wp2
  go_end0
  obtain ⟨hS, h1, h2, h3⟩ := HS.out
  have hf : Frm R w1 ((w1.setCell ⟨R, 3, none⟩ (.iface 68 (.pointer (some ⟨S, 0, none⟩)))).setCell ⟨R, 4, none⟩ (.slice none 0 0)) := (Frm.set R 3 w1 _).trans (Frm.set R 4 _ _)
  exact ⟨S, F, G, rfl, (Frm.of_below HB.out).trans hf, ⟨(HR.out.set3 _).set4 _, hS.frm hf (by omega) (by omega) (by omega), by omega, by omega, by omega⟩, h1, h2, h3⟩
theorem store_deferred (a : Addr) (x : Value) (u : FrameMode) (w : World) (hc : w.cell? a = some x) (hz : w.frozen? a = false) :
    CallsD Try.prog 31 #[.pointer (some a), .bool true] u w fun e u' w' => u' = u ∧ (e = .returned (.tuple #[]) ∧ w' = w.drew.setCell a (.int .u32 1)) := by
  have hc' : w.drew.cell? a = some x := by go_simp
  have hz' : w.drew.frozen? a = false := by go_simp
  have hst := run_call_store (P := Try.prog) Try.func36 (by kernel_rfl) (by kernel_rfl) (by kernel_rfl) (by kernel_rfl) (k := .u32) (y := 1) hc' hz'
  go_enter_d Try.func31, Try.ntmps31
  go_wp2
  go_region_calls
  all_goals (go_end0; exact ⟨rfl, rfl⟩)
/-- the numbers under which this program holds the library's lock -/
abbrev muLink : Go.Conc.Locks.MuLink := { lock := 29, unlock := 30, ilock := 34, iunlock := 35, lockSlow := 44, unlockSlow := 47, disable := 40, enable := 42, acquire := 43, relMerge := 45, cas32 := 41, add32 := 46, tMutex := 54, tIMutex := 52, tPMutex := 80, tPIMutex := 94, tPI32 := 96, tUP := 98, tNoCopy := 46, tU32 := 48 }
theorem muLib : Go.Conc.Locks.MuLib Try.prog muLink :=
  ⟨Try.func29, Try.func30, Try.func34, Try.func35, Try.func40, Try.func42, Try.func43, Try.func45, Try.func41, Try.func46, Try.underlying52, Try.runUnderlying52, Try.sizeOf52, Try.isAgg52, Try.zeroValue52, Try.underlying54, Try.runUnderlying54, Try.sizeOf54, Try.isAgg54, Try.zeroValue54, Try.underlying80, Try.runUnderlying80, Try.sizeOf80, Try.isAgg80, Try.zeroValue80, Try.underlying94, Try.runUnderlying94, Try.sizeOf94, Try.isAgg94, Try.zeroValue94, Try.underlying96, Try.runUnderlying96, Try.sizeOf96, Try.isAgg96, Try.zeroValue96, Try.underlying98, Try.runUnderlying98, Try.sizeOf98, Try.isAgg98, Try.zeroValue98, Try.underlying46, Try.runUnderlying46, Try.sizeOf46, Try.isAgg46, Try.zeroValue46, Try.underlying21, Try.runUnderlying21, Try.sizeOf21, Try.isAgg21, Try.zeroValue21, by kernel_rfl⟩
theorem unlock_deferred (a : Addr) (u : FrameMode) (w : World) (hc : w.cell? a = some (.int .i32 1)) (hz : w.frozen? a = false) :
    CallsD Try.prog 30 #[.pointer (some a)] u w fun e u' w' => u' = u ∧ (e = .returned (.tuple #[]) ∧ w' = w.setCell a (.int .i32 0)) := MuLone.unlock_deferred muLib a u w hc hz
theorem lock_free (a : Addr) (w : World) (hc : w.cell? a = some (.int .i32 0)) (hz : w.frozen? a = false) :
    Calls Try.prog 29 #[.pointer (some a)] w fun e w' => e = .returned (.tuple #[]) ∧ w' = w.setCell a (.int .i32 1) := MuLone.lock_free muLib a w hc hz
end Go.Proofs.Qxb6614432a
