/-
  SEAT b6616123aD: THE ROW OF FnWriteCountWritesDecimalsAndCountsThem, over its listed variables (after the guide's MapyProofs.lean).
-/
import Derived.Test.Qxb6616123aDoorMain
import Derived.ProofKit
import Derived.LaidMore
import Derived.OpenShut
import Derived.Stop.Joined
namespace Go.Proofs.Qxb6616123aDoor
open Go.ChangeShapes Go.WideShapes Go.ChangeAt Go.RowKit

theorem own : ownKnob Tryd.prog.godebug = none := by kernel_rfl
theorem laidOut : laidOutB Tryd.prog = true := by kernel_rfl
theorem cells3 : Tryd.prog.cellsOf 3 = 1 := by kernel_rfl
theorem cells37 : Tryd.prog.cellsOf 37 = 1 := by kernel_rfl
theorem cells53 : Tryd.prog.cellsOf 53 = 20 := by kernel_rfl
theorem gPow : Tryd.prog.globalNamed powName = some 0 := by kernel_rfl
theorem tPow : (Tryd.prog.globals[0]?).map (·.type) = some 53 := by kernel_rfl
def laid3 : List (String × DataW Unit) := Rows.fnWriteCountWritesDecimalsAndCountsThemRow.laid
/-- the third listed variable is the table of the powers of ten -/
theorem laid3_len : laid3.length = 3 := by kernel_rfl
theorem laid3_eq : ∃ x y, laid3 = [x, y, (powName, Lib.tabData .u64 Lib.pow10Tab)] := ⟨laid3[0]'(by rw [laid3_len]; decide), laid3[1]'(by rw [laid3_len]; decide), by kernel_rfl⟩

/-- The door's own heap meets the condition: three closed facts. -/
theorem door_met (os : Os) (args : Array Value) : laidMetH Tryd.prog laid3 ((World.doorLaid Tryd.prog 400 os).forCall (fun _ _ => 0) ⟨#[], args, []⟩).memory :=
  laidMetH_of_parts3 (fuel := 8) (laidMet_of_run' 8 (by kernel_rfl) (by kernel_rfl)) (by kernel_rfl) (by kernel_rfl)

/-- WHAT THE CONDITION GIVES THE WALK: the table. -/
theorem of_laid {W : World} (h : laidMetH Tryd.prog laid3 W) : PowTab W := by
  rw [MakeChecks.laidMetH_plain _ _ _ (by kernel_rfl)] at h
  obtain ⟨x, y, e⟩ := laid3_eq
  rw [e] at h
  obtain ⟨ps, ⟨g0, t0, cs0, f0, p0, q0, hg0, ht0, hv0, hd0, ⟨g1, t1, cs1, f1, p1, q1, hg1, ht1, hv1, hd1, ⟨g2, t2, cs2, f2, p2, q2, hg2, ht2, hv2, hd2, _, _⟩, _⟩, _⟩, _, _⟩ := h
  obtain rfl := Option.some.inj (gPow.symm.trans hg2)
  obtain rfl := Option.some.inj (tPow.symm.trans ht2)
  unfold PowTab Lib.TabIs
  rw [hv2, ← Lib.cells_of_tab Tryd.underlying53 Tryd.underlying37 cells37 cells53 hd2]
theorem pow_below {W : World} (h : PowTab W) : PowBelow W.heap.size W := fun w' hb => Lib.tabBelow_of_tabIs h w' hb

set_option maxHeartbeats 400000 in
theorem walk_nil0 (x : Option Addr) (w : World) : Calls Tryd.prog 3 #[.pointer none, .pointer x] w fun e w' => e = .returned (.bool true) ∧ w' = w := by
  go_enter Tryd.func3, Tryd.ntmps3
  go_wp2
  go_ret
  exact ⟨rfl, rfl⟩
set_option maxHeartbeats 400000 in
theorem walk_nil1 (a : Addr) (w : World) : Calls Tryd.prog 3 #[.pointer (some a), .pointer none] w fun e w' => e = .returned (.bool true) ∧ w' = w := by
  go_enter Tryd.func3, Tryd.ntmps3
  go_wp2
  go_ret
  exact ⟨rfl, rfl⟩

set_option maxRecDepth 100000 in
theorem lifted (os : Os) (started : os.Started) (H : Type) (enc : TypeId × Value → H) :
    ReturnsInHanded {} Tryd.checked os 3 .any (fun w args => (Rows.fnWriteCountWritesDecimalsAndCountsThemSpec.pre enc Tryd.prog Tryd.f3 [] false w args ∧ laidMetH Tryd.prog laid3 w) ∧ sizedMet enc Tryd.prog Tryd.f3 (OpenSpec.ofChange Rows.fnWriteCountWritesDecimalsAndCountsThemSpec) false w args)
      (Rows.fnWriteCountWritesDecimalsAndCountsThemSpec.post enc Tryd.prog Tryd.f3 false true false false) := by
  refine returnsInHanded_of_change_and (C := Tryd.checked) (X := fun w _ => laidMetH Tryd.prog laid3 w) (fun _ _ _ hh h => h.of_heap hh) own started (by kernel_rfl) Tryd.func3
    (ChangeSpec.witness_shaped (enc := enc) (C := Tryd.checked) (os := os) (X := fun w _ => laidMetH Tryd.prog laid3 w) false (World.doorLaid Tryd.prog 400 os) #[.pointer none, .pointer none] 8 rfl (World.shaped_of_RefB (by kernel_rfl) (by kernel_rfl)) (by kernel_rfl) (by kernel_rfl) (by kernel_rfl) (door_met os _)) ?_
  intro W base args ds gs before hval0 hW _ _ hL _
  have hval : ∀ (j : Nat) t v, Tryd.f3.params[j]? = some t → args[j]? = some v → Value.okWide Tryd.prog W .any base t v := hval0
  have hW' := hW
  obtain ⟨p, q, hA0, hV, rfl, hfz, hnd⟩ := hW
  have hA : DataW.TrodAll enc Tryd.prog W 0 (fun _ => true) true Tryd.f3.params.toList args.toList ds p := hA0
  rw [Tryd.params3] at hA hval
  obtain ⟨v0, v1, d0, d1, p0, p1, rfl, rfl, rfl, h0, h1⟩ := trodAll_two hA
  obtain ⟨rfl, rfl⟩ := trodVars_none hV
  have htab := pow_below (of_laid hL)
  clear hA0 hval0
  simp only [List.append_nil] at hW'
  have hlt : ∀ x ∈ p0 ++ p1, x.block < W.heap.size := fun x hx => by simpa using hW'.lt x hx
  have h0k := h0
  have h1k := h1
  have fin : ∀ (e : Ending) W', (e = .returned (.bool true) ∧ Below W.heap.size W W') → ∃ v, e = .returned v ∧ Rows.fnWriteCountWritesDecimalsAndCountsThemSpec.post enc Tryd.prog Tryd.f3 false true false false W #[v0, v1] v W' := by
    rintro e W' ⟨rfl, bel⟩
    refine ⟨_, rfl, _, _, _, [], p0 ++ p1, [], hW', ?_, ?_, ?_, bel.frame _, fun h => by cases h⟩
    · exact trodAll_mk1 (shut_bool Tryd.underlying4 _)
    · exact trodAll_mk2 (Below.trod laidOut (by kernel_rfl) (of_decide_eq_true (by kernel_rfl)) h0k bel (fun x hx => hlt x (by simp [hx]))) (Below.trod laidOut (by kernel_rfl) (of_decide_eq_true (by kernel_rfl)) h1k bel (fun x hx => hlt x (by simp [hx])))
    · rfl
  rcases open_ptr_int Tryd.underlying22 Tryd.underlying3 cells3 (hval 0 22 v0 rfl rfl) h0 with ⟨rfl, rfl, rfl⟩ | ⟨b0, o0, x, rfl, rfl, rfl, g0, wx⟩
  · rcases open_ptr_int Tryd.underlying22 Tryd.underlying3 cells3 (hval 1 22 v1 rfl rfl) h1 with ⟨rfl, rfl, rfl⟩ | ⟨b1, o1, y, rfl, rfl, rfl, g1, wy⟩
    · exact (walk_nil0 _ W).mono fun e W' ⟨he, hw⟩ => fin e W' ⟨he, hw ▸ Below.refl _ _⟩
    · exact (walk_nil0 _ W).mono fun e W' ⟨he, hw⟩ => fin e W' ⟨he, hw ▸ Below.refl _ _⟩
  rcases open_ptr_int Tryd.underlying22 Tryd.underlying3 cells3 (hval 1 22 v1 rfl rfl) h1 with ⟨rfl, rfl, rfl⟩ | ⟨b1, o1, y, rfl, rfl, rfl, g1, wy⟩
  · exact (walk_nil1 _ W).mono fun e W' ⟨he, hw⟩ => fin e W' ⟨he, hw ▸ Below.refl _ _⟩
  have bx := bounds_i64 wx
  have bw := bounds_i64 wy
  exact (main3 b0 o0 b1 o1 x y bx.1 bx.2 bw.1 bw.2 W g0 g1 htab).mono fin

theorem row_holds : Rows.FnWriteCountWritesDecimalsAndCountsThemSaid :=
  OpenClaim.holds_of_wide 3 Tryd.f3 rfl rfl rfl rfl rfl rfl rfl ⟨rfl, rfl, rfl, rfl, rfl⟩ rfl rfl rfl rfl rfl (by kernel_rfl) Tryd.func3 (by kernel_rfl)
    (of_decide_eq_true (by kernel_rfl)) (by unfold Func.isWrapper; first | (rw [if_pos (by decide +kernel)]; kernel_rfl) | (rw [if_neg (by decide +kernel)]; exact ⟨rfl, rfl⟩))
    (fun os started H enc _ => lifted os started H enc)
end Go.Proofs.Qxb6616123aDoor
