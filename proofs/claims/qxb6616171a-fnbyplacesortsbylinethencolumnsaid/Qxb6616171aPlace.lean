/-
  SEAT b6616171a: byPlace (function 16) and its thin file (7): line first, then column.
-/
import Derived.Test.Qxb6616171aProg
import Derived.WalkKit
import Derived.ProofKit
import Derived.WalkSpells
import Derived.WalkLawsBesides
import Derived.BigQuiet
import Derived.Deep.QuietTactic
import Derived.Deep.RegionWith
import Derived.Deep.RegionHeld3
import Derived.BigRegion
namespace Go.Proofs.Qxb6616171a
open Go.RowKit
/-- cmp.Compare on integers -/
def cmp3 (x y : Int) : Int := if x < y then -1 else if y < x then 1 else 0
theorem cmp3_lt {x y : Int} (h : x < y) : cmp3 x y = -1 := by unfold cmp3; rw [if_pos h]
theorem cmp3_gt {x y : Int} (h : y < x) : cmp3 x y = 1 := by unfold cmp3; rw [if_neg (by omega), if_pos h]
theorem cmp3_eq {x y : Int} (h : x = y) : cmp3 x y = 0 := by unfold cmp3; rw [if_neg (by omega), if_neg (by omega)]
theorem ret_int {k : IntKind} {a b : Int} (h : a = b) : Ending.returned (.int k a) = .returned (.int k b) := by rw [h]
set_option maxHeartbeats 400000 in
theorem isnan24 (x : Int) (w : World) : Calls Try.prog 24 #[.int .i64 x] w fun e w' => e = .returned (.bool false) ∧ w' = w := by
  go_enter Try.func24, Try.ntmps24
  go_wp2
  go_ret
  exact ⟨rfl, rfl⟩
set_option maxHeartbeats 400000 in
theorem compare21 (x y : Int) (w : World) : Calls Try.prog 21 #[.int .i64 x, .int .i64 y] w fun e w' => e = .returned (.int .i64 (cmp3 x y)) ∧ w' = w := by
  rcases Int.lt_trichotomy x y with h | h | h
  · rw [cmp3_lt h]
    go_enter Try.func21, Try.ntmps21
    go_wp2_with (go_at_call 24; refine (isnan24 _ _).mono ?_; rintro e w' ⟨rfl, rfl⟩)
    go_ret
    exact ⟨rfl, rfl⟩
  · rw [cmp3_eq h]
    subst h
    go_enter Try.func21, Try.ntmps21
    go_wp2_with (go_at_call 24; refine (isnan24 _ _).mono ?_; rintro e w' ⟨rfl, rfl⟩)
    go_ret
    exact ⟨rfl, rfl⟩
  · rw [cmp3_gt h]
    go_enter Try.func21, Try.ntmps21
    go_wp2_with (go_at_call 24; refine (isnan24 _ _).mono ?_; rintro e w' ⟨rfl, rfl⟩)
    go_ret
    exact ⟨rfl, rfl⟩
/-- cmp.Or of two -/
def or2 (x y : Int) : Int := if x = 0 then y else x
set_option maxHeartbeats 400000 in
theorem or20 (b : Nat) (x y : Int) (w : World) (h0 : w.cell? ⟨b, 0, none⟩ = some (.int .i64 x)) (h1 : w.cell? ⟨b, 1, none⟩ = some (.int .i64 y)) :
    Calls Try.prog 20 #[.slice (some ⟨b, 0, none⟩) 2 2] w fun e w' => e = .returned (.int .i64 (or2 x y)) ∧ w' = w := by
  by_cases hx : x = 0
  · have bx : (x != 0) = false := by simp [hx]
    rw [show or2 x y = y by unfold or2; rw [if_pos hx]]
    clear hx
    by_cases hy : y = 0
    · subst hy
      go_enter Try.func20, Try.ntmps20
      go_wp2
      refine wp_loop_rounds 3 ?_
      rw [rounds_succ]
      go_wp2
      rw [rounds_succ]
      go_wp2
      rw [rounds_succ]
      go_wp2
      go_ret
      exact ⟨rfl, rfl⟩
    · have by' : (y != 0) = true := by simp [hy]
      clear hy
      go_enter Try.func20, Try.ntmps20
      go_wp2
      refine wp_loop_rounds 2 ?_
      rw [rounds_succ]
      go_wp2
      rw [rounds_succ]
      go_wp2
      go_ret
      exact ⟨rfl, rfl⟩
  · have bx : (x != 0) = true := by simp [hx]
    rw [show or2 x y = x by unfold or2; rw [if_neg hx]]
    clear hx
    go_enter Try.func20, Try.ntmps20
    go_wp2
    refine wp_loop_rounds 1 ?_
    rw [rounds_succ]
    go_wp2
    go_ret
    exact ⟨rfl, rfl⟩

/-- a message: name, line, column, severity, text -/
abbrev msgA (nm : ByteArray) (l c : Int) (sv tx : ByteArray) : Value := .agg #[.string nm, .int .i64 l, .int .i64 c, .string sv, .string tx]
/-- byPlace -/
def place (l1 c1 l2 c2 : Int) : Int := or2 (cmp3 l1 l2) (cmp3 c1 c2)
theorem third0 (w : World) (o1 o2 : Obj) (x y : Value) : (((w.alloc o1).alloc o2).alloc (.cells #[x, y] 3)).drew.cell? ⟨w.heap.size + 1 + 1, 0, none⟩ = some x := by go_simp
theorem third1 (w : World) (o1 o2 : Obj) (x y : Value) : (((w.alloc o1).alloc o2).alloc (.cells #[x, y] 3)).drew.cell? ⟨w.heap.size + 1 + 1, 1, none⟩ = some y := by go_simp
theorem or20' (w : World) (o1 o2 : Obj) (x y : Int) :
    Calls Try.prog 20 #[.slice (some ⟨w.heap.size + 1 + 1, 0, none⟩) 2 2] (((w.alloc o1).alloc o2).alloc (.cells #[.int .i64 x, .int .i64 y] 3)).drew fun e w' => e = .returned (.int .i64 (or2 x y)) ∧ w' = (((w.alloc o1).alloc o2).alloc (.cells #[.int .i64 x, .int .i64 y] 3)).drew :=
  or20 _ x y _ (third0 _ _ _ _ _) (third1 _ _ _ _ _)
set_option maxHeartbeats 1600000 in
set_option maxRecDepth 100000 in
theorem byPlace16 (n1 s1 t1 n2 s2 t2 : ByteArray) (l1 c1 l2 c2 : Int) (w : World) :
    Calls Try.prog 16 #[msgA n1 l1 c1 s1 t1, msgA n2 l2 c2 s2 t2] w fun e w' => e = .returned (.int .i64 (place l1 c1 l2 c2)) ∧ Below w.heap.size w w' := by
  go_enter Try.func16, Try.ntmps16
  go_wp2
  go_region_held3 (fun w' => w'.cell? ⟨w.heap.size, 1, none⟩ = some (.int .i64 l1) ∧ w'.cell? ⟨w.heap.size, 2, none⟩ = some (.int .i64 c1) ∧ w'.cell? ⟨w.heap.size + 1, 1, none⟩ = some (.int .i64 l2) ∧ w'.cell? ⟨w.heap.size + 1, 2, none⟩ = some (.int .i64 c2)) (go_keep)
    (first
      | (go_at_call 21; refine (compare21 _ _ _).mono ?_; rintro e w' ⟨rfl, rfl⟩)
      | (go_at_call 20; refine (or20' w _ _ (cmp3 l1 l2) (cmp3 c1 c2)).mono ?_; rintro e w' ⟨rfl, rfl⟩))
  all_goals (go_wp2; go_ret; exact ⟨rfl, ((((Below.refl _ w).alloc (Nat.le_refl _) _).alloc (by simp) _).alloc (by simp; omega) _).drew⟩)
set_option maxHeartbeats 1600000 in
set_option maxRecDepth 100000 in
theorem byPlace7 (n1 s1 t1 n2 s2 t2 : ByteArray) (l1 c1 l2 c2 : Int) (w : World) :
    Calls Try.prog 7 #[msgA n1 l1 c1 s1 t1, msgA n2 l2 c2 s2 t2] w fun e w' => e = .returned (.int .i64 (place l1 c1 l2 c2)) ∧ Below w.heap.size w w' := by
  go_enter Try.func7, Try.ntmps7
  go_wp2_with fail
  refine (byPlace16 _ _ _ _ _ _ _ _ _ _ _).mono ?_
  rintro e w' ⟨rfl, hb⟩
  go_wp2
  go_ret
  exact ⟨rfl, (((Below.refl _ w).alloc (Nat.le_refl _) _).alloc (by simp) _).trans (hb.mono (by simp; omega))⟩
end Go.Proofs.Qxb6616171a
