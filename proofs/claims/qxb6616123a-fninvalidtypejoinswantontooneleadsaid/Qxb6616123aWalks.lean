/-
  SHARED WALKS OF SEAT b6616123a: 'invalidType' through its thin file: what a fault holds; the two byte bounds.
-/
import Derived.Test.Qxb6616123aProg
import Derived.WalkKit
import Derived.ProofKit
import Derived.WalkSpells
import Derived.LaidEqlPtr
import Derived.Laws.Rows
import Derived.WalkLawsBesides
namespace Go.Proofs.Qxb6616123a
open Go.RowKit
/-- m is the message of the want s: the lead of nine bytes, then s. -/
def Msg (s m : ByteArray) : Prop := m = { data := #[32, 109, 117, 115, 116, 32, 98, 101, 32] } ++ s
theorem Msg.size {s m : ByteArray} (h : Msg s m) : m.size = 9 + s.size := by
  unfold Msg at h; rw [h, ByteArray.size_append]; rfl
theorem Msg.head {s m : ByteArray} (h : Msg s m) : m.extract 0 9 = { data := #[32, 109, 117, 115, 116, 32, 98, 101, 32] } := by
  unfold Msg at h; subst h
  apply ByteArray.ext
  simp
theorem Msg.tail {s m : ByteArray} (h : Msg s m) : m.extract 9 (9 + s.size) = s := by
  unfold Msg at h; subst h
  apply ByteArray.ext
  simp
theorem Msg.same {s t m n : ByteArray} (h : Msg s m) (k : Msg t n) : (m.toList == n.toList) = (s.toList == t.toList) := by
  unfold Msg at h k; subst h; subst k
  rw [Bool.eq_iff_iff]
  simp [ByteArray.toList_eq]
theorem Msg.onto {s t m n : ByteArray} (h : Msg s m) (k : Msg (s ++ t) n) : n = m ++ t := by
  unfold Msg at h k; subst h; subst k
  apply ByteArray.ext
  simp
set_option maxHeartbeats 400000 in
theorem inv7 (s : ByteArray) (w : World) (hs : s.size ≤ 1048576) :
    Calls Try.prog 7 #[.string s] w fun e w' => e = .returned (.pointer (some ⟨w.heap.size, 0, none⟩)) ∧ ∃ m, Msg s m ∧ w' = w.alloc (.cells #[.string { data := #[105, 110, 118, 97, 108, 105, 100, 95, 116, 121, 112, 101] }, .string m, .bool false, .slice none 0 0] 39) := by
  go_enter Try.func7, Try.ntmps7
  go_wp2
  go_ret
  exact ⟨rfl, _, rfl, rfl⟩
set_option maxHeartbeats 400000 in
theorem code8 (b : Nat) (s : ByteArray) (w : World) (h : w.cell? ⟨b, 0, none⟩ = some (.string s)) :
    Calls Try.prog 8 #[.pointer (some ⟨b, 0, none⟩)] w fun e w' => e = .returned (.string s) ∧ w' = w := by
  go_enter Try.func8, Try.ntmps8
  go_wp2
  go_ret
  exact ⟨rfl, rfl⟩
set_option maxHeartbeats 400000 in
theorem alone9 (b : Nat) (s : Bool) (w : World) (h : w.cell? ⟨b, 2, none⟩ = some (.bool s)) :
    Calls Try.prog 9 #[.pointer (some ⟨b, 0, none⟩)] w fun e w' => e = .returned (.bool s) ∧ w' = w := by
  go_enter Try.func9, Try.ntmps9
  go_wp2
  go_ret
  exact ⟨rfl, rfl⟩
set_option maxHeartbeats 400000 in
theorem path10 (b : Nat) (w : World) (h : w.cell? ⟨b, 3, none⟩ = some (.slice none 0 0)) :
    Calls Try.prog 10 #[.pointer (some ⟨b, 0, none⟩)] w fun e w' => e = .returned (.int .i64 0) ∧ w' = w := by
  go_enter Try.func10, Try.ntmps10
  go_wp2
  go_ret
  exact ⟨rfl, rfl⟩
set_option maxHeartbeats 400000 in
theorem msg11 (b : Nat) (s : ByteArray) (w : World) (h : w.cell? ⟨b, 1, none⟩ = some (.string s)) :
    Calls Try.prog 11 #[.pointer (some ⟨b, 0, none⟩)] w fun e w' => e = .returned (.string s) ∧ w' = w := by
  go_enter Try.func11, Try.ntmps11
  go_wp2
  go_ret
  exact ⟨rfl, rfl⟩
/-! cells of the older of two new blocks of four cells, and of the younger -/
theorem c00 (w : World) (x0 x1 x2 x3 : Value) (t : TypeId) (o : Obj) : ((w.alloc (.cells #[x0, x1, x2, x3] t)).alloc o).cell? ⟨w.heap.size, 0, none⟩ = some x0 := by go_simp
theorem c01 (w : World) (x0 x1 x2 x3 : Value) (t : TypeId) (o : Obj) : ((w.alloc (.cells #[x0, x1, x2, x3] t)).alloc o).cell? ⟨w.heap.size, 1, none⟩ = some x1 := by go_simp
theorem c02 (w : World) (x0 x1 x2 x3 : Value) (t : TypeId) (o : Obj) : ((w.alloc (.cells #[x0, x1, x2, x3] t)).alloc o).cell? ⟨w.heap.size, 2, none⟩ = some x2 := by go_simp
theorem c03 (w : World) (x0 x1 x2 x3 : Value) (t : TypeId) (o : Obj) : ((w.alloc (.cells #[x0, x1, x2, x3] t)).alloc o).cell? ⟨w.heap.size, 3, none⟩ = some x3 := by go_simp
theorem c10 (w : World) (x0 x1 x2 x3 : Value) (t : TypeId) (o : Obj) : ((w.alloc o).alloc (.cells #[x0, x1, x2, x3] t)).cell? ⟨w.heap.size + 1, 0, none⟩ = some x0 := by go_simp
theorem c11 (w : World) (x0 x1 x2 x3 : Value) (t : TypeId) (o : Obj) : ((w.alloc o).alloc (.cells #[x0, x1, x2, x3] t)).cell? ⟨w.heap.size + 1, 1, none⟩ = some x1 := by go_simp
theorem c12 (w : World) (x0 x1 x2 x3 : Value) (t : TypeId) (o : Obj) : ((w.alloc o).alloc (.cells #[x0, x1, x2, x3] t)).cell? ⟨w.heap.size + 1, 2, none⟩ = some x2 := by go_simp
theorem c13 (w : World) (x0 x1 x2 x3 : Value) (t : TypeId) (o : Obj) : ((w.alloc o).alloc (.cells #[x0, x1, x2, x3] t)).cell? ⟨w.heap.size + 1, 3, none⟩ = some x3 := by go_simp
theorem size39 : (Try.prog.info? 39).map (·.size) = some 4 := by kernel_rfl
/-- two faults made one after the other are two -/
theorem ptr_apart (w : World) (c d : Array Value) :
    (binOp .eql 23 (.pointer (some ⟨w.heap.size, 0, none⟩)) (.pointer (some ⟨w.heap.size + 1, 0, none⟩))).run Try.prog ((w.alloc (.cells c 39)).alloc (.cells d 39)) = .ok (.bool false) ((w.alloc (.cells c 39)).alloc (.cells d 39)) := by
  obtain ⟨j, hj, hjs⟩ := Option.map_eq_some_iff.1 size39
  exact run_eql_ptr_other _ Try.underlying23 hj (by rw [hjs]; decide) (by simp) (ca := c) (cb := d) (ta := 39) (tb := 39) (heap_alloc2_old _ _ _) (heap_alloc2_new _ _ _)
end Go.Proofs.Qxb6616123a
