/-
  SEAT b6616171a: zzb1InsertStr (14), zzb1InsertInt (15): a new slice with one element put in at place p.
-/
import Derived.Test.Qxb6616171aCopy
import Derived.Lib.Hide
import Derived.Test.Qxb6616171aResolver
namespace Go.Proofs.Qxb6616171a
open Go.RowKit
/-- f with x put in at place p -/
def ins {α : Type} (f : Nat → α) (p : Nat) (x : α) : Nat → α := fun t => if t < p then f t else if t = p then x else f (t - 1)
theorem ins_lt {α : Type} (f : Nat → α) (p : Nat) (x : α) (t : Nat) (h : t < p) : ins f p x t = f t := by unfold ins; rw [if_pos h]
theorem ins_eq {α : Type} (f : Nat → α) (p : Nat) (x : α) : ins f p x p = x := by unfold ins; rw [if_neg (by omega), if_pos rfl]
theorem ins_gt {α : Type} (f : Nat → α) (p : Nat) (x : α) (t : Nat) (h : p ≤ t) : ins f p x (t + 1) = f t := by unfold ins; rw [if_neg (by omega), if_neg (by omega)]; rfl
theorem ins3 : (Try.prog.info? 3).map (fun i => (i.zero, i.size, i.bytes)) = some (some (.int .i64 0), 1, 8) := by kernel_rfl
theorem ins9 : (Try.prog.info? 9).map (fun i => (i.zero, i.size, i.bytes)) = some (some (.string ⟨#[]⟩), 1, 16) := by kernel_rfl
/-- k of the places of block g hold F -/
structure Put (w wr : World) (g N : Nat) (z : Value) (F : Nat → Value) (k : Nat) : Prop where
  row : Row wr g (cutd z F k) N
  nx : Below w.heap.size w wr
theorem Put.step {w wr : World} {g N k : Nat} {z : Value} {F : Nat → Value} (h : Put w wr g N z F k) (hk : k < N) (hg : w.heap.size ≤ g) (v : Value) (hv : v = F k) : Put w (wr.setCell ⟨g, k, none⟩ v) g N z F (k + 1) := by
  subst hv
  refine ⟨?_, h.nx.setCell hg _⟩
  rw [← cutd_succ]
  exact h.row.set k _ hk
theorem Put.all {w wr : World} {g N : Nat} {z : Value} {F : Nat → Value} (h : Put w wr g N z F N) : Row wr g F N := h.row.congr _ fun _ ht => cutd_below _ _ _ _ ht
theorem Put.start {w w1 : World} {e : TypeId} {N : Nat} {z : Value} {F : Nat → Value} (own1 : w1.ownsRow w.heap.size e 1 (.slice (some ⟨w.heap.size, 0, none⟩) N N) N (madeCells #[z] N).toList) (gr1 : w.grownBy w1 none) : Put w w1 w.heap.size N z F 0 := by
  refine ⟨?_, (Below.refl _ w).grown gr1 (Nat.le_refl _) (by simp)⟩
  rw [cutd_zero]
  exact Row.made1 own1
/-- what an insertion comes to -/
def Put1 (w' : World) (e : Ending) (N : Nat) (F : Nat → Value) : Prop := ∃ a, e = .returned (.slice a N N) ∧ SVal w' a N F
theorem Put1.mk {w' : World} {g N : Nat} {F : Nat → Value} (h : Row w' g F N) : Put1 w' (.returned (.slice (some ⟨g, 0, none⟩) N N)) N F :=
  ⟨_, rfl, fun t ht => ⟨g, 0, rfl, by rw [Nat.zero_add]; exact h.cell t ht⟩⟩
set_option maxHeartbeats 1600000 in
set_option maxRecDepth 100000 in
theorem insert14 (a : Option Addr) (n c : Nat) (p : Nat) (x : ByteArray) (f : Nat → ByteArray) (w : World) (hn : n ≤ 1048576) (hp : p ≤ n) (h : SStr w a n f) :
    Calls Try.prog 14 #[.slice a n c, .int .i64 p, .string x] w fun e w' => Put1 w' e (n + 1) (fun t => .string (ins f p x t)) ∧ Below w.heap.size w w' := by
  obtain ⟨i0, hi, z0, z1, z2⟩ := info_parts ins9
  have HS := Lib.hid h
  clear h
  go_enter Try.func14, Try.ntmps14
  go_wp2_with (first
    | (at_make; refine wpList_make_full _ rfl (.tmp 12) (.tmp 12) 29 rfl w.heap.size 9 i0 _ 1 Try.underlying29 hi z0 z1 _ _ _ _ (n + 1) rfl rfl (by omega) (by omega) (by rw [z2]; omega) (by unfold maxLen; omega) (Nat.le_refl _) ?_))
  intro w1 own1 gr1
  have hput := Put.start (F := fun t => .string (ins f p x t)) own1 gr1
  clear own1 gr1
  go_wp2
  go_loopw [8] (fun i wr => ∃ k : Nat, k ≤ p ∧ i = .int .i64 k ∧ Put w wr w.heap.size (n + 1) (.string ⟨#[]⟩) (fun t => .string (ins f p x t)) k) (fun i _ => p - (intOf i).toNat)
  case atStart => exact ⟨0, Nat.zero_le _, rfl, hput⟩
  case round =>
    clear hput
    obtain ⟨k, hk, rfl, hf⟩ := hrel
    by_cases hlt : k < p
    · obtain ⟨b, o, rfl, e0⟩ := HS.out k (by omega)
      have d0 := (hf.nx.cell (p := ⟨b, o + k, none⟩) (World.block_lt_of_cell? w _ e0)).trans e0
      have hst := hf.step (by omega) (Nat.le_refl _) (.string (f k)) (by show _ = Value.string (ins f p x k); rw [ins_lt _ _ _ _ hlt])
      obtain ⟨old, hq0⟩ : ∃ old, wr.cell? ⟨w.heap.size, k, none⟩ = some old := ⟨_, hf.row.cell k (by omega)⟩
      have hq1 := hf.row.free k
      have i1 : (k : Int) < (n : Int) := by omega
      have i2 : (k : Int) < (n : Int) + 1 := by omega
      clear e0 hf
      go_wp2
      go_roundw
      case rel => exact ⟨k + 1, by omega, by go_num, hst⟩
      case measure => simp [intOf]; omega
    · obtain rfl : p = k := by omega
      have hst := hf.step (by omega) (Nat.le_refl _) (.string x) (by show _ = Value.string (ins f p x p); rw [ins_eq])
      obtain ⟨old, hq0⟩ : ∃ old, wr.cell? ⟨w.heap.size, p, none⟩ = some old := ⟨_, hf.row.cell p (by omega)⟩
      have hq1 := hf.row.free p
      have i2 : (p : Int) < (n : Int) + 1 := by omega
      clear hf
      go_wp2
      go_loopw [9] (fun i wr => ∃ k : Nat, p ≤ k ∧ k ≤ n ∧ i = .int .i64 k ∧ Put w wr w.heap.size (n + 1) (.string ⟨#[]⟩) (fun t => .string (ins f p x t)) (k + 1)) (fun i _ => n - (intOf i).toNat)
      case atStart => exact ⟨p, Nat.le_refl _, hp, rfl, hst⟩
      case round =>
        clear hst hq0 hq1
        obtain ⟨k, hpk, hk, rfl, hf⟩ := hrel
        by_cases hlt : k < n
        · obtain ⟨b, o, rfl, e0⟩ := HS.out k hlt
          have d0 := (hf.nx.cell (p := ⟨b, o + k, none⟩) (World.block_lt_of_cell? w _ e0)).trans e0
          have hst := hf.step (by omega) (Nat.le_refl _) (.string (f k)) (by show _ = Value.string (ins f p x (k + 1)); rw [ins_gt _ _ _ _ hpk])
          obtain ⟨old, hq0⟩ : ∃ old, wr.cell? ⟨w.heap.size, k + 1, none⟩ = some old := ⟨_, hf.row.cell (k + 1) (by omega)⟩
          have hq1 := hf.row.free (k + 1)
          have i1 : (k : Int) < (n : Int) := by omega
          have i2 : (k : Int) + 1 < (n : Int) + 1 := by omega
          clear e0 hf
          go_wp2
          go_roundw
          case rel => exact ⟨k + 1, by omega, by omega, by go_num, hst⟩
          case measure => simp [intOf]; omega
        · obtain rfl : n = k := by omega
          have hrow := Put1.mk hf.all
          have hnx := hf.nx
          clear hf
          go_wp2
          go_ret
          exact ⟨hrow, hnx⟩
set_option maxHeartbeats 1600000 in
set_option maxRecDepth 100000 in
theorem insert15 (a : Option Addr) (n c : Nat) (p : Nat) (x : Int) (f : Nat → Int) (w : World) (hn : n ≤ 1048576) (hp : p ≤ n) (h : SInt w a n f) :
    Calls Try.prog 15 #[.slice a n c, .int .i64 p, .int .i64 x] w fun e w' => Put1 w' e (n + 1) (fun t => .int .i64 (ins f p x t)) ∧ Below w.heap.size w w' := by
  obtain ⟨i0, hi, z0, z1, z2⟩ := info_parts ins3
  have HS := Lib.hid h
  clear h
  go_enter Try.func15, Try.ntmps15
  go_wp2_with (first
    | (at_make; refine wpList_make_full _ rfl (.tmp 12) (.tmp 12) 22 rfl w.heap.size 3 i0 _ 1 Try.underlying22 hi z0 z1 _ _ _ _ (n + 1) rfl rfl (by omega) (by omega) (by rw [z2]; omega) (by unfold maxLen; omega) (Nat.le_refl _) ?_))
  intro w1 own1 gr1
  have hput := Put.start (F := fun t => .int .i64 (ins f p x t)) own1 gr1
  clear own1 gr1
  go_wp2
  go_loopw [8] (fun i wr => ∃ k : Nat, k ≤ p ∧ i = .int .i64 k ∧ Put w wr w.heap.size (n + 1) (.int .i64 0) (fun t => .int .i64 (ins f p x t)) k) (fun i _ => p - (intOf i).toNat)
  case atStart => exact ⟨0, Nat.zero_le _, rfl, hput⟩
  case round =>
    clear hput
    obtain ⟨k, hk, rfl, hf⟩ := hrel
    by_cases hlt : k < p
    · obtain ⟨b, o, rfl, e0⟩ := HS.out k (by omega)
      have d0 := (hf.nx.cell (p := ⟨b, o + k, none⟩) (World.block_lt_of_cell? w _ e0)).trans e0
      have hst := hf.step (by omega) (Nat.le_refl _) (.int .i64 (f k)) (by show _ = Value.int .i64 (ins f p x k); rw [ins_lt _ _ _ _ hlt])
      obtain ⟨old, hq0⟩ : ∃ old, wr.cell? ⟨w.heap.size, k, none⟩ = some old := ⟨_, hf.row.cell k (by omega)⟩
      have hq1 := hf.row.free k
      have i1 : (k : Int) < (n : Int) := by omega
      have i2 : (k : Int) < (n : Int) + 1 := by omega
      clear e0 hf
      go_wp2
      go_roundw
      case rel => exact ⟨k + 1, by omega, by go_num, hst⟩
      case measure => simp [intOf]; omega
    · obtain rfl : p = k := by omega
      have hst := hf.step (by omega) (Nat.le_refl _) (.int .i64 x) (by show _ = Value.int .i64 (ins f p x p); rw [ins_eq])
      obtain ⟨old, hq0⟩ : ∃ old, wr.cell? ⟨w.heap.size, p, none⟩ = some old := ⟨_, hf.row.cell p (by omega)⟩
      have hq1 := hf.row.free p
      have i2 : (p : Int) < (n : Int) + 1 := by omega
      clear hf
      go_wp2
      go_loopw [9] (fun i wr => ∃ k : Nat, p ≤ k ∧ k ≤ n ∧ i = .int .i64 k ∧ Put w wr w.heap.size (n + 1) (.int .i64 0) (fun t => .int .i64 (ins f p x t)) (k + 1)) (fun i _ => n - (intOf i).toNat)
      case atStart => exact ⟨p, Nat.le_refl _, hp, rfl, hst⟩
      case round =>
        clear hst hq0 hq1
        obtain ⟨k, hpk, hk, rfl, hf⟩ := hrel
        by_cases hlt : k < n
        · obtain ⟨b, o, rfl, e0⟩ := HS.out k hlt
          have d0 := (hf.nx.cell (p := ⟨b, o + k, none⟩) (World.block_lt_of_cell? w _ e0)).trans e0
          have hst := hf.step (by omega) (Nat.le_refl _) (.int .i64 (f k)) (by show _ = Value.int .i64 (ins f p x (k + 1)); rw [ins_gt _ _ _ _ hpk])
          obtain ⟨old, hq0⟩ : ∃ old, wr.cell? ⟨w.heap.size, k + 1, none⟩ = some old := ⟨_, hf.row.cell (k + 1) (by omega)⟩
          have hq1 := hf.row.free (k + 1)
          have i1 : (k : Int) < (n : Int) := by omega
          have i2 : (k : Int) + 1 < (n : Int) + 1 := by omega
          clear e0 hf
          go_wp2
          go_roundw
          case rel => exact ⟨k + 1, by omega, by omega, by go_num, hst⟩
          case measure => simp [intOf]; omega
        · obtain rfl : n = k := by omega
          have hrow := Put1.mk hf.all
          have hnx := hf.nx
          clear hf
          go_wp2
          go_ret
          exact ⟨hrow, hnx⟩
end Go.Proofs.Qxb6616171a
