/-
  SEAT b6616171a: ZZnewResolver (function 10): a resolver whose messages are the given ones.
-/
import Derived.Test.Qxb6616171aBytes
import Derived.BigRegion
namespace Go.Proofs.Qxb6616171a
open Go.RowKit
theorem inf27 : (Try.prog.info? 27).map (fun i => (i.zero, i.size, i.bytes)) = some (some (.agg #[.string ⟨#[]⟩, .int .i64 0, .int .i64 0, .string ⟨#[]⟩, .string ⟨#[]⟩]), 5, 64) := by kernel_rfl
/-- f below k, d from k on -/
def cutd {α : Type} (d : α) (f : Nat → α) (k : Nat) : Nat → α := fun t => if t < k then f t else d
theorem cutd_zero {α : Type} (d : α) (f : Nat → α) : cutd d f 0 = fun _ => d := by funext t; simp [cutd]
theorem cutd_succ {α : Type} (d : α) (f : Nat → α) (k : Nat) : upd (cutd d f k) k (f k) = cutd d f (k + 1) := by
  funext t
  unfold upd cutd
  by_cases e : t = k
  · subst e; simp
  · rw [if_neg e]
    by_cases h : t < k
    · rw [if_pos h, if_pos (by omega)]
    · rw [if_neg h, if_neg (by omega)]
theorem cutd_below {α : Type} (d : α) (f : Nat → α) (k t : Nat) (h : t < k) : cutd d f k t = f t := by unfold cutd; rw [if_pos h]
/-- k of the n messages stand -/
structure Part (w wr : World) (n M : Nat) (nm : Nat → ByteArray) (l c : Nat → Int) (sv tx : Nat → ByteArray) (k : Nat) : Prop where
  ms : MRow wr M n (cutd ⟨#[]⟩ nm k) (cutd 0 l k) (cutd 0 c k) (cutd ⟨#[]⟩ sv k) (cutd ⟨#[]⟩ tx k)
  nx : Below w.heap.size w wr
/-- a resolver at R, its messages at M -/
structure Res (w : World) (R M n : Nat) (nm : Nat → ByteArray) (l c : Nat → Int) (sv tx : Nat → ByteArray) : Prop where
  fld : w.cell? ⟨R, 4, none⟩ = some (.slice (some ⟨M, 0, none⟩) n n)
  ms : MRow w M n nm l c sv tx
  lt : R < w.heap.size
variable {w wr wr' : World} {n M R : Nat} {nm sv tx : Nat → ByteArray} {l c : Nat → Int}
theorem Part.drew {k : Nat} (h : Part w wr n M nm l c sv tx k) : Part w wr.drew n M nm l c sv tx k := ⟨h.ms, h.nx.drew⟩
theorem Part.step {k : Nat} (h : Part w wr n M nm l c sv tx k) (hk : k < n) (hM : w.heap.size ≤ M) :
    Part w (((((wr.setCell ⟨M, k * 5, none⟩ (.string (nm k))).setCell ⟨M, k * 5 + 1, none⟩ (.int .i64 (l k))).setCell ⟨M, k * 5 + 2, none⟩ (.int .i64 (c k))).setCell ⟨M, k * 5 + 3, none⟩ (.string (sv k))).setCell ⟨M, k * 5 + 4, none⟩ (.string (tx k))) n M nm l c sv tx (k + 1) := by
  have hm := h.ms.store k hk (nm k) (l k) (c k) (sv k) (tx k)
  rw [cutd_succ, cutd_succ, cutd_succ, cutd_succ, cutd_succ] at hm
  exact ⟨hm, ((((h.nx.setCell hM _).setCell hM _).setCell hM _).setCell hM _).setCell hM _⟩
theorem Part.all (h : Part w wr n M nm l c sv tx n) : MRow wr M n nm l c sv tx :=
  Row.congr h.ms _ fun i hi => by unfold mf; simp only [cutd_below _ _ _ _ (show i / 5 < n by omega)]
theorem Part.start {w1 : World} (own1 : w1.ownsRow w.heap.size 27 5 (.slice (some ⟨w.heap.size, 0, none⟩) n n) n (madeCells (Value.agg #[.string ⟨#[]⟩, .int .i64 0, .int .i64 0, .string ⟨#[]⟩, .string ⟨#[]⟩]).cells (n * 5)).toList) (gr1 : w.grownBy w1 none) :
    Part w w1 n w.heap.size nm l c sv tx 0 := by
  refine ⟨?_, (Below.refl _ w).grown gr1 (Nat.le_refl _) (by simp)⟩
  rw [cutd_zero, cutd_zero, cutd_zero, cutd_zero, cutd_zero]
  exact MRow.zero own1
theorem Res.below (h : Res w R M n nm l c sv tx) (hb : Below w.heap.size w wr) : Res wr R M n nm l c sv tx :=
  ⟨by rw [hb.cell (p := ⟨R, 4, none⟩) h.lt]; exact h.fld, Row.below h.ms hb (Row.lt h.ms), Nat.lt_of_lt_of_le h.lt hb.size⟩
theorem res_made {x0 x1 x2 x3 x5 : Value} (h : MRow w M n nm l c sv tx) : Res (w.alloc (.cells #[x0, x1, x2, x3, .slice (some ⟨M, 0, none⟩) n n, x5] 50)) w.heap.size M n nm l c sv tx :=
  ⟨by rw [World.cell?_alloc_new]; rfl, Row.below h ((Below.refl _ w).alloc (Nat.le_refl _) _) (Row.lt h), by simp⟩
/-- what ZZnewResolver comes to -/
def NewRes (w' : World) (e : Ending) (n : Nat) (nm : Nat → ByteArray) (l c : Nat → Int) (sv tx : Nat → ByteArray) : Prop :=
  ∃ R M, e = .returned (.pointer (some ⟨R, 0, none⟩)) ∧ Res w' R M n nm l c sv tx
set_option maxHeartbeats 3200000 in
set_option maxRecDepth 100000 in
theorem resolver10 (a0 a1 a2 a3 a4 : Option Addr) (n c0 c1 c2 c3 c4 : Nat) (nm : Nat → ByteArray) (l c : Nat → Int) (sv tx : Nat → ByteArray) (w : World) (hn : n ≤ 1048576)
    (s0 : SStr w a0 n nm) (s1 : SInt w a1 n l) (s2 : SInt w a2 n c) (s3 : SStr w a3 n sv) (s4 : SStr w a4 n tx) :
    Calls Try.prog 10 #[.slice a0 n c0, .slice a1 n c1, .slice a2 n c2, .slice a3 n c3, .slice a4 n c4] w fun e w' => NewRes w' e n nm l c sv tx ∧ Below w.heap.size w w' := by
  obtain ⟨i27, hi27, z270, z271, z272⟩ := info_parts inf27
  have S0 : Hid _ := s0
  have S1 : Hid _ := s1
  have S2 : Hid _ := s2
  have S3 : Hid _ := s3
  have S4 : Hid _ := s4
  clear s0 s1 s2 s3 s4
  go_enter Try.func10, Try.ntmps10
  go_wp2_with (first
    | (at_make; refine wpList_make_full _ rfl (.tmp 14) (.tmp 14) 24 rfl w.heap.size 27 i27 _ 5 Try.underlying24 hi27 z270 z271 _ _ _ _ n rfl rfl rfl rfl (by rw [z272]; omega) (by unfold maxLen; omega) (Nat.le_refl _) ?_))
  intro w1 own1 gr1
  have hst := Part.start (nm := nm) (l := l) (c := c) (sv := sv) (tx := tx) own1 gr1
  clear own1 gr1
  go_wp2
  go_loopw [18] (fun i wr => ∃ k : Nat, k ≤ n ∧ i = .int .i64 k ∧ Part w wr n w.heap.size nm l c sv tx k) (fun i _ => n - (intOf i).toNat)
  case atStart => exact ⟨0, Nat.zero_le _, rfl, hst⟩
  case round =>
    clear hst
    obtain ⟨k, hk, rfl, hf⟩ := hrel
    by_cases hlt : k < n
    · obtain ⟨b0, o0, rfl, e0⟩ := S0.out k hlt
      obtain ⟨b1, o1, rfl, e1⟩ := S1.out k hlt
      obtain ⟨b2, o2, rfl, e2⟩ := S2.out k hlt
      obtain ⟨b3, o3, rfl, e3⟩ := S3.out k hlt
      obtain ⟨b4, o4, rfl, e4⟩ := S4.out k hlt
      clear S0 S1 S2 S3 S4
      have d0 := (hf.nx.cell (p := ⟨b0, o0 + k, none⟩) (World.block_lt_of_cell? w _ e0)).trans e0
      have d1 := (hf.nx.cell (p := ⟨b1, o1 + k, none⟩) (World.block_lt_of_cell? w _ e1)).trans e1
      have d2 := (hf.nx.cell (p := ⟨b2, o2 + k, none⟩) (World.block_lt_of_cell? w _ e2)).trans e2
      have d3 := (hf.nx.cell (p := ⟨b3, o3 + k, none⟩) (World.block_lt_of_cell? w _ e3)).trans e3
      have d4 := (hf.nx.cell (p := ⟨b4, o4 + k, none⟩) (World.block_lt_of_cell? w _ e4)).trans e4
      clear e0 e1 e2 e3 e4
      have m0 := hf.ms.c0 k hlt
      have m1 := hf.ms.c1 k hlt
      have m2 := hf.ms.c2 k hlt
      have m3 := hf.ms.c3 k hlt
      have m4 := hf.ms.c4 k hlt
      have f0 := Row.free hf.ms (k * 5)
      have f1 := Row.free hf.ms (k * 5 + 1)
      have f2 := Row.free hf.ms (k * 5 + 2)
      have f3 := Row.free hf.ms (k * 5 + 3)
      have f4 := Row.free hf.ms (k * 5 + 4)
      have hkn : (k : Int) < (n : Int) := by omega
      have hst := (hf.step hlt (Nat.le_refl _)).drew
      go_wp2
      go_region
      go_wp2
      go_roundw
      case rel => exact ⟨k + 1, by omega, by go_num, hst⟩
      case measure => simp [intOf]; omega
    · obtain rfl : n = k := by omega
      have hms := hf.all
      have hnx := hf.nx
      clear hf S0 S1 S2 S3 S4
      have hfin := res_made (x0 := .nilIface) (x1 := .string ⟨#[]⟩) (x2 := .string ⟨#[]⟩) (x3 := .slice none 0 0) (x5 := .nilIface) hms
      go_wp2
      go_ret
      exact ⟨⟨_, _, rfl, hfin⟩, hnx.alloc hnx.size _⟩
end Go.Proofs.Qxb6616171a
