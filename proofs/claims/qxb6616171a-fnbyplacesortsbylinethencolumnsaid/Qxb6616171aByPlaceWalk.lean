/-
  SEAT b6616171a: THE WALK OF FnByPlaceSortsByLineThenColumn (function 3).
-/
import Derived.Test.Qxb6616171aSort
import Derived.LoopTactic
namespace Go.Proofs.Qxb6616171a
open Go.RowKit
theorem info3 : (Try.prog.info? 3).map (fun i => (i.zero, i.size, i.bytes)) = some (some (.int .i64 0), 1, 8) := by kernel_rfl
theorem info27 : (Try.prog.info? 27).map (fun i => (i.zero, i.size, i.bytes)) = some (some (.agg #[.string ⟨#[]⟩, .int .i64 0, .int .i64 0, .string ⟨#[]⟩, .string ⟨#[]⟩]), 5, 64) := by kernel_rfl
/-- f below k, nought from k on -/
def cut (f : Nat → Int) (k : Nat) : Nat → Int := fun t => if t < k then f t else 0
theorem cut_zero (f : Nat → Int) : cut f 0 = fun _ => 0 := by funext t; simp [cut]
theorem cut_succ (f : Nat → Int) (k : Nat) : upd (cut f k) k (f k) = cut f (k + 1) := by
  funext t
  unfold upd cut
  by_cases e : t = k
  · subst e; simp
  · rw [if_neg e]
    by_cases h : t < k
    · rw [if_pos h, if_pos (by omega)]
    · rw [if_neg h, if_neg (by omega)]
theorem cut_below (f : Nat → Int) (k t : Nat) (h : t < k) : cut f k t = f t := by unfold cut; rw [if_pos h]
theorem upd_const {α : Type} (v : α) (k : Nat) : upd (fun _ => v) k v = fun _ => v := by funext t; simp [upd]
/-- memory while the messages are laid: k of them stand -/
structure Fill (w wr : World) (n M P : Nat) (L C : Nat → Int) (k : Nat) : Prop where
  ms : MRow wr M n (fun _ => ⟨#[]⟩) (cut L k) (cut C k) (fun _ => ⟨#[]⟩) (fun _ => ⟨#[]⟩)
  ps : Row wr P (fun t => .int .i64 (cut (fun t => (t : Int)) k t)) n
  nx : Below w.heap.size w wr
/-- memory while the indices are sorted -/
structure Mem (w wr : World) (n M P : Nat) (L C : Nat → Int) (p : Nat → Nat) : Prop where
  ms : MRow wr M n (fun _ => ⟨#[]⟩) L C (fun _ => ⟨#[]⟩) (fun _ => ⟨#[]⟩)
  ps : Row wr P (fun t => .int .i64 (p t)) n
  nx : Below w.heap.size w wr
variable {w wr wr' : World} {n M P : Nat} {L C : Nat → Int} {p : Nat → Nat}
theorem Fill.drew {k : Nat} (h : Fill w wr n M P L C k) : Fill w wr.drew n M P L C k := ⟨h.ms, h.ps, h.nx.drew⟩
theorem Fill.step {k : Nat} (h : Fill w wr n M P L C k) (hk : k < n) (hM : w.heap.size ≤ M) (hMP : M < P) :
    Fill w ((((((wr.setCell ⟨M, k * 5, none⟩ (.string ⟨#[]⟩)).setCell ⟨M, k * 5 + 1, none⟩ (.int .i64 (L k))).setCell ⟨M, k * 5 + 2, none⟩ (.int .i64 (C k))).setCell ⟨M, k * 5 + 3, none⟩ (.string ⟨#[]⟩)).setCell ⟨M, k * 5 + 4, none⟩ (.string ⟨#[]⟩)).setCell ⟨P, k, none⟩ (.int .i64 k)) n M P L C (k + 1) := by
  have hm := h.ms.store k hk ⟨#[]⟩ (L k) (C k) ⟨#[]⟩ ⟨#[]⟩
  rw [cut_succ, cut_succ, upd_const] at hm
  have hne : P ≠ M := by omega
  have hp := (((((h.ps.other ⟨M, k * 5, none⟩ (.string ⟨#[]⟩) hne).other ⟨M, k * 5 + 1, none⟩ (.int .i64 (L k)) hne).other ⟨M, k * 5 + 2, none⟩ (.int .i64 (C k)) hne).other ⟨M, k * 5 + 3, none⟩ (.string ⟨#[]⟩) hne).other ⟨M, k * 5 + 4, none⟩ (.string ⟨#[]⟩) hne).set k (.int .i64 k) hk
  refine ⟨Row.other hm _ _ (by simp; omega), hp.congr _ fun t ht => ?_, (((((h.nx.setCell hM _).setCell hM _).setCell hM _).setCell hM _).setCell hM _).setCell (by simp; omega) _⟩
  rw [← cut_succ]
  unfold upd
  by_cases e : t = k
  · simp [e]
  · simp [e]
theorem Fill.mem (h : Fill w wr n M P L C n) : Mem w wr n M P L C (fun t => t) :=
  ⟨Row.congr h.ms _ fun i hi => by unfold mf; simp only [cut_below _ _ _ (show i / 5 < n by omega)], h.ps.congr _ fun t ht => by rw [cut_below _ _ _ ht], h.nx⟩
theorem Mem.drew (h : Mem w wr n M P L C p) : Mem w wr.drew n M P L C p := ⟨h.ms, h.ps, h.nx.drew⟩
theorem Mem.drewN (h : Mem w wr n M P L C p) (k : Nat) : Mem w (wr.drewN k) n M P L C p := ⟨h.ms, h.ps, ⟨h.nx.os, h.nx.tape, h.nx.output, h.nx.size, h.nx.block⟩⟩
theorem Mem.below (h : Mem w wr n M P L C p) (hb : Below wr.heap.size wr wr') : Mem w wr' n M P L C p :=
  ⟨Row.below h.ms hb (Row.lt h.ms), h.ps.below hb h.ps.lt, h.nx.trans (hb.mono h.nx.size)⟩
theorem Mem.swap {j : Nat} (h : Mem w wr n M P L C p) (hj : j + 1 < n) (hM : w.heap.size ≤ M) (hMP : M < P) :
    Mem w ((wr.setCell ⟨P, j, none⟩ (.int .i64 (p (j + 1)))).setCell ⟨P, j + 1, none⟩ (.int .i64 (p j))) n M P L C (swp p j) := by
  have hne : M ≠ P := by omega
  refine ⟨Row.other (Row.other h.ms _ _ hne) _ _ hne, ((h.ps.set j _ (by omega)).set (j + 1) _ hj).congr _ fun t ht => ?_, (h.nx.setCell (by simp; omega) _).setCell (by simp; omega) _⟩
  unfold swp upd
  by_cases e1 : t = j + 1
  · simp [e1]
  · by_cases e2 : t = j
    · simp [e2]
    · simp [e1, e2]
theorem Fill.start {w1 w2 : World} (own1 : w1.ownsRow w.heap.size 27 5 (.slice (some ⟨w.heap.size, 0, none⟩) n n) n (madeCells (Value.agg #[.string ⟨#[]⟩, .int .i64 0, .int .i64 0, .string ⟨#[]⟩, .string ⟨#[]⟩]).cells (n * 5)).toList) (gr1 : w.grownBy w1 none)
    (own2 : w2.ownsRow w1.heap.size 3 1 (.slice (some ⟨w1.heap.size, 0, none⟩) n n) n (madeCells #[.int .i64 0] n).toList) (gr2 : w1.grownBy w2 none) : Fill w w2 n w.heap.size w1.heap.size L C 0 ∧ w.heap.size < w1.heap.size := by
  have hM : w.heap.size < w1.heap.size := (own1.lt _ rfl).2
  refine ⟨⟨?_, ?_, ((Below.refl _ w).grown gr1 (Nat.le_refl _) (by simp)).grown gr2 (by omega) (by simp)⟩, hM⟩
  · rw [cut_zero, cut_zero]
    exact Row.grown (MRow.zero own1) gr2 (by simp)
  · rw [cut_zero]
    exact Row.made1 own2
theorem bcell {W w1 : World} (hb : Below W.heap.size W w1) : (∀ b o, b < W.heap.size → w1.cell? ⟨b, o, none⟩ = W.cell? ⟨b, o, none⟩) ∧ (∀ b o, b < W.heap.size → w1.frozen? ⟨b, o, none⟩ = W.frozen? ⟨b, o, none⟩) :=
  ⟨fun b o h => hb.cell (p := ⟨b, o, none⟩) h, fun b o h => hb.frozen (p := ⟨b, o, none⟩) h⟩
set_option maxHeartbeats 400000 in
theorem bytes6_yes (a0 a1 : Option Addr) (l0 c0 l1 c1 : Nat) (w : World) (h : l0 + l1 ≤ 1048576) :
    Calls Try.prog 6 #[.slice a0 l0 c0, .slice a1 l1 c1] w fun e w' => e = .returned (.bool true) ∧ w' = w := by
  go_enter Try.func6, Try.ntmps6
  go_wp2
  go_ret
  exact ⟨rfl, rfl⟩
set_option maxHeartbeats 3200000 in
set_option maxRecDepth 100000 in
theorem walk_main (b0 o0 c0 b1 o1 c1 n : Nat) (L C : Nat → Int) (w : World) (hn : n ≤ 65536) (hn0 : 0 < n)
    (hL : ∀ t, t < n → w.cell? ⟨b0, o0 + t, none⟩ = some (.int .i64 (L t))) (hC : ∀ t, t < n → w.cell? ⟨b1, o1 + t, none⟩ = some (.int .i64 (C t))) (hb0 : b0 < w.heap.size) (hb1 : b1 < w.heap.size) :
    Calls Try.prog 3 #[.slice (some ⟨b0, o0, none⟩) n c0, .slice (some ⟨b1, o1, none⟩) n c1] w fun e w' => e = .returned (.bool true) ∧ Below w.heap.size w w' := by
  obtain ⟨i3, hi3, z30, z31, z32⟩ := info_parts info3
  obtain ⟨i27, hi27, z270, z271, z272⟩ := info_parts info27
  go_enter Try.func3, Try.ntmps3
  go_wp2_with fail
  refine (bytes6_yes _ _ _ _ _ _ _ (by omega)).mono ?_
  rintro e w' ⟨rfl, rfl⟩
  go_wp2_with (first
    | (at_make; refine wpList_make_full _ rfl (.tmp 37) (.tmp 37) 24 rfl w'.heap.size 27 i27 _ 5 Try.underlying24 hi27 z270 z271 _ _ _ _ n rfl rfl rfl rfl (by rw [z272]; omega) (by unfold maxLen; omega) (Nat.le_refl _) ?_))
  intro w1 own1 gr1
  go_wp2_with (first
    | (at_make; refine wpList_make_full _ rfl (.tmp 39) (.tmp 39) 22 rfl w1.heap.size 3 i3 _ 1 Try.underlying22 hi3 z30 z31 _ _ _ _ n rfl rfl rfl rfl (by rw [z32]; omega) (by unfold maxLen; omega) (Nat.le_refl _) ?_))
  intro w2 own2 gr2
  obtain ⟨hfill, hMP⟩ := Fill.start (L := L) (C := C) own1 gr1 own2 gr2
  clear own1 own2 gr1 gr2
  generalize w1.heap.size = P at hfill hMP ⊢
  go_wp2
  go_loopw [8] (fun i wr => ∃ k : Nat, k ≤ n ∧ i = .int .i64 k ∧ Fill w' wr n w'.heap.size P L C k) (fun i _ => n - (intOf i).toNat)
  case atStart => exact ⟨0, Nat.zero_le _, rfl, hfill⟩
  case round =>
    obtain ⟨k, hk, rfl, hf⟩ := hrel
    by_cases hlt : k < n
    · have hl : wr.cell? ⟨b0, o0 + k, none⟩ = some (.int .i64 (L k)) := (hf.nx.cell (by exact hb0)).trans (hL k hlt)
      have hc : wr.cell? ⟨b1, o1 + k, none⟩ = some (.int .i64 (C k)) := (hf.nx.cell (by exact hb1)).trans (hC k hlt)
      have m0 := hf.ms.c0 k hlt
      have m1 := hf.ms.c1 k hlt
      have m2 := hf.ms.c2 k hlt
      have m3 := hf.ms.c3 k hlt
      have m4 := hf.ms.c4 k hlt
      have f0 := Row.free hf.ms (k * 5)
      have f1 := Row.free hf.ms (k * 5 + 1)
      have f2 := Row.free hf.ms (k * 5 + 2)
      have f3 := Row.free hf.ms (k * 5 + 3)
      have f4 := Row.free hf.ms (k * 5 + 4)
      have q0 := hf.ps.cell k hlt
      have q1 := hf.ps.free k
      have hkn : (k : Int) < (n : Int) := by omega
      have hst := (hf.step hlt (Nat.le_refl _) hMP).drew
      go_wp2
      go_region
      go_wp2
      go_roundw
      case rel => exact ⟨k + 1, by omega, by go_num, hst⟩
      case measure => simp [intOf]; omega
    · obtain rfl : n = k := by omega
      have hmem := hf.mem
      clear hfill hf
      go_wp2
      go_loopw [9] (fun i wr => ∃ k : Nat, 1 ≤ k ∧ k ≤ n ∧ i = .int .i64 k ∧ ∃ p, Mem w' wr n w'.heap.size P L C p ∧ Out L C n k p) (fun i _ => n - (intOf i).toNat)
      case atStart => exact ⟨1, Nat.le_refl _, by omega, rfl, _, hmem, Out.start (fun _ _ => rfl) hn0⟩
      case round =>
        obtain ⟨k, hk1, hk, rfl, p, hmem, hout⟩ := hrel
        by_cases hlt : k < n
        · go_wp2
          go_loopw [10] (fun j wr => ∃ m : Nat, m ≤ k ∧ j = .int .i64 m ∧ ∃ p, Mem w' wr n w'.heap.size P L C p ∧ Inn L C n k m p) (fun j _ => (intOf j).toNat)
          case atStart => exact ⟨k, Nat.le_refl _, rfl, p, hmem, hout.inn hlt⟩
          case round =>
            obtain ⟨m, hm, rfl, p, hmem, hinn⟩ := hrel
            by_cases hm0 : 0 < m
            · obtain ⟨j, hj⟩ : ∃ j, m = j + 1 := ⟨m - 1, by omega⟩
              have hmn : m < n := by omega
              have hjn : j < n := by omega
              have hwj : IntKind.i64.wrap ((m : Int) - 1) = (j : Int) := by rw [IntKind.wrap_i64]; omega
              obtain ⟨x, hx⟩ : ∃ x, p j = x := ⟨_, rfl⟩
              obtain ⟨y, hy⟩ : ∃ y, p m = y := ⟨_, rfl⟩
              have hxn : x < n := hx ▸ hinn.rng j hjn
              have hyn : y < n := hy ▸ hinn.rng m hmn
              have e0 : wr.cell? ⟨P, j, none⟩ = some (.int .i64 (x : Int)) := hx ▸ hmem.ps.cell j hjn
              have e1 : wr.cell? ⟨P, m, none⟩ = some (.int .i64 (y : Int)) := hy ▸ hmem.ps.cell m hmn
              have a0 := hmem.ms.c0 _ hxn
              have a1 := hmem.ms.c1 _ hxn
              have a2 := hmem.ms.c2 _ hxn
              have a3 := hmem.ms.c3 _ hxn
              have a4 := hmem.ms.c4 _ hxn
              have d0 := hmem.ms.c0 _ hyn
              have d1 := hmem.ms.c1 _ hyn
              have d2 := hmem.ms.c2 _ hyn
              have d3 := hmem.ms.c3 _ hyn
              have d4 := hmem.ms.c4 _ hyn
              have hMs : w'.heap.size < wr.heap.size := Row.lt hmem.ms
              have hPs : P < wr.heap.size := Row.lt hmem.ps
              have HJ : Hid _ := hj
              have HX : Hid _ := hx
              have HY : Hid _ := hy
              clear hj hx hy
              have hm0' : (0 : Int) < (m : Int) := by omega
              have ij0 : (0 : Int) ≤ (j : Int) := by omega
              have im0 : (0 : Int) ≤ (m : Int) := by omega
              have ix0 : (0 : Int) ≤ (x : Int) := by omega
              have iy0 : (0 : Int) ≤ (y : Int) := by omega
              have ij : (j : Int) < (n : Int) := by omega
              have im : (m : Int) < (n : Int) := by omega
              have ix : (x : Int) < (n : Int) := by omega
              have iy : (y : Int) < (n : Int) := by omega
              go_wp2
              go_region_held3 (fun u => u.cell? ⟨P, j, none⟩ = some (.int .i64 (x : Int)) ∧ u.cell? ⟨P, m, none⟩ = some (.int .i64 (y : Int)) ∧
                    u.cell? ⟨w'.heap.size, x * 5, none⟩ = some (.string ⟨#[]⟩) ∧ u.cell? ⟨w'.heap.size, x * 5 + 1, none⟩ = some (.int .i64 (L x)) ∧ u.cell? ⟨w'.heap.size, x * 5 + 2, none⟩ = some (.int .i64 (C x)) ∧ u.cell? ⟨w'.heap.size, x * 5 + 3, none⟩ = some (.string ⟨#[]⟩) ∧ u.cell? ⟨w'.heap.size, x * 5 + 4, none⟩ = some (.string ⟨#[]⟩) ∧
                    u.cell? ⟨w'.heap.size, y * 5, none⟩ = some (.string ⟨#[]⟩) ∧ u.cell? ⟨w'.heap.size, y * 5 + 1, none⟩ = some (.int .i64 (L y)) ∧ u.cell? ⟨w'.heap.size, y * 5 + 2, none⟩ = some (.int .i64 (C y)) ∧ u.cell? ⟨w'.heap.size, y * 5 + 3, none⟩ = some (.string ⟨#[]⟩) ∧ u.cell? ⟨w'.heap.size, y * 5 + 4, none⟩ = some (.string ⟨#[]⟩)) (first | go_keep | (refine ⟨?_, ?_, ?_, ?_, ?_, ?_, ?_, ?_, ?_, ?_, ?_, ?_⟩ <;> first | (exact (hb3.cell (by exact hPs)).trans (by assumption)) | (exact (hb3.cell (by exact hMs)).trans (by assumption))))
                (first | (go_at_call 7; refine (byPlace7 _ _ _ _ _ _ _ _ _ _ _).mono ?_; rintro e w3 ⟨rfl, hb3⟩))
              have hmem3 := hmem.drew.below hb3
              clear e0 e1 a0 a1 a2 a3 a4 d0 d1 d2 d3 d4 hMs hPs hb3 hmem
              have hinn' : Inn L C n k (j + 1) p := HJ.out ▸ hinn
              have hjk : j + 1 ≤ k := by have := HJ.out; omega
              have hpx : p j = x := HX.out
              have hpy : p (j + 1) = y := HJ.out ▸ HY.out
              by_cases hle : place (L x) (C x) (L y) (C y) ≤ 0
              · have hout' := hinn'.stop hjk (by rw [hpx, hpy]; exact hle)
                clear hinn' hpx hpy hinn
                go_wp2
                go_roundw
                case rel => exact ⟨k + 1, by omega, by omega, by go_num, p, hmem3, hout'⟩
                case measure => simp [intOf]; omega
              · have hin2 := hinn'.step hjk (by omega) (by rw [hpx, hpy]; exact hle)
                have hsw : Mem w' ((w3.setCell ⟨P, j, none⟩ (.int .i64 (y : Int))).setCell ⟨P, m, none⟩ (.int .i64 (x : Int))) n w'.heap.size P L C (swp p j) := by
                  have := hmem3.swap (j := j) (by omega) (Nat.le_refl _) hMP
                  rw [hpx, hpy] at this
                  rw [HJ.out]
                  exact this
                have e0 : w3.cell? ⟨P, j, none⟩ = some (.int .i64 (x : Int)) := hpx ▸ hmem3.ps.cell j hjn
                have e1 : w3.cell? ⟨P, m, none⟩ = some (.int .i64 (y : Int)) := HY.out ▸ hmem3.ps.cell m hmn
                have f0 := hmem3.ps.free j
                have f1 := hmem3.ps.free m
                have hjm : j < m := by have := HJ.out; omega
                clear hinn' hpx hpy hinn
                go_wp2
                go_roundw
                case rel => exact ⟨j, by omega, by first | rfl | go_num, swp p j, hsw, hin2⟩
                case measure => simp [intOf]; omega
            · obtain rfl : m = 0 := by omega
              have hout' := hinn.zero
              go_wp2
              go_roundw
              case rel => exact ⟨k + 1, by omega, by omega, by go_num, p, hmem, hout'⟩
              case measure => simp [intOf]; omega
        · obtain rfl : n = k := by omega
          go_wp2
          go_loopw [12] (fun i wr => ∃ k : Nat, k ≤ n ∧ i = .int .i64 k ∧ Mem w' wr n w'.heap.size P L C p) (fun i _ => n - (intOf i).toNat)
          case atStart => exact ⟨0, Nat.zero_le _, rfl, hmem⟩
          case round =>
            clear hmem
            obtain ⟨k, hk, rfl, hmem⟩ := hrel
            by_cases hlt : k + 1 < n
            · obtain ⟨x, hx⟩ : ∃ x, p k = x := ⟨_, rfl⟩
              obtain ⟨y, hy⟩ : ∃ y, p (k + 1) = y := ⟨_, rfl⟩
              have hxn : x < n := hx ▸ hout.rng k (by omega)
              have hyn : y < n := hy ▸ hout.rng (k + 1) hlt
              have hkl : Klt L C x y := hx ▸ hy ▸ hout.srt k hlt
              have e0 : wr.cell? ⟨P, k, none⟩ = some (.int .i64 (x : Int)) := hx ▸ hmem.ps.cell k (by omega)
              have e1 : wr.cell? ⟨P, k + 1, none⟩ = some (.int .i64 (y : Int)) := hy ▸ hmem.ps.cell (k + 1) hlt
              have lx : wr.cell? ⟨b0, o0 + x, none⟩ = some (.int .i64 (L x)) := (hmem.nx.cell (by exact hb0)).trans (hL x hxn)
              have ly : wr.cell? ⟨b0, o0 + y, none⟩ = some (.int .i64 (L y)) := (hmem.nx.cell (by exact hb0)).trans (hL y hyn)
              have cx : wr.cell? ⟨b1, o1 + x, none⟩ = some (.int .i64 (C x)) := (hmem.nx.cell (by exact hb1)).trans (hC x hxn)
              have cy : wr.cell? ⟨b1, o1 + y, none⟩ = some (.int .i64 (C y)) := (hmem.nx.cell (by exact hb1)).trans (hC y hyn)
              have ix : (x : Int) < (n : Int) := by omega
              have iy : (y : Int) < (n : Int) := by omega
              clear hx hy hout
              unfold Klt at hkl
              generalize L x = lx' at *
              generalize L y = ly' at *
              generalize C x = cx' at *
              generalize C y = cy' at *
              rcases hkl with h1 | ⟨rfl, h2 | ⟨rfl, h3⟩⟩
              · have t1 : decide (ly' < lx') = false := decide_eq_false (by omega)
                have t2 : (lx' == ly') = false := beq_eq_false_iff_ne.2 (by omega)
                go_wp2
                go_quiet (fail)
                go_wp2
                go_quiet (fail)
                go_wp2
                go_roundw
                case rel => exact ⟨k + 1, by omega, by go_num, hmem.drewN _⟩
                case measure => simp [intOf]; omega
              · have t1 : decide (lx' < lx') = false := decide_eq_false (by omega)
                have t2 : (lx' == lx') = true := by simp
                have t3 : decide (cy' < cx') = false := decide_eq_false (by omega)
                have t4 : (cx' == cy') = false := beq_eq_false_iff_ne.2 (by omega)
                go_wp2
                go_quiet (fail)
                go_wp2
                go_quiet (fail)
                go_wp2
                go_quiet (fail)
                go_wp2
                go_quiet (fail)
                go_wp2
                go_roundw
                case rel => exact ⟨k + 1, by omega, by go_num, hmem.drewN _⟩
                case measure => simp [intOf]; omega
              · have t1 : decide (lx' < lx') = false := decide_eq_false (by omega)
                have t2 : (lx' == lx') = true := by simp
                have t3 : decide (cx' < cx') = false := decide_eq_false (by omega)
                have t4 : (cx' == cx') = true := by simp
                have t5 : decide ((y : Int) < (x : Int)) = false := decide_eq_false (by omega)
                go_wp2
                go_quiet (fail)
                go_wp2
                go_quiet (fail)
                go_wp2
                go_quiet (fail)
                go_wp2
                go_quiet (fail)
                go_wp2
                go_roundw
                case rel => exact ⟨k + 1, by omega, by go_num, hmem.drewN _⟩
                case measure => simp [intOf]; omega
            · go_wp2
              go_ret
              exact ⟨rfl, hmem.nx⟩

set_option maxHeartbeats 400000 in
theorem bytes6_no (a0 a1 : Option Addr) (l0 c0 l1 c1 : Nat) (w : World) (h0 : l0 ≤ maxLen) (h1 : l1 ≤ maxLen) (h : 1048576 < l0 + l1) :
    Calls Try.prog 6 #[.slice a0 l0 c0, .slice a1 l1 c1] w fun e w' => e = .returned (.bool false) ∧ w' = w := by
  unfold maxLen at h0 h1
  go_enter Try.func6, Try.ntmps6
  go_wp2
  all_goals (go_ret; exact ⟨rfl, rfl⟩)
set_option maxHeartbeats 1600000 in
set_option maxRecDepth 100000 in
theorem walk_bytes (a0 a1 : Option Addr) (l0 c0 l1 c1 : Nat) (w : World) (h0 : l0 ≤ maxLen) (h1 : l1 ≤ maxLen) (h : 1048576 < l0 + l1) :
    Calls Try.prog 3 #[.slice a0 l0 c0, .slice a1 l1 c1] w fun e w' => e = .returned (.bool true) ∧ w' = w := by
  go_enter Try.func3, Try.ntmps3
  go_wp2_with fail
  refine (bytes6_no _ _ _ _ _ _ _ h0 h1 h).mono ?_
  rintro e w' ⟨rfl, rfl⟩
  go_wp2
  go_ret
  exact ⟨rfl, rfl⟩
set_option maxHeartbeats 1600000 in
set_option maxRecDepth 100000 in
theorem walk_wide (a0 a1 : Option Addr) (l0 c0 l1 c1 : Nat) (w : World) (h : l0 + l1 ≤ 1048576) (h2 : 131072 < l0 + l1) :
    Calls Try.prog 3 #[.slice a0 l0 c0, .slice a1 l1 c1] w fun e w' => e = .returned (.bool true) ∧ w' = w := by
  by_cases h3 : 131072 < l0
  · go_enter Try.func3, Try.ntmps3
    go_wp2_with fail
    refine (bytes6_yes _ _ _ _ _ _ _ h).mono ?_
    rintro e w' ⟨rfl, rfl⟩
    go_wp2
    go_ret
    exact ⟨rfl, rfl⟩
  · go_enter Try.func3, Try.ntmps3
    go_wp2_with fail
    refine (bytes6_yes _ _ _ _ _ _ _ h).mono ?_
    rintro e w' ⟨rfl, rfl⟩
    go_wp2
    go_ret
    exact ⟨rfl, rfl⟩
set_option maxHeartbeats 1600000 in
set_option maxRecDepth 100000 in
theorem walk_unlike (a0 a1 : Option Addr) (l0 c0 l1 c1 : Nat) (w : World) (h : l0 + l1 ≤ 131072) (h2 : l1 ≠ l0) :
    Calls Try.prog 3 #[.slice a0 l0 c0, .slice a1 l1 c1] w fun e w' => e = .returned (.bool true) ∧ w' = w := by
  have hb : ((l1 : Int) != (l0 : Int)) = true := by rw [bne_iff_ne]; omega
  clear h2
  go_enter Try.func3, Try.ntmps3
  go_wp2_with fail
  refine (bytes6_yes _ _ _ _ _ _ _ (by omega)).mono ?_
  rintro e w' ⟨rfl, rfl⟩
  go_wp2
  go_ret
  exact ⟨rfl, rfl⟩
set_option maxHeartbeats 1600000 in
set_option maxRecDepth 100000 in
theorem walk_none (a0 a1 : Option Addr) (c0 c1 : Nat) (w : World) :
    Calls Try.prog 3 #[.slice a0 0 c0, .slice a1 0 c1] w fun e w' => e = .returned (.bool true) ∧ Below w.heap.size w w' := by
  obtain ⟨i3, hi3, z30, z31, z32⟩ := info_parts info3
  obtain ⟨i27, hi27, z270, z271, z272⟩ := info_parts info27
  go_enter Try.func3, Try.ntmps3
  go_wp2_with fail
  refine (bytes6_yes _ _ _ _ _ _ _ (by omega)).mono ?_
  rintro e w' ⟨rfl, rfl⟩
  go_wp2_with (first
    | (at_make; refine wpList_make_full _ rfl (.tmp 37) (.tmp 37) 24 rfl w'.heap.size 27 i27 _ 5 Try.underlying24 hi27 z270 z271 _ _ _ _ 0 rfl rfl rfl rfl (by omega) (by decide) (Nat.le_refl _) ?_))
  intro w1 own1 gr1
  go_wp2_with (first
    | (at_make; refine wpList_make_full _ rfl (.tmp 39) (.tmp 39) 22 rfl w1.heap.size 3 i3 _ 1 Try.underlying22 hi3 z30 z31 _ _ _ _ 0 rfl rfl rfl rfl (by omega) (by decide) (Nat.le_refl _) ?_))
  intro w2 own2 gr2
  have hb : Below w'.heap.size w' w2 := ((Below.refl _ w').grown gr1 (Nat.le_refl _) (by simp)).grown gr2 gr1.size (by simp)
  clear own1 own2 gr1 gr2
  go_wp2
  refine wp_loop_rounds 1 ?_
  rw [rounds_succ]
  go_wp2
  refine wp_loop_rounds 1 ?_
  rw [rounds_succ]
  go_wp2
  refine wp_loop_rounds 1 ?_
  rw [rounds_succ]
  go_wp2
  go_ret
  exact ⟨rfl, hb⟩
end Go.Proofs.Qxb6616171a
