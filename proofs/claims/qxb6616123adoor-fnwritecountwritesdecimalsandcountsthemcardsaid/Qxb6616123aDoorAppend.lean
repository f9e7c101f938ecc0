/-
  SEAT b6616123aD: strconv.AppendInt AT BASE 10 ONTO A ROW IN AN ARRAY WITH ROOM FOR IT (turned from the guide's Derived/Shelf/Strconv/{AppendUint10, AppendInt10, AppendIntPublic10}.lean, which speak of a row that a make or an append has laid).
-/
import Derived.Test.Qxb6616123aDoorLaws
import Derived.Test.Qxb6616123aDoorShelf
import Derived.Lib.Walk
import Derived.Lib.ItoaWalk
import Derived.Lib.ItoaMem
import Derived.Lib.ItoaLen
import Derived.Lib.AppendIntMem
import Derived.Lib.Slices
import Derived.Lib.Hide
import Derived.OwnWalk
import Derived.WalkKit
import Derived.BigCall
import Derived.BigGuard
namespace Go.Proofs.Qxb6616123aDoor
open Go.RowKit Go.Sort Go.Lib
theorem info5 : (Tryd.prog.info? 5).map (fun i => (i.zero, i.size, i.bytes)) = some (some (.int .u8 0), 1, 1) := by kernel_rfl
/-- the table, whatever is done from block B on -/
def PowBelow (B : Nat) (w : World) : Prop := ∀ w', Below B w w' → PowTab w'
theorem PowBelow.here {B : Nat} {w : World} (h : PowBelow B w) : PowTab w := h w (Below.refl _ _)
theorem PowBelow.on {B : Nat} {w w1 : World} (h : PowBelow B w) (hb : Below B w w1) : PowBelow B w1 := fun w' h' => h w' (hb.trans h')
theorem PowBelow.up {B B' : Nat} {w : World} (h : PowBelow B w) (hB : B ≤ B') : PowBelow B' w := fun w' h' => h w' (h'.mono hB)
/-- the slice over the array's first n bytes -/
abbrev arr (g n : Nat) : Value := .slice (some ⟨g, 0, none⟩) n 20

set_option maxHeartbeats 6400000 in
set_option maxRecDepth 100000 in
theorem appendUint_small (B g n u : Nat) (hu : u < 100) (xs : List Value) (w : World) (hown : w.ownsRow B 40 1 (arr g n) n xs) (hBw : B ≤ w.heap.size) (hroom : n + (Lib.decDigits u).length ≤ 20) :
    Calls Tryd.prog 17 #[arr g n, .int .u64 u, .int .i64 10] w fun e w' => e = .returned (arr g (n + (Lib.decDigits u).length)) ∧ w'.ownsRow B 40 1 (arr g (n + (Lib.decDigits u).length)) (n + (Lib.decDigits u).length) (xs ++ Lib.byteCells (Lib.decDigits u)) ∧ Below B w w' := by
  obtain ⟨i0, hi, hz0, hz1, hz2⟩ := info_parts info5
  have hsz : (⟨(Lib.decDigits u).toArray⟩ : ByteArray).size = (Lib.decDigits u).length := by simp [ByteArray.size]
  have hsrc := Src.ofString (P := Tryd.prog) w Tryd.underlying9 ⟨(Lib.decDigits u).toArray⟩
  rw [hsz] at hsrc
  go_enter Tryd.func17, Tryd.ntmps17
  go_wp2_with (first
    | (go_at_call 18; refine (small18 u hu _).mono ?_; rintro e w' ⟨rfl, rfl⟩)
    | (at_builtin; refine wpList_append_fits_tag _ rfl _ _ 27 9 rfl B 5 40 i0 1 Tryd.underlying27 hi hz1 g n 20 xs rfl hown _ _ _ rfl hsrc hroom ?_))
  intro w1 hown' hgrow
  go_wp2
  go_ret
  exact ⟨rfl, hown', (Below.refl B _).grown hgrow hBw (fun k hk => by cases hk; exact (hown.lt g rfl).1)⟩

set_option maxHeartbeats 12800000 in
set_option maxRecDepth 100000 in
theorem appendUint_big (B g n u : Nat) (hu : 100 ≤ u) (hu64 : u < 18446744073709551616) (xs : List Value) (w : World) (hown : w.ownsRow B 40 1 (arr g n) n xs) (hBw : B ≤ w.heap.size) (hroom : n + (Lib.decDigits u).length ≤ 20) (htab : PowTab w) :
    Calls Tryd.prog 17 #[arr g n, .int .u64 u, .int .i64 10] w fun e w' => e = .returned (arr g (n + (Lib.decDigits u).length)) ∧ w'.ownsRow B 40 1 (arr g (n + (Lib.decDigits u).length)) (n + (Lib.decDigits u).length) (xs ++ Lib.byteCells (Lib.decDigits u)) ∧ Below B w w' := by
  obtain ⟨i0, hi, hz0, hz1, hz2⟩ := info_parts info5
  have hu1 : 1 ≤ u := by omega
  have hnd20 : Lib.nDigits u ≤ 20 := Lib.nDigits_le20 u hu64
  rw [Lib.decDigits_length] at hroom ⊢
  have hal : Tryd.prog.arrayLen 38 = 24 := by simp [Program.arrayLen, Tryd.underlying38]
  -- 'a[:nd]', for the walk to take
  have hsl : ∀ W, (Instr.sliceAt 38 (.pointer (some ⟨w.heap.size, 0, none⟩)) none (some (.int .i64 (Lib.nDigits u : Int))) none).run Tryd.prog W = .ok (.slice (some ⟨w.heap.size, 0, none⟩) (Lib.nDigits u) 24) W := fun W => by
    rw [run_sliceAt_array_h W 38 ⟨w.heap.size, 0, none⟩ (by simp [Program.arrayLen, Program.elem, Tryd.underlying38]) .i64 (Lib.nDigits u : Int) (by omega) (by rw [hal]; omega)]
    go_simp
  -- formatBase10's contract at the new block's row of zeros
  have hH0 := Lib.holds_zero0 w 38 (Lib.nDigits u) (by omega)
  have hfmt := formatBase20 w.heap.size 0 24 u (Array.replicate (Lib.nDigits u) 0) (w.alloc (.cells Lib.zeros24 38)) hH0 (by rw [Array.size_replicate]; exact Lib.lt_pow_nDigits u) hu64 (by rw [Array.size_replicate]; omega)
  rw [Array.size_replicate] at hfmt
  have HH0 := Lib.hid hH0
  have htab1 : PowTab (w.alloc (.cells Lib.zeros24 38)) := Lib.tabIs_alloc htab _
  have iu : (100 : Int) ≤ (u : Int) := by omega
  clear hH0 hal
  go_enter Tryd.func17, Tryd.ntmps17
  go_wp2_with (first
    | (go_at_call 19; refine (numDigits19 u hu1 hu64 _ htab1).mono ?_; rintro e w' ⟨rfl, rfl⟩))
  go_at_call 20
  refine hfmt.mono ?_
  rintro e w' ⟨rfl, k, v', dk, rfl, hF⟩
  -- THE WORLD THAT formatBase10 LEAVES: the old one, draws, new blocks: dst IS OWNED AS BEFORE; the array's first nd cells are the numeral
  have hcells : ∀ j u', (Lib.byteCells (Lib.decDigits u))[j]? = some u' → ((putRow (fun (b : UInt8) => Value.int .u8 (b.toNat : Int)) (w.alloc (.cells Lib.zeros24 38)) w.heap.size 0 dk).drewN k).cell? ((⟨w.heap.size, 0, none⟩ : Addr).add j) = some u' := by
    intro j u' hj
    have hjl : j < (Lib.decDigits u).length := by
      have h5 := (List.getElem?_eq_some_iff.1 hj).1
      rwa [Lib.byteCells_length] at h5
    have e5 : (Lib.byteCells (Lib.decDigits u))[j]? = some (Value.int .u8 ((Lib.decDigits u)[j].toNat : Int)) := by simp [Lib.byteCells, hjl]
    rw [e5] at hj
    cases hj
    rw [Lib.row_is_numeral hF j hjl, Lib.add_plain, World.cell?_drewN]
    exact cell?_putRow (fun (b : UInt8) => Value.int .u8 (b.toNat : Int)) _ w.heap.size 0 _ dk HH0.out (by rw [hF.size, Array.size_replicate]) j (by rw [hF.size]; rw [Lib.decDigits_length] at hjl; exact hjl)
  obtain ⟨os, eo⟩ := Lib.fin_at w (.cells Lib.zeros24 38) dk k 0
  have hown2 : ((putRow (fun (b : UInt8) => Value.int .u8 (b.toNat : Int)) (w.alloc (.cells Lib.zeros24 38)) w.heap.size 0 dk).drewN k).ownsRow B 40 1 (arr g n) n xs := by rw [eo]; exact Lib.ownsRow_grow hown k os
  have hnx2 : Below B w ((putRow (fun (b : UInt8) => Value.int .u8 (b.toNat : Int)) (w.alloc (.cells Lib.zeros24 38)) w.heap.size 0 dk).drewN k) := by rw [eo]; exact Lib.below_grow B w hBw k os
  have hsz2 : w.heap.size ≤ ((putRow (fun (b : UInt8) => Value.int .u8 (b.toNat : Int)) (w.alloc (.cells Lib.zeros24 38)) w.heap.size 0 dk).drewN k).heap.size := by rw [eo]; exact Lib.size_grow w k os
  generalize (putRow (fun (b : UInt8) => Value.int .u8 (b.toNat : Int)) (w.alloc (.cells Lib.zeros24 38)) w.heap.size 0 dk).drewN k = W2 at hcells hown2 hnx2 hsz2 ⊢
  clear eo HH0 hfmt
  have hsrc := Src.ofSlice (P := Tryd.prog) (size := 1) W2 Tryd.underlying27 ⟨w.heap.size, 0, none⟩ (Lib.nDigits u) 24 (Lib.byteCells (Lib.decDigits u)) (by rw [Lib.byteCells_length, Lib.decDigits_length, Nat.mul_one]) hcells (by intro u' hu'; simp only [Lib.byteCells, List.mem_map] at hu'; obtain ⟨b, _, rfl⟩ := hu'; rfl)
  have HS := Lib.hid hsrc
  clear hsrc
  go_wp2_with (at_builtin; refine wpList_append_fits_tag _ rfl _ _ 27 27 rfl B 5 40 i0 1 Tryd.underlying27 hi hz1 g n 20 xs rfl hown2 _ _ _ rfl HS.out hroom ?_)
  intro w3 hown' hgrow
  go_wp2
  go_ret
  exact ⟨rfl, hown', hnx2.grown hgrow (by omega) (fun k hk => by cases hk; exact (hown2.lt g rfl).1)⟩

theorem appendUint (B g n u : Nat) (hu64 : u < 18446744073709551616) (xs : List Value) (w : World) (hown : w.ownsRow B 40 1 (arr g n) n xs) (hBw : B ≤ w.heap.size) (hroom : n + (Lib.decDigits u).length ≤ 20) (htab : PowTab w) :
    Calls Tryd.prog 17 #[arr g n, .int .u64 u, .int .i64 10] w fun e w' => e = .returned (arr g (n + (Lib.decDigits u).length)) ∧ w'.ownsRow B 40 1 (arr g (n + (Lib.decDigits u).length)) (n + (Lib.decDigits u).length) (xs ++ Lib.byteCells (Lib.decDigits u)) ∧ Below B w w' := by
  by_cases h : u < 100
  · exact appendUint_small B g n u h xs w hown hBw hroom
  · exact appendUint_big B g n u (by omega) hu64 xs w hown hBw hroom htab

/-- an int64's numeral takes at most 20 bytes -/
theorem itoa_le20 (i : Int) (h0 : -9223372036854775808 ≤ i) (h1 : i ≤ 9223372036854775807) : (Lib.itoa i).length ≤ 20 := by
  have key : ∀ u : Nat, u < 10000000000000000000 → Lib.nDigits u ≤ 19 := by
    intro u hu
    rcases Nat.lt_or_ge 19 (Lib.nDigits u) with h | h
    · exfalso
      have h20 : Lib.nDigits u ≤ 20 := Lib.nDigits_le20 u (by omega)
      have e : Lib.nDigits u = 20 := by omega
      have hb : 10 ^ 19 ≤ u := by
        by_cases hk : 10 ^ 19 ≤ u
        · exact hk
        · exfalso
          have : ∀ k u : Nat, u < 10 ^ (k + 1) → Lib.nDigits u ≤ k + 1 := by
            intro k
            induction k with
            | zero => intro u hu; rw [Lib.nDigits_small (by simpa using hu)]; omega
            | succ k ih =>
              intro u hu
              by_cases hs : u < 10
              · rw [Lib.nDigits_small hs]; omega
              · rw [Lib.nDigits_big hs]
                have := ih (u / 10) (by rw [Nat.pow_succ] at hu; omega)
                omega
          have := this 18 u (by omega)
          omega
      omega
    · exact h
  unfold Lib.itoa
  split
  · rw [List.length_cons, Lib.decDigits_length]
    have := key i.natAbs (by omega)
    omega
  · rw [Lib.decDigits_length]
    have := key i.toNat (by omega)
    omega

set_option maxHeartbeats 6400000 in
set_option maxRecDepth 100000 in
theorem appendInt15 (B g : Nat) (i : Int) (h0 : -9223372036854775808 ≤ i) (h1 : i ≤ 9223372036854775807) (w : World) (hown : w.ownsRow B 40 1 (arr g 0) 0 []) (hBw : B ≤ w.heap.size) (htab : PowBelow B w) :
    Calls Tryd.prog 15 #[arr g 0, .int .i64 i, .int .i64 10] w fun e w' => e = .returned (arr g (Lib.itoa i).length) ∧ w'.ownsRow B 40 1 (arr g (Lib.itoa i).length) (Lib.itoa i).length (Lib.byteCells (Lib.itoa i)) ∧ Below B w w' := by
  obtain ⟨i0, hi, hz0, hz1, hz2⟩ := info_parts info5
  have h20 := itoa_le20 i h0 h1
  by_cases hneg : i < 0
  · obtain ⟨u, rfl⟩ : ∃ u : Nat, i = -(u : Int) := ⟨i.natAbs, by omega⟩
    have hu1 : 1 ≤ u := by omega
    have hu64 : u < 18446744073709551616 := by omega
    have hwr : IntKind.u64.wrap (-IntKind.u64.wrap (-(u : Int))) = (u : Int) := by rw [IntKind.wrap_u64, IntKind.wrap_u64]; omega
    rw [Lib.itoa_neg u hu1] at h20 ⊢
    have hsrc := Src.ofSlice (P := Tryd.prog) (size := 1) (w.alloc (.cells #[.int .u8 45] 5)) Tryd.underlying27 ⟨w.heap.size, 0, none⟩ 1 1 [Value.int .u8 45] rfl (by intro j u' hj; match j, hj with | 0, hj => simp at hj; subst hj; simp [Addr.add]) (by intro u' hu'; simp at hu'; subst hu'; rfl)
    have HS := Lib.hid hsrc
    clear hsrc
    simp only [List.length_cons] at h20 ⊢
    go_enter Tryd.func15, Tryd.ntmps15
    go_wp2_with (at_builtin; refine wpList_append_fits_tag _ rfl _ _ 27 27 rfl B 5 40 i0 1 Tryd.underlying27 hi hz1 g 0 20 [] rfl (hown.alloc _) _ _ _ rfl HS.out (by omega) ?_)
    intro w1 hown1 hgrow
    have hnx1 : Below B w w1 := ((Below.refl B w).alloc hBw _).grown hgrow (by simp; omega) (fun k hk => by cases hk; exact (hown.lt g rfl).1)
    have htab1 : PowTab w1 := htab w1 hnx1
    go_wp2_with (go_at_call 17; refine (appendUint B g 1 u hu64 _ w1 hown1 (by have := hnx1.size; omega) (by omega) htab1).mono ?_; rintro e w2 ⟨rfl, hown2, hnx2⟩)
    go_wp2
    go_ret
    have e1 : 1 + (Lib.decDigits u).length = (Lib.decDigits u).length + 1 := by omega
    rw [e1] at hown2
    refine ⟨by rw [e1]; rfl, ?_, hnx1.trans hnx2⟩
    have e2 : Lib.byteCells (45 :: Lib.decDigits u) = ([] ++ [Value.int .u8 45]) ++ Lib.byteCells (Lib.decDigits u) := by simp [Lib.byteCells]
    rw [e2]
    exact hown2
  · obtain ⟨u, rfl⟩ : ∃ u : Nat, i = u := ⟨i.toNat, by omega⟩
    have hu64 : u < 18446744073709551616 := by omega
    rw [Lib.itoa_nonneg] at h20 ⊢
    go_enter Tryd.func15, Tryd.ntmps15
    go_wp2_with (go_at_call 17; refine (appendUint B g 0 u hu64 [] w hown hBw (by omega) htab.here).mono ?_; rintro e w2 ⟨rfl, hown2, hnx2⟩)
    go_wp2
    go_ret
    simp only [Nat.zero_add, List.nil_append] at hown2 ⊢
    exact ⟨rfl, hown2, hnx2⟩

set_option maxRecDepth 100000 in
theorem appendInt13 (B g : Nat) (i : Int) (h0 : -9223372036854775808 ≤ i) (h1 : i ≤ 9223372036854775807) (w : World) (hown : w.ownsRow B 40 1 (arr g 0) 0 []) (hBw : B ≤ w.heap.size) (htab : PowBelow B w) :
    Calls Tryd.prog 13 #[arr g 0, .int .i64 i, .int .i64 10] w fun e w' => e = .returned (arr g (Lib.itoa i).length) ∧ w'.ownsRow B 40 1 (arr g (Lib.itoa i).length) (Lib.itoa i).length (Lib.byteCells (Lib.itoa i)) ∧ Below B w w' := by
  go_enter Tryd.func13, Tryd.ntmps13
  go_wp2_with (go_at_call 15; refine (appendInt15 B g i h0 h1 w hown hBw htab).mono ?_; rintro e w2 ⟨rfl, hown2, hnx2⟩)
  go_wp2
  go_ret
  exact ⟨rfl, hown2, hnx2⟩
end Go.Proofs.Qxb6616123aDoor
