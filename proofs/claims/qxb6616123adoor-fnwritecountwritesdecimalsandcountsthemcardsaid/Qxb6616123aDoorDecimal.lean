/-
  SEAT b6616123aD: zzDecimal (function 7) WRITES THE DECIMAL NUMERAL.
-/
import Derived.Test.Qxb6616123aDoorWrite
import Derived.LoopTactic
import Derived.Laws.IdiomStrings
namespace Go.Proofs.Qxb6616123aDoor
open Go.RowKit Go.Sort Go.Lib
/-- after k digits: v is what is left of u; the last k bytes hold u's last k digits -/
structure Dig (u k v : Nat) (cur : Array Value) : Prop where
  val : v = u / 10 ^ k
  size : cur.size = 24
  done : ∀ t, t < k → cur[23 - t]? = some (.int .u8 ((dg u t).toNat : Int))
theorem dg_toNat (u t : Nat) : ((dg u t).toNat : Int) = 48 + ((u / 10 ^ t) : Nat) % 10 := by
  unfold dg
  rw [UInt8.toNat_ofNat']
  omega
theorem Dig.step {u k v j : Nat} {cur : Array Value} (h : Dig u k v cur) (hj : k + (j + 1) = 24) (z : Int) (hz : z = 48 + (v : Int) % 10) : Dig u (k + 1) (v / 10) (cur.setIfInBounds j (.int .u8 z)) := by
  refine ⟨by rw [h.val, Nat.pow_succ, Nat.div_div_eq_div_mul], by simp [h.size], fun t ht => ?_⟩
  have hs := h.size
  by_cases e : t = k
  · subst e
    rw [show 23 - t = j by omega, Array.getElem?_setIfInBounds, if_pos rfl, if_pos (by omega), dg_toNat, ← h.val, hz]
  · rw [Array.getElem?_setIfInBounds, if_neg (by omega)]
    exact h.done t (by omega)
theorem Dig.start (u : Nat) (cur : Array Value) (h : cur.size = 24) : Dig u 0 u cur := ⟨by simp, h, fun t ht => by omega⟩
theorem Dig.lt20 {u k v : Nat} {cur : Array Value} (h : Dig u k v cur) (hu : u < 18446744073709551616) (hp : k = 0 ∨ 1 ≤ v) : k < 20 := by
  rcases hp with h0 | h1
  · omega
  · have e := h.val
    rcases Nat.lt_or_ge k 20 with hk | hk
    · exact hk
    · exfalso
      have : u / 10 ^ k = 0 := by
        apply Nat.div_eq_of_lt
        have : 10 ^ 20 ≤ 10 ^ k := Nat.pow_le_pow_right (by decide) hk
        omega
      omega
theorem Dig.last {u k v : Nat} {cur : Array Value} (h : Dig u k v cur) (hp : k = 0 ∨ 1 ≤ v) (hv : v < 10) : Lib.nDigits u = k + 1 := by
  have e := h.val
  rcases hp with h0 | h1
  · subst h0
    simp at e
    rw [Lib.nDigits_small (by omega)]
  · apply Lib.nDigits_unique
    · rcases Nat.lt_or_ge u (10 ^ k) with hl | hl
      · rw [Nat.div_eq_of_lt hl] at e; omega
      · exact hl
    · rw [Nat.pow_succ]
      have hp : 0 < 10 ^ k := Nat.pow_pos (by decide)
      have := Nat.div_add_mod u (10 ^ k)
      have := Nat.mod_lt u hp
      have h9 : 10 ^ k * (u / 10 ^ k) ≤ 10 ^ k * 9 := Nat.mul_le_mul_left _ (by omega)
      omega
/-- the last bytes of the array are the numeral -/
theorem Dig.cells {u k v : Nat} {cur : Array Value} (h : Dig u k v cur) (hk24 : k ≤ 24) (hn : Lib.nDigits u = k) (t : Nat) (ht : t < (Lib.decDigits u).length) : cur[24 - k + t]? = some (.int .u8 ((Lib.decDigits u)[t].toNat : Int)) := by
  have hl : t < k := by rw [Lib.decDigits_length, hn] at ht; exact ht
  have e : (Lib.decDigits u)[t] = dg u (k - 1 - t) := by simp only [Lib.decDigits_eq u, List.getElem_map, List.getElem_range, hn]
  have hs := h.done (k - 1 - t) (by omega)
  rw [e, ← hs]
  congr 1
  omega

theorem old_cell {W : World} {g j : Nat} {cur : Array Value} {t : TypeId} (hb : W.heap[g]? = some (.cells cur t (0, 0))) (hj : j < cur.size) : ∃ old, W.cell? ⟨g, j, none⟩ = some old := ⟨cur[j], by rw [cell_of_block hb]; simp [hj]⟩
theorem len38 : Tryd.prog.arrayLen 38 = 24 := by simp [Program.arrayLen, Tryd.underlying38]
theorem slice_from (g j : Nat) (hj : j ≤ 23) (W : World) : (Instr.sliceAt 38 (.pointer (some ⟨g, 0, none⟩)) (some (.int .i64 (j : Int))) none none).run Tryd.prog W = .ok (.slice (some ⟨g, j, none⟩) (24 - j) (24 - j)) W := by
  rw [run_sliceAt_array_l W 38 ⟨g, 0, none⟩ (by simp [Program.arrayLen, Program.elem, Tryd.underlying38]) .i64 (j : Int) (by omega) (by rw [len38]; omega)]
  rw [len38]
  go_simp
  have : ¬ (24 = j) := by omega
  simp [this]
theorem conv_digits {W : World} {g j : Nat} {cur : Array Value} {z : Value} {u k v : Nat} (hb : W.heap[g]? = some (.cells cur 38 (0, 0))) (hd : Dig u k v (cur.setIfInBounds j z)) (hk : k + j = 24) (hn : Lib.nDigits u = k) :
    (convert 27 9 (.slice (some ⟨g, j, none⟩) (24 - j) (24 - j))).run Tryd.prog (W.setCell ⟨g, j, none⟩ z) = .ok (.string ⟨(Lib.decDigits u).toArray⟩) (W.setCell ⟨g, j, none⟩ z) := by
  have hl : 24 - j = (Lib.decDigits u).length := by rw [Lib.decDigits_length, hn]; omega
  rw [hl]
  refine run_convert_bytes_back _ 27 9 5 ⟨g, j, none⟩ _ _ Tryd.underlying27 Tryd.underlying5 Tryd.underlying9 fun t ht => ?_
  rw [Lib.add_plain, cell_of_block (block_setCell hb)]
  rw [← hd.cells (by omega) hn t ht]
  congr 1
  omega

theorem conv_signed {W : World} {g j : Nat} {cur : Array Value} {u k v : Nat} (hb : W.heap[g]? = some (.cells cur 38 (0, 0))) (hd : Dig u k v cur) (hk : k + (j + 1) = 24) (hn : Lib.nDigits u = k) :
    (convert 27 9 (.slice (some ⟨g, j, none⟩) (24 - j) (24 - j))).run Tryd.prog (W.setCell ⟨g, j, none⟩ (.int .u8 45)) = .ok (.string ⟨(45 :: Lib.decDigits u).toArray⟩) (W.setCell ⟨g, j, none⟩ (.int .u8 45)) := by
  have hl : 24 - j = (45 :: Lib.decDigits u).length := by rw [List.length_cons, Lib.decDigits_length, hn]; omega
  have hs := hd.size
  rw [hl]
  refine run_convert_bytes_back _ 27 9 5 ⟨g, j, none⟩ _ _ Tryd.underlying27 Tryd.underlying5 Tryd.underlying9 fun t ht => ?_
  rw [Lib.add_plain, cell_of_block (block_setCell hb), Array.getElem?_setIfInBounds]
  cases t with
  | zero => rw [if_pos (by omega), if_pos (by omega)]; rfl
  | succ t =>
    rw [if_neg (by omega), List.getElem_cons_succ, ← hd.cells (by omega) hn t (by simpa using ht)]
    congr 1
    omega

set_option maxHeartbeats 1600000 in
set_option maxRecDepth 100000 in
theorem decimal_pos (x : Int) (h0 : 0 ≤ x) (h1 : x ≤ 9223372036854775807) (w : World) :
    Calls Tryd.prog 7 #[.int .i64 x] w fun e w' => e = .returned (.string ⟨(Lib.itoa x).toArray⟩) ∧ Below w.heap.size w w' := by
  obtain ⟨u, rfl⟩ : ∃ u : Nat, x = u := ⟨x.toNat, by omega⟩
  have hu : u < 18446744073709551616 := by omega
  rw [Lib.itoa_nonneg]
  go_enter Tryd.func7, Tryd.ntmps7
  go_wp2
  go_loopw [3, 5] (fun m i wr => ∃ j k v : Nat, ∃ cur : Array Value, k + (j + 1) = 24 ∧ i = .int .i64 ((j : Int) + 1) ∧ m = .int .u64 v ∧ wr.heap[w.heap.size]? = some (.cells cur 38 (0, 0)) ∧ Dig u k v cur ∧ (k = 0 ∨ 1 ≤ v) ∧ Below w.heap.size w wr) (fun _ i _ => (RowKit.intOf i).toNat)
  case atStart => exact ⟨23, 0, u, Lib.zeros24, rfl, rfl, rfl, heap_alloc_new _ _, Dig.start _ _ rfl, .inl rfl, (Below.refl _ w).alloc (Nat.le_refl _) _⟩
  case round =>
    obtain ⟨j, k, v, cur, hjk, rfl, rfl, hb, hd, hpv, hnx⟩ := hrel
    have hk20 := hd.lt20 hu hpv
    have hv64 : v < 18446744073709551616 := by rw [hd.val]; exact Nat.lt_of_le_of_lt (Nat.div_le_self _ _) hu
    have hs24 := hd.size
    obtain ⟨old, hcj⟩ := old_cell (j := j) hb (by omega)
    have hfj : wr.frozen? ⟨w.heap.size, j, none⟩ = false := free_of_block hb
    have HS : Hid _ := hs24
    have HJ : Hid _ := hjk
    have hj4 : 4 ≤ j := by omega
    have hj23 : j ≤ 23 := by omega
    clear hs24 hjk
    by_cases hv : v < 10
    · have hcv : (convert 27 9 (.slice (some ⟨w.heap.size, j, none⟩) (24 - j) (24 - j))).run Tryd.prog (wr.setCell ⟨w.heap.size, j, none⟩ (.int .u8 (48 + (v : Int) % 10))) = .ok (.string ⟨(Lib.decDigits u).toArray⟩) (wr.setCell ⟨w.heap.size, j, none⟩ (.int .u8 (48 + (v : Int) % 10))) :=
        conv_digits hb (hd.step HJ.out _ rfl) (by have := HJ.out; omega) (hd.last hpv hv)
      have hsl := slice_from w.heap.size j hj23
      go_wp2
      go_ret
      exact ⟨rfl, hnx.setCell (Nat.le_refl _) _⟩
    · go_wp2
      go_roundw
      case rel => exact ⟨j - 1, k + 1, v / 10, _, by have := HJ.out; omega, by go_num, by go_num, block_setCell hb, hd.step HJ.out _ rfl, .inr (by omega), hnx.setCell (Nat.le_refl _) _⟩
      case measure => simp [RowKit.intOf]
set_option maxHeartbeats 1600000 in
set_option maxRecDepth 100000 in
theorem decimal_neg (x : Int) (h0 : -9223372036854775808 ≤ x) (h1 : x < 0) (w : World) :
    Calls Tryd.prog 7 #[.int .i64 x] w fun e w' => e = .returned (.string ⟨(Lib.itoa x).toArray⟩) ∧ Below w.heap.size w w' := by
  obtain ⟨u, rfl⟩ : ∃ u : Nat, x = -(u : Int) := ⟨x.natAbs, by omega⟩
  have hu1 : 1 ≤ u := by omega
  have hwr : IntKind.u64.wrap (0 - IntKind.u64.wrap (-(u : Int))) = (u : Int) := by rw [IntKind.wrap_u64, IntKind.wrap_u64]; omega
  have hwr' : IntKind.u64.wrap (-IntKind.u64.wrap (-(u : Int))) = (u : Int) := by rw [IntKind.wrap_u64, IntKind.wrap_u64]; omega
  have hu : u < 18446744073709551616 := by omega
  rw [Lib.itoa_neg u hu1]
  go_enter Tryd.func7, Tryd.ntmps7
  go_wp2
  go_loopw [3, 5] (fun m i wr => ∃ j k v : Nat, ∃ cur : Array Value, k + (j + 1) = 24 ∧ i = .int .i64 ((j : Int) + 1) ∧ m = .int .u64 v ∧ wr.heap[w.heap.size]? = some (.cells cur 38 (0, 0)) ∧ Dig u k v cur ∧ (k = 0 ∨ 1 ≤ v) ∧ Below w.heap.size w wr) (fun _ i _ => (RowKit.intOf i).toNat)
  case atStart => exact ⟨23, 0, u, Lib.zeros24, rfl, rfl, rfl, heap_alloc_new _ _, Dig.start _ _ rfl, .inl rfl, (Below.refl _ w).alloc (Nat.le_refl _) _⟩
  case round =>
    obtain ⟨j, k, v, cur, hjk, rfl, rfl, hb, hd, hpv, hnx⟩ := hrel
    have hk20 := hd.lt20 hu hpv
    have hv64 : v < 18446744073709551616 := by rw [hd.val]; exact Nat.lt_of_le_of_lt (Nat.div_le_self _ _) hu
    have hs24 := hd.size
    obtain ⟨old, hcj⟩ := old_cell (j := j) hb (by omega)
    have hfj : wr.frozen? ⟨w.heap.size, j, none⟩ = false := free_of_block hb
    have HS : Hid _ := hs24
    have HJ : Hid _ := hjk
    have hj4 : 4 ≤ j := by omega
    have hj23 : j ≤ 23 := by omega
    clear hs24 hjk
    by_cases hv : v < 10
    · obtain ⟨j', rfl⟩ : ∃ j', j = j' + 1 := ⟨j - 1, by omega⟩
      have hb2 := block_setCell (j := j' + 1) (u := .int .u8 (48 + (v : Int) % 10)) hb
      obtain ⟨old2, hc2⟩ := old_cell (j := j') hb2 (by have := (hd.step HJ.out _ rfl).size; omega)
      have hf2 := free_of_block (j := j') hb2
      have hcv := conv_signed (k := k + 1) (j := j') hb2 (hd.step HJ.out _ rfl) (by have := HJ.out; omega) (hd.last hpv hv)
      have hsl := slice_from w.heap.size j' (by omega)
      go_wp2
      go_ret
      exact ⟨rfl, (hnx.setCell (Nat.le_refl _) _).setCell (Nat.le_refl _) _⟩
    · go_wp2
      go_roundw
      case rel => exact ⟨j - 1, k + 1, v / 10, _, by have := HJ.out; omega, by go_num, by go_num, block_setCell hb, hd.step HJ.out _ rfl, .inr (by omega), hnx.setCell (Nat.le_refl _) _⟩
      case measure => simp [RowKit.intOf]
theorem decimal7 (x : Int) (h0 : -9223372036854775808 ≤ x) (h1 : x ≤ 9223372036854775807) (w : World) :
    Calls Tryd.prog 7 #[.int .i64 x] w fun e w' => e = .returned (.string ⟨(Lib.itoa x).toArray⟩) ∧ Below w.heap.size w w' := by
  rcases Int.lt_or_le x 0 with h | h
  · exact decimal_neg x h0 h w
  · exact decimal_pos x h h1 w
end Go.Proofs.Qxb6616123aDoor
