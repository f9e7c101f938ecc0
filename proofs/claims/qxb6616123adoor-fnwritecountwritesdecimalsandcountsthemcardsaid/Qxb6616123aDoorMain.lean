/-
  SEAT b6616123aD: THE LAW's WALK (function 3).
-/
import Derived.Test.Qxb6616123aDoorDecimal
namespace Go.Proofs.Qxb6616123aDoor
open Go.RowKit Go.Sort Go.Lib
theorem own_below {w w' : World} {B n q : Nat} {e : TypeId} {size : Nat} {v : Value} {xs : List Value} (h : w.ownsRow B e size v n xs) (hb : Below q w w') (hq : w.heap.size ≤ q) : w'.ownsRow B e size v n xs := by
  obtain ⟨a, b⟩ := h
  refine ⟨a, ?_⟩
  rcases b with b | ⟨g, cap, cur, hv, hB, hg, r⟩
  · exact .inl b
  · exact .inr ⟨g, cap, cur, hv, hB, by rw [hb.block g (Nat.lt_of_lt_of_le (lt_of_block hg) hq)]; exact hg, r⟩
theorem conv_row {w : World} {B n : Nat} {ao : Option Addr} {ln cp : Nat} {bs : List UInt8} (h : w.ownsRow B 5 1 (.slice ao ln cp) n (Lib.byteCells bs)) (hne : 0 < bs.length) :
    ∃ g, ao = some ⟨g, 0, none⟩ ∧ ln = bs.length ∧ (convert 27 9 (.slice (some ⟨g, 0, none⟩) bs.length cp)).run Tryd.prog w = .ok (.string ⟨bs.toArray⟩) w := by
  have hl := h.1
  rw [Lib.byteCells_length, Nat.mul_one] at hl
  rcases h.2 with ⟨hv, hn⟩ | ⟨g, cap, cur, hv, _⟩
  · omega
  · cases hv
    refine ⟨g, rfl, hl.symm, ?_⟩
    refine run_convert_bytes_back _ 27 9 5 ⟨g, 0, none⟩ _ _ Tryd.underlying27 Tryd.underlying5 Tryd.underlying9 fun t ht => ?_
    exact h.cells rfl t _ (by simp [Lib.byteCells, ht])
theorem itoa_pos (i : Int) : 0 < (Lib.itoa i).length := by
  unfold Lib.itoa
  split
  · simp
  · rw [Lib.decDigits_length]; exact Lib.nDigits_pos _

theorem newSize6' (w : World) : Calls Tryd.prog 6 #[] w fun e w' => ∃ q, w.heap.size ≤ q ∧ e = .returned (.pointer (some ⟨q, 0, none⟩)) ∧ Below q w w' ∧ w'.heap[q]? = some (jw (.slice none 0 0) true 0) :=
  (newSize6 w).mono fun _ _ ⟨he, hw⟩ => by
    subst hw
    exact ⟨w.heap.size, Nat.le_refl _, he, (Below.refl _ w).alloc (Nat.le_refl _) _, heap_alloc_new _ _⟩
theorem join_bytes (x y : List UInt8) : (⟨x.toArray⟩ : ByteArray) ++ ⟨y.toArray⟩ = ⟨(x ++ y).toArray⟩ := by
  apply ByteArray.ext
  simp
theorem join_size (x y : List UInt8) : ((⟨x.toArray⟩ : ByteArray) ++ ⟨y.toArray⟩).size = x.length + y.length := by
  rw [ByteArray.size_append]; rfl
/-- the world behind the first four blocks -/
structure Laid (w w2 : World) (a b : Int) : Prop where
  nx : Below w.heap.size w w2
  ca : w2.heap[w.heap.size]? = some (.cells #[.int .i64 a] 3 (0, 0))
  cb : w2.heap[w.heap.size + 1]? = some (.cells #[.int .i64 b] 3 (0, 0))
  jw : w2.heap[w.heap.size + 1 + 1 + 1]? = some (jw (.slice (some ⟨w.heap.size + 1 + 1, 0, none⟩) 0 0) false 0)
  own : w2.ownsRow (w.heap.size + 1 + 1) 5 1 (.slice (some ⟨w.heap.size + 1 + 1, 0, none⟩) 0 0) 0 []
theorem laid4 (w : World) (a b : Int) : Laid w ((((w.alloc (.cells #[.int .i64 a] 3)).alloc (.cells #[.int .i64 b] 3)).alloc (.cells #[] 5)).alloc (jw (.slice (some ⟨w.heap.size + 1 + 1, 0, none⟩) 0 0) false 0)) a b := by
  have s1 : (w.alloc (.cells #[.int .i64 a] 3)).heap.size = w.heap.size + 1 := by simp
  have s2 : ((w.alloc (.cells #[.int .i64 a] 3)).alloc (.cells #[.int .i64 b] 3)).heap.size = w.heap.size + 1 + 1 := by simp
  have s3 : (((w.alloc (.cells #[.int .i64 a] 3)).alloc (.cells #[.int .i64 b] 3)).alloc (.cells #[] 5)).heap.size = w.heap.size + 1 + 1 + 1 := by simp
  refine ⟨((((Below.refl _ w).alloc (Nat.le_refl _) _).alloc (by omega) _).alloc (by omega) _).alloc (by omega) _, ?_, ?_, ?_, ?_⟩
  · rw [RowKit.Below.heap_alloc _ _ _ (by omega), RowKit.Below.heap_alloc _ _ _ (by omega), RowKit.Below.heap_alloc _ _ _ (by omega)]
    exact heap_alloc_new _ _
  · rw [RowKit.Below.heap_alloc _ _ _ (by omega), RowKit.Below.heap_alloc _ _ _ (by omega), ← s1]
    exact heap_alloc_new _ _
  · rw [← s3]
    exact heap_alloc_new _ _
  · have := World.ownsRow_made (e := 5) (base := w.heap.size + 1 + 1) (size := 1) ((w.alloc (.cells #[.int .i64 a] 3)).alloc (.cells #[.int .i64 b] 3)) #[] 0 (by omega) (by decide) (by rfl)
    rw [s2] at this
    exact this.alloc _

set_option maxHeartbeats 1600000 in
set_option maxRecDepth 100000 in
theorem main3 (bv ov bu ou : Nat) (a b : Int) (ha0 : -9223372036854775808 ≤ a) (ha1 : a ≤ 9223372036854775807) (hb0 : -9223372036854775808 ≤ b) (hb1 : b ≤ 9223372036854775807) (w : World)
    (hv : w.cell? ⟨bv, ov, none⟩ = some (.int .i64 a)) (hu : w.cell? ⟨bu, ou, none⟩ = some (.int .i64 b)) (htab : PowBelow w.heap.size w) :
    Calls Tryd.prog 3 #[.pointer (some ⟨bv, ov, none⟩), .pointer (some ⟨bu, ou, none⟩)] w fun e w' => e = .returned (.bool true) ∧ Below w.heap.size w w' := by
  have hla := itoa_le20 a ha0 ha1
  have hlb := itoa_le20 b hb0 hb1
  have hpa := itoa_pos a
  go_enter Tryd.func3, Tryd.ntmps3
  go_wp2_with fail
  refine (newBuf4 _).mono ?_
  rintro e w2 ⟨rfl, rfl⟩
  have hlaid := laid4 w a b
  go_wp2_with fail
  generalize ((((w.alloc (.cells #[.int .i64 a] 3)).alloc (.cells #[.int .i64 b] 3)).alloc (.cells #[] 5)).alloc (jw (.slice (some ⟨w.heap.size + 1 + 1, 0, none⟩) 0 0) false 0)) = w2 at hlaid ⊢
  clear hv hu
  have t2 : PowBelow (w.heap.size + 1 + 1) w2 := (htab.on hlaid.nx).up (by omega)
  -- the first count into the buffer
  refine (count5 _ _ a w2 (by exact cell_of_one hlaid.ca) _ (by exact int_buf (w.heap.size + 1 + 1) (w.heap.size + 1 + 1 + 1) 0 a ha0 ha1 _ [] w2 hlaid.jw hlaid.own (by omega) (by omega) t2)).mono ?_
  rintro e w3 ⟨rfl, sv3, j3, o3, x3⟩
  have cb3 : w3.heap[w.heap.size + 1]? = some (.cells #[.int .i64 b] 3 (0, 0)) := by rw [x3.block _ (by omega)]; exact hlaid.cb
  go_wp2_with fail
  -- the second
  refine (count5 _ _ b w3 (by exact cell_of_one cb3) _ (by exact int_buf (w.heap.size + 1 + 1) (w.heap.size + 1 + 1 + 1) _ b hb0 hb1 _ _ w3 j3 o3 (by omega) (by omega) (t2.on x3))).mono ?_
  rintro e w4 ⟨rfl, sv4, j4, o4, x4⟩
  have x24 : Below (w.heap.size + 1 + 1) w2 w4 := x3.trans x4
  have hp4 := lt_of_block j4
  have ca4 : w4.heap[w.heap.size]? = some (.cells #[.int .i64 a] 3 (0, 0)) := by rw [x24.block _ (by omega)]; exact hlaid.ca
  have cb4 : w4.heap[w.heap.size + 1]? = some (.cells #[.int .i64 b] 3 (0, 0)) := by rw [x24.block _ (by omega)]; exact hlaid.cb
  have t4 : PowBelow (w.heap.size + 1 + 1) w4 := t2.on x24
  have n4 : Below w.heap.size w w4 := hlaid.nx.trans (x24.mono (by omega))
  clear j3 o3 x3 cb3 x4 x24 t2 hlaid
  go_wp2_with fail
  -- the sizing writer
  refine (newSize6' w4).mono ?_
  rintro e w5 ⟨q, hq, rfl, n5, j5⟩
  have hpq : w.heap.size + 1 + 1 + 1 < q := Nat.lt_of_lt_of_le hp4 hq
  go_wp2_with fail
  have ca5 : w5.heap[w.heap.size]? = some (.cells #[.int .i64 a] 3 (0, 0)) := by rw [n5.block _ (by omega)]; exact ca4
  refine (count5 _ _ a w5 (by exact cell_of_one ca5) _ (by exact int_size q a 0 ha0 ha1 w5 j5 (by omega) (by omega) ((t4.up (by omega)).on n5))).mono ?_
  rintro e w6 ⟨rfl, j6, x6⟩
  have n6 : Below q w4 w6 := n5.trans x6
  have cb6 : w6.heap[w.heap.size + 1]? = some (.cells #[.int .i64 b] 3 (0, 0)) := by rw [n6.block _ (by omega)]; exact cb4
  go_wp2_with fail
  refine (count5 _ _ b w6 (by exact cell_of_one cb6) _ (by exact int_size q b _ hb0 hb1 w6 j6 (by omega) (by omega) ((t4.up (by omega)).on n6))).mono ?_
  rintro e w7 ⟨rfl, j7, x7⟩
  have n7 : Below q w4 w7 := n6.trans x7
  have q7 := lt_of_block j7
  clear n5 j5 ca5 j6 x6 n6 cb6 x7
  -- the two numerals
  go_wp2_with fail
  refine (decimal7 a ha0 ha1 w7).mono ?_
  rintro e w8 ⟨rfl, x8⟩
  go_wp2_with fail
  refine (decimal7 b hb0 hb1 w8).mono ?_
  rintro e w9 ⟨rfl, x9⟩
  have n9 : Below w7.heap.size w7 w9 := x8.trans (x9.mono x8.size)
  clear x8 x9
  have m9 : Below q w4 w9 := n7.trans (n9.mono (by omega))
  have j9 : w9.heap[w.heap.size + 1 + 1 + 1]? = some (jw sv4 false 0) := by rw [m9.block _ (by omega)]; exact j4
  have k9 : w9.heap[q]? = some (jw (.slice none 0 0) true (0 + (Lib.itoa a).length + (Lib.itoa b).length)) := by rw [n9.block _ (by omega)]; exact j7
  have ca9 : w9.heap[w.heap.size]? = some (.cells #[.int .i64 a] 3 (0, 0)) := by rw [m9.block _ (by omega)]; exact ca4
  have cb9 : w9.heap[w.heap.size + 1]? = some (.cells #[.int .i64 b] 3 (0, 0)) := by rw [m9.block _ (by omega)]; exact cb4
  have o9 := own_below o4 m9 (by omega)
  have e9 : ([] ++ Lib.byteCells (Lib.itoa a) ++ Lib.byteCells (Lib.itoa b) : List Value) = Lib.byteCells (Lib.itoa a ++ Lib.itoa b) := by simp [Lib.byteCells]
  rw [e9] at o9
  obtain ⟨ao, ln, cp, rfl⟩ := own_slice o9
  obtain ⟨g, rfl, rfl, hcv⟩ := conv_row o9 (by simp; omega)
  have fin : Below w.heap.size w w9 := n4.trans (m9.mono (by omega))
  have p0 : w9.cell? ⟨w.heap.size + 1 + 1 + 1, 0, none⟩ = some (.slice (some ⟨g, 0, none⟩) (Lib.itoa a ++ Lib.itoa b).length cp) := by rw [cell_of_block j9]; rfl
  have q0 : w9.cell? ⟨q, 0, none⟩ = some (.slice none 0 0) := by rw [cell_of_block k9]; rfl
  have q2 : w9.cell? ⟨q, 2, none⟩ = some (.int .i64 (0 + (Lib.itoa a).length + (Lib.itoa b).length)) := by rw [cell_of_block k9]; rfl
  have a0 : w9.cell? ⟨w.heap.size, 0, none⟩ = some (.int .i64 a) := cell_of_one ca9
  have b0 : w9.cell? ⟨w.heap.size + 1, 0, none⟩ = some (.int .i64 b) := cell_of_one cb9
  clear j9 k9 ca9 cb9 o9 e9 o4 j4 ca4 cb4 t4 n4 m9 n9 j7 n7 htab
  go_wp2_with fail
  rw [← join_bytes] at hcv
  have hsz := join_size (Lib.itoa a) (Lib.itoa b)
  generalize (Lib.itoa a ++ Lib.itoa b).length = L at hcv p0
  generalize ((⟨(Lib.itoa a).toArray⟩ : ByteArray) ++ ⟨(Lib.itoa b).toArray⟩) = s at hcv hsz ⊢
  generalize (Lib.itoa a).length = la at hla hpa q2 hsz
  generalize (Lib.itoa b).length = lb at hlb q2 hsz
  refine (buf8 _ _ _ _ w9 (by exact p0)).mono ?_
  rintro e w' ⟨rfl, rfl⟩
  go_wp2_with fail
  refine (size9 _ _ _ (by exact q2)).mono ?_
  rintro e w' ⟨rfl, rfl⟩
  have z1 : (0 + (la : Int) + (lb : Int) != (s.size : Int)) = false := by rw [hsz]; simp
  go_wp2_with fail
  refine (buf8 _ _ _ _ _ (by exact q0)).mono ?_
  rintro e w' ⟨rfl, rfl⟩
  go_wp2
  go_ret
  exact ⟨rfl, fin⟩
end Go.Proofs.Qxb6616123aDoor
