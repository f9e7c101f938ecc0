/-
  SEAT b6616123aD: THE WRITER: put, raw, Int, writeCount, through the thin file; a buffer writer and a sizing writer.
-/
import Derived.Test.Qxb6616123aDoorAppend
import Derived.OneCell
import Derived.WalkLawsBesides
import Derived.WalkSpells
namespace Go.Proofs.Qxb6616123aDoor
open Go.RowKit Go.Sort Go.Lib
/-- a JSONWriter in memory: its six fields -/
abbrev jw (buf : Value) (sizing : Bool) (z : Int) : Obj := .cells #[buf, .bool sizing, .int .i64 z, .nilIface, .int .i64 0, .nilIface] 36 (0, 0)
theorem cell_of_block {w : World} {b j : Nat} {cs : Array Value} {t : TypeId} (h : w.heap[b]? = some (.cells cs t (0, 0))) : w.cell? ⟨b, j, none⟩ = cs[j]? := by simp [World.cell?, h]
theorem free_of_block {w : World} {b j : Nat} {cs : Array Value} {t : TypeId} (h : w.heap[b]? = some (.cells cs t (0, 0))) : w.frozen? ⟨b, j, none⟩ = false := by simp [World.frozen?, h]
theorem block_setCell {w : World} {b j : Nat} {cs : Array Value} {t : TypeId} {u : Value} (h : w.heap[b]? = some (.cells cs t (0, 0))) : (w.setCell ⟨b, j, none⟩ u).heap[b]? = some (.cells (cs.setIfInBounds j u) t (0, 0)) := by
  have hlt := lt_of_block h
  have h' : w.heap[b] = .cells cs t (0, 0) := by simpa [Array.getElem?_eq_getElem hlt] using h
  show (w.heap.modify b _)[b]? = _
  rw [Array.getElem?_eq_getElem (by simpa using hlt), Array.getElem_modify_self, h']
  rfl
/-- a row of another type's number lies in another block -/
theorem ownBlock_ne {w : World} {B n p : Nat} {e t : TypeId} {size : Nat} {v : Value} {xs : List Value} {cs : Array Value} (h : w.ownsRow B e size v n xs) (hp : w.heap[p]? = some (.cells cs t (0, 0))) (hne : e ≠ t) : v.ownBlock ≠ some p := by
  intro he
  rcases h.2 with ⟨rfl, _⟩ | ⟨g, cap, cur, rfl, _, hg, _⟩
  · simp [Value.ownBlock] at he
  · simp [Value.ownBlock] at he
    subst he
    rw [hg] at hp
    simp at hp
    exact hne hp.2
theorem own_cells {w : World} {B g n : Nat} {e : TypeId} {bs : List UInt8} {c : Nat} (h : w.ownsRow B e 1 (.slice (some ⟨g, 0, none⟩) n c) n (Lib.byteCells bs)) : ∀ j u, (Lib.byteCells bs)[j]? = some u → w.cell? ((⟨g, 0, none⟩ : Addr).add j) = some u := h.cells rfl

theorem own_slice {w : World} {B n : Nat} {e : TypeId} {size : Nat} {v : Value} {xs : List Value} (h : w.ownsRow B e size v n xs) : ∃ ao ln cp, v = .slice ao ln cp := by
  rcases h.2 with ⟨rfl, _⟩ | ⟨g, cap, cur, rfl, _⟩
  · exact ⟨_, _, _, rfl⟩
  · exact ⟨_, _, _, rfl⟩
set_option maxHeartbeats 1600000 in
set_option maxRecDepth 100000 in
theorem put_buf (B p g n c : Nat) (sv : Value) (xs : List Value) (bs : List UInt8) (w : World) (hp : w.heap[p]? = some (jw sv false 0)) (hown : w.ownsRow B 5 1 sv n xs) (hBp : B ≤ p)
    (hcells : ∀ j u, (Lib.byteCells bs)[j]? = some u → w.cell? ((⟨g, 0, none⟩ : Addr).add j) = some u) (hlim : n + bs.length ≤ 1000) :
    Calls Tryd.prog 14 #[.pointer (some ⟨p, 0, none⟩), .slice (some ⟨g, 0, none⟩) bs.length c] w fun e w' => e = .returned (.tuple #[]) ∧ ∃ sv', w'.heap[p]? = some (jw sv' false 0) ∧ w'.ownsRow B 5 1 sv' (n + bs.length) (xs ++ Lib.byteCells bs) ∧ Below B w w' := by
  obtain ⟨i0, hi, hz0, hz1, hz2⟩ := info_parts info5
  obtain ⟨ao0, ln0, cp0, rfl⟩ := own_slice hown
  have hpl := lt_of_block hp
  have c0 : w.cell? ⟨p, 0, none⟩ = some (.slice ao0 ln0 cp0) := by rw [cell_of_block hp]; rfl
  have c1 : w.cell? ⟨p, 1, none⟩ = some (.bool false) := by rw [cell_of_block hp]; rfl
  have c3 : w.cell? ⟨p, 3, none⟩ = some .nilIface := by rw [cell_of_block hp]; rfl
  go_enter Tryd.func14, Tryd.ntmps14
  go_wp2_with (at_builtin; refine wpList_append_own _ rfl _ _ 27 rfl B 5 i0 (.int .u8 0) 1 1 Tryd.underlying27 hi hz0 hz1 hz2 rfl (by decide) _ _ _ rfl hown ⟨g, 0, none⟩ bs.length c (Lib.byteCells bs) rfl (by rw [Lib.byteCells_length, Nat.mul_one]) hcells (by intro u' hu'; simp only [Lib.byteCells, List.mem_map] at hu'; obtain ⟨b, _, rfl⟩ := hu'; rfl) (by unfold maxLen; omega) (by omega) (by omega) ?_)
  intro v' w1 hown' hgrow _
  have hne := ownBlock_ne hown hp (by decide)
  have hp1 : w1.heap[p]? = some (jw (.slice ao0 ln0 cp0) false 0) := by rw [hgrow.block p hpl (Ne.symm hne)]; exact hp
  have d0 : w1.cell? ⟨p, 0, none⟩ = some (.slice ao0 ln0 cp0) := by rw [cell_of_block hp1]; rfl
  have f0 : w1.frozen? ⟨p, 0, none⟩ = false := free_of_block hp1
  have hne' := ownBlock_ne hown' hp1 (by decide)
  have hnx : Below B w w1 := (Below.refl B w).grown hgrow (by omega) (fun k hk => (hown.lt k hk).1)
  obtain ⟨ao, ln, cp, hv⟩ := own_slice hown'
  have HO := Lib.hid (show w1.ownsRow B 5 1 (.slice ao ln cp) (n + bs.length) (xs ++ Lib.byteCells bs) from hv ▸ hown')
  rw [hv] at hne' ⊢
  clear hown' hcells hv
  go_wp2
  refine bodyPost_ret (results_none rfl _ _ _) rfl ?_
  exact ⟨rfl, .slice ao ln cp, block_setCell hp1, ownsRow_setCell_other HO.out hne' _, hnx.setCell hBp _⟩

set_option maxHeartbeats 1600000 in
set_option maxRecDepth 100000 in
theorem put_size (p g m c : Nat) (z : Int) (w : World) (hp : w.heap[p]? = some (jw (.slice none 0 0) true z)) (hz0 : 0 ≤ z) (hz1 : z ≤ 1000) (hm : m ≤ 1000) :
    Calls Tryd.prog 14 #[.pointer (some ⟨p, 0, none⟩), .slice (some ⟨g, 0, none⟩) m c] w fun e w' => e = .returned (.tuple #[]) ∧ w'.heap[p]? = some (jw (.slice none 0 0) true (z + m)) ∧ Below p w w' := by
  have c1 : w.cell? ⟨p, 1, none⟩ = some (.bool true) := by rw [cell_of_block hp]; rfl
  have c2 : w.cell? ⟨p, 2, none⟩ = some (.int .i64 z) := by rw [cell_of_block hp]; rfl
  have f2 : w.frozen? ⟨p, 2, none⟩ = false := free_of_block hp
  go_enter Tryd.func14, Tryd.ntmps14
  go_wp2
  refine bodyPost_ret (results_none rfl _ _ _) rfl ?_
  exact ⟨rfl, block_setCell hp, (Below.refl p w).setCell (Nat.le_refl _) _⟩

/-- raw hands on to put -/
theorem raw12 (p g m c : Nat) (w : World) (Q : World → Prop) (h : Calls Tryd.prog 14 #[.pointer (some ⟨p, 0, none⟩), .slice (some ⟨g, 0, none⟩) m c] w fun e w' => e = .returned (.tuple #[]) ∧ Q w') :
    Calls Tryd.prog 12 #[.pointer (some ⟨p, 0, none⟩), .slice (some ⟨g, 0, none⟩) m c] w fun e w' => e = .returned (.tuple #[]) ∧ Q w' := by
  have H := Lib.hid h
  clear h
  go_enter Tryd.func12, Tryd.ntmps12
  go_wp2_with fail
  refine (H.out).mono ?_
  rintro e w2 ⟨rfl, hq⟩
  go_wp2
  go_end0
  exact ⟨rfl, hq⟩
/-- 'var b [20]byte', as the walk lays it -/
def zeros20 : Array Value := #[Value.int .u8 0, Value.int .u8 0, Value.int .u8 0, Value.int .u8 0, Value.int .u8 0, Value.int .u8 0, Value.int .u8 0, Value.int .u8 0, Value.int .u8 0, Value.int .u8 0, Value.int .u8 0, Value.int .u8 0, Value.int .u8 0, Value.int .u8 0, Value.int .u8 0, Value.int .u8 0, Value.int .u8 0, Value.int .u8 0, Value.int .u8 0, Value.int .u8 0]
theorem own_zeros20 (w : World) : (w.alloc (.cells zeros20 40)).ownsRow w.heap.size 40 1 (arr w.heap.size 0) 0 [] :=
  World.ownsRow_made w zeros20 20 (Nat.le_refl _) (by decide) (by rfl)

set_option maxHeartbeats 1600000 in
set_option maxRecDepth 100000 in
theorem int_buf (B p n : Nat) (i : Int) (h0 : -9223372036854775808 ≤ i) (h1 : i ≤ 9223372036854775807) (sv : Value) (xs : List Value) (w : World) (hp : w.heap[p]? = some (jw sv false 0)) (hown : w.ownsRow B 5 1 sv n xs) (hBp : B ≤ p) (hn : n ≤ 100) (htab : PowBelow B w) :
    Calls Tryd.prog 11 #[.pointer (some ⟨p, 0, none⟩), .int .i64 i] w fun e w' => e = .returned (.tuple #[]) ∧ ∃ sv', w'.heap[p]? = some (jw sv' false 0) ∧ w'.ownsRow B 5 1 sv' (n + (Lib.itoa i).length) (xs ++ Lib.byteCells (Lib.itoa i)) ∧ Below B w w' := by
  have hpl := lt_of_block hp
  have hoz := own_zeros20 w
  have h20 := itoa_le20 i h0 h1
  have hnx0 : Below w.heap.size w (w.alloc (.cells zeros20 40)) := (Below.refl _ w).alloc (Nat.le_refl _) _
  have htab1 : PowBelow w.heap.size (w.alloc (.cells zeros20 40)) := (htab.up (by omega)).on hnx0
  go_enter Tryd.func11, Tryd.ntmps11
  go_wp2_with fail
  refine (appendInt13 w.heap.size w.heap.size i h0 h1 _ hoz (by simp) htab1).mono ?_
  rintro e w2 ⟨rfl, hown2, hnx2⟩
  have hnx : Below w.heap.size w w2 := hnx0.trans hnx2
  have hp2 : w2.heap[p]? = some (jw sv false 0) := by rw [hnx.block p hpl]; exact hp
  have hown3 : w2.ownsRow B 5 1 sv n xs := by
    obtain ⟨a, b⟩ := hown
    refine ⟨a, ?_⟩
    rcases b with b | ⟨g, cap, cur, hv, hb, hg, r⟩
    · exact .inl b
    · exact .inr ⟨g, cap, cur, hv, hb, by rw [hnx.block g (lt_of_block hg)]; exact hg, r⟩
  go_wp2_with fail
  refine (raw12 p w.heap.size (Lib.itoa i).length 20 w2 _ (put_buf B p w.heap.size n 20 sv xs (Lib.itoa i) w2 hp2 hown3 hBp (own_cells hown2) (by omega))).mono ?_
  rintro e w3 ⟨rfl, sv', hp3, hown4, hnx3⟩
  go_wp2
  go_end0
  exact ⟨rfl, sv', hp3, hown4, (hnx.mono (by omega)).trans hnx3⟩

set_option maxHeartbeats 1600000 in
set_option maxRecDepth 100000 in
theorem int_size (p : Nat) (i z : Int) (h0 : -9223372036854775808 ≤ i) (h1 : i ≤ 9223372036854775807) (w : World) (hp : w.heap[p]? = some (jw (.slice none 0 0) true z)) (hz0 : 0 ≤ z) (hz1 : z ≤ 100) (htab : PowBelow p w) :
    Calls Tryd.prog 11 #[.pointer (some ⟨p, 0, none⟩), .int .i64 i] w fun e w' => e = .returned (.tuple #[]) ∧ w'.heap[p]? = some (jw (.slice none 0 0) true (z + (Lib.itoa i).length)) ∧ Below p w w' := by
  have hpl := lt_of_block hp
  have hoz := own_zeros20 w
  have h20 := itoa_le20 i h0 h1
  have hnx0 : Below w.heap.size w (w.alloc (.cells zeros20 40)) := (Below.refl _ w).alloc (Nat.le_refl _) _
  have htab1 : PowBelow w.heap.size (w.alloc (.cells zeros20 40)) := (htab.up (by omega)).on hnx0
  go_enter Tryd.func11, Tryd.ntmps11
  go_wp2_with fail
  refine (appendInt13 w.heap.size w.heap.size i h0 h1 _ hoz (by simp) htab1).mono ?_
  rintro e w2 ⟨rfl, hown2, hnx2⟩
  have hnx : Below w.heap.size w w2 := hnx0.trans hnx2
  have hp2 : w2.heap[p]? = some (jw (.slice none 0 0) true z) := by rw [hnx.block p hpl]; exact hp
  go_wp2_with fail
  refine (raw12 p w.heap.size (Lib.itoa i).length 20 w2 _ (put_size p w.heap.size (Lib.itoa i).length 20 z w2 hp2 hz0 (by omega) (by omega))).mono ?_
  rintro e w3 ⟨rfl, hp3, hnx3⟩
  go_wp2
  go_end0
  exact ⟨rfl, hp3, (hnx.mono (by omega)).trans hnx3⟩

/-- writeCount reads the count and hands on to Int -/
theorem count10 (q p : Nat) (i : Int) (w : World) (hq : w.cell? ⟨q, 0, none⟩ = some (.int .i64 i)) (Q : World → Prop) (h : Calls Tryd.prog 11 #[.pointer (some ⟨p, 0, none⟩), .int .i64 i] w fun e w' => e = .returned (.tuple #[]) ∧ Q w') :
    Calls Tryd.prog 10 #[.pointer (some ⟨q, 0, none⟩), .pointer (some ⟨p, 0, none⟩)] w fun e w' => e = .returned (.tuple #[]) ∧ Q w' := by
  have H := Lib.hid h
  clear h
  go_enter Tryd.func10, Tryd.ntmps10
  go_wp2_with fail
  refine (H.out).mono ?_
  rintro e w2 ⟨rfl, hq⟩
  go_wp2
  go_end0
  exact ⟨rfl, hq⟩
/-- the thin file hands on to writeCount -/
theorem count5 (q p : Nat) (i : Int) (w : World) (hq : w.cell? ⟨q, 0, none⟩ = some (.int .i64 i)) (Q : World → Prop) (h : Calls Tryd.prog 11 #[.pointer (some ⟨p, 0, none⟩), .int .i64 i] w fun e w' => e = .returned (.tuple #[]) ∧ Q w') :
    Calls Tryd.prog 5 #[.pointer (some ⟨q, 0, none⟩), .pointer (some ⟨p, 0, none⟩)] w fun e w' => e = .returned (.tuple #[]) ∧ Q w' := by
  have H := Lib.hid (count10 q p i w hq Q h)
  clear h
  go_enter Tryd.func5, Tryd.ntmps5
  go_wp2_with fail
  refine (H.out).mono ?_
  rintro e w2 ⟨rfl, hq⟩
  go_wp2
  go_end0
  exact ⟨rfl, hq⟩
theorem make0 (w : World) : (Instr.makeSlice 27 (.int .i64 0) (.int .i64 0)).run Tryd.prog w = .ok (.slice (some ⟨w.heap.size, 0, none⟩) 0 0) (w.alloc (.cells #[] 5)) := by kernel_rfl
theorem newBuf4 (w : World) : Calls Tryd.prog 4 #[] w fun e w' => e = .returned (.pointer (some ⟨w.heap.size + 1, 0, none⟩)) ∧ w' = (w.alloc (.cells #[] 5)).alloc (jw (.slice (some ⟨w.heap.size, 0, none⟩) 0 0) false 0) := by
  have hmk := make0
  go_enter Tryd.func4, Tryd.ntmps4
  go_wp2
  go_ret
  exact ⟨rfl, rfl⟩
theorem newSize6 (w : World) : Calls Tryd.prog 6 #[] w fun e w' => e = .returned (.pointer (some ⟨w.heap.size, 0, none⟩)) ∧ w' = w.alloc (jw (.slice none 0 0) true 0) := by
  go_enter Tryd.func6, Tryd.ntmps6
  go_wp2
  go_ret
  exact ⟨rfl, rfl⟩
theorem buf8 (p : Nat) (ao : Option Addr) (ln cp : Nat) (w : World) (h : w.cell? ⟨p, 0, none⟩ = some (.slice ao ln cp)) : Calls Tryd.prog 8 #[.pointer (some ⟨p, 0, none⟩)] w fun e w' => e = .returned (.slice ao ln cp) ∧ w' = w := by
  go_enter Tryd.func8, Tryd.ntmps8
  go_wp2
  go_ret
  exact ⟨rfl, rfl⟩
theorem size9 (p : Nat) (z : Int) (w : World) (h : w.cell? ⟨p, 2, none⟩ = some (.int .i64 z)) : Calls Tryd.prog 9 #[.pointer (some ⟨p, 0, none⟩)] w fun e w' => e = .returned (.int .i64 z) ∧ w' = w := by
  go_enter Tryd.func9, Tryd.ntmps9
  go_wp2
  go_ret
  exact ⟨rfl, rfl⟩
end Go.Proofs.Qxb6616123aDoor
