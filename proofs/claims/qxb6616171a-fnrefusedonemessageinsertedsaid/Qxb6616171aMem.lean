/-
  SEAT b6616171a: MEMORY OF THE CALL's OWN: a row of cells in a block ('Row'), a row of messages of five cells each ('MRow').
-/
import Derived.Below
import Derived.OneCell
import Derived.WalkKit
namespace Go.Proofs.Qxb6616171a
open Go.RowKit
theorem cell_of_block {w : World} {b j : Nat} {cs : Array Value} {t : TypeId} (h : w.heap[b]? = some (.cells cs t (0, 0))) : w.cell? ⟨b, j, none⟩ = cs[j]? := by simp [World.cell?, h]
theorem free_of_block {w : World} {b j : Nat} {cs : Array Value} {t : TypeId} (h : w.heap[b]? = some (.cells cs t (0, 0))) : w.frozen? ⟨b, j, none⟩ = false := by simp [World.frozen?, h]
theorem block_setCell {w : World} {b j : Nat} {cs : Array Value} {t : TypeId} {u : Value} (h : w.heap[b]? = some (.cells cs t (0, 0))) : (w.setCell ⟨b, j, none⟩ u).heap[b]? = some (.cells (cs.setIfInBounds j u) t (0, 0)) := by
  have hlt := lt_of_block h
  have h' : w.heap[b] = .cells cs t (0, 0) := by simpa [Array.getElem?_eq_getElem hlt] using h
  show (w.heap.modify b _)[b]? = _
  rw [Array.getElem?_eq_getElem (by simpa using hlt), Array.getElem_modify_self, h']
  rfl
/-- f, but v at i -/
def upd {α : Type} (f : Nat → α) (i : Nat) (v : α) : Nat → α := fun t => if t = i then v else f t
theorem upd_same {α : Type} (f : Nat → α) (i : Nat) (v : α) : upd f i v i = v := by simp [upd]
theorem upd_other {α : Type} (f : Nat → α) (i t : Nat) (v : α) (h : t ≠ i) : upd f i v t = f t := by simp [upd, h]
/-- block b begins with the cells f 0, .., f (len - 1), none of them frozen -/
def Row (w : World) (b : Nat) (f : Nat → Value) (len : Nat) : Prop := ∃ cur t, w.heap[b]? = some (.cells cur t (0, 0)) ∧ ∀ i, i < len → cur[i]? = some (f i)
section
variable {w w' : World} {b len : Nat} {f : Nat → Value}
theorem Row.cell (h : Row w b f len) (i : Nat) (hi : i < len) : w.cell? ⟨b, i, none⟩ = some (f i) := by
  obtain ⟨cur, t, hb, hc⟩ := h
  rw [cell_of_block hb]
  exact hc i hi
theorem Row.free (h : Row w b f len) (i : Nat) : w.frozen? ⟨b, i, none⟩ = false := by
  obtain ⟨cur, t, hb, hc⟩ := h
  exact free_of_block hb
theorem Row.lt (h : Row w b f len) : b < w.heap.size := by
  obtain ⟨cur, t, hb, hc⟩ := h
  exact lt_of_block hb
theorem Row.set (h : Row w b f len) (i : Nat) (v : Value) (hi : i < len) : Row (w.setCell ⟨b, i, none⟩ v) b (upd f i v) len := by
  obtain ⟨cur, t, hb, hc⟩ := h
  refine ⟨_, t, block_setCell hb, fun j hj => ?_⟩
  rw [Array.getElem?_setIfInBounds]
  by_cases e : i = j
  · subst e
    rw [if_pos rfl, if_pos (Array.getElem?_eq_some_iff.1 (hc i hi)).1, upd_same]
  · rw [if_neg e, upd_other _ _ _ _ (Ne.symm e)]
    exact hc j hj
theorem Row.other (h : Row w b f len) (a : Addr) (v : Value) (ha : b ≠ a.block) : Row (w.setCell a v) b f len := by
  obtain ⟨cur, t, hb, hc⟩ := h
  exact ⟨cur, t, by rw [Below.heap_setCell _ _ _ _ ha]; exact hb, hc⟩
theorem Row.below (h : Row w b f len) {B : Nat} (hb : Below B w w') (hB : b < B) : Row w' b f len := by
  obtain ⟨cur, t, hh, hc⟩ := h
  exact ⟨cur, t, by rw [hb.block b hB]; exact hh, hc⟩
theorem Row.grown (h : Row w b f len) {row : Option Nat} (hg : w.grownBy w' row) (hne : some b ≠ row) : Row w' b f len := by
  have hl := h.lt
  obtain ⟨cur, t, hh, hc⟩ := h
  exact ⟨cur, t, by rw [hg.block b hl hne]; exact hh, hc⟩
theorem Row.drew (h : Row w b f len) : Row w.drew b f len := h
theorem Row.congr (h : Row w b f len) (g : Nat → Value) (hg : ∀ i, i < len → f i = g i) : Row w b g len := by
  obtain ⟨cur, t, hh, hc⟩ := h
  exact ⟨cur, t, hh, fun i hi => by rw [hc i hi, hg i hi]⟩
/-- what a make lays -/
theorem Row.made {g base : Nat} {e : TypeId} {size n cap : Nat} {z : Array Value} (h : w.ownsRow base e size (.slice (some ⟨g, 0, none⟩) n cap) n (madeCells z (n * size)).toList) : Row w g (fun i => z[i % z.size]!) (n * size) := by
  rcases h.2 with ⟨hv, _⟩ | ⟨g', cap', cur, hv, _, hg, _, _, _, ht⟩
  · cases hv
  · cases hv
    refine ⟨cur, e, hg, fun i hi => ?_⟩
    have h1 : cur.toList[i]? = (madeCells z (n * size)).toList[i]? := by rw [← ht, List.getElem?_take, if_pos hi]
    rw [Array.getElem?_toList, Array.getElem?_toList] at h1
    rw [h1]
    simp [madeCells, hi]
theorem Row.made1 {g base : Nat} {e : TypeId} {n cap : Nat} {z : Value} (h : w.ownsRow base e 1 (.slice (some ⟨g, 0, none⟩) n cap) n (madeCells #[z] n).toList) : Row w g (fun _ => z) n := by
  have h' : w.ownsRow base e 1 (.slice (some ⟨g, 0, none⟩) n cap) n (madeCells #[z] (n * 1)).toList := by rw [Nat.mul_one]; exact h
  have r := Row.made h'
  rw [Nat.mul_one] at r
  exact r.congr _ fun i hi => by show (#[z] : Array Value)[i % 1]! = z; rw [Nat.mod_one]; rfl
end
/-- the cells of a row of messages -/
def mf (nm : Nat → ByteArray) (l c : Nat → Int) (sv tx : Nat → ByteArray) (i : Nat) : Value :=
  if i % 5 = 0 then .string (nm (i / 5)) else if i % 5 = 1 then .int .i64 (l (i / 5)) else if i % 5 = 2 then .int .i64 (c (i / 5)) else if i % 5 = 3 then .string (sv (i / 5)) else .string (tx (i / 5))
/-- a row of n messages from the head of block b on -/
def MRow (w : World) (b n : Nat) (nm : Nat → ByteArray) (l c : Nat → Int) (sv tx : Nat → ByteArray) : Prop := Row w b (mf nm l c sv tx) (n * 5)
section
variable {w w' : World} {b n : Nat} {nm sv tx : Nat → ByteArray} {l c : Nat → Int}
theorem MRow.c0 (h : MRow w b n nm l c sv tx) (t : Nat) (ht : t < n) : w.cell? ⟨b, t * 5, none⟩ = some (.string (nm t)) := by
  rw [Row.cell h _ (by omega)]; unfold mf; rw [if_pos (by omega), show t * 5 / 5 = t by omega]
theorem MRow.c1 (h : MRow w b n nm l c sv tx) (t : Nat) (ht : t < n) : w.cell? ⟨b, t * 5 + 1, none⟩ = some (.int .i64 (l t)) := by
  rw [Row.cell h _ (by omega)]; unfold mf; rw [if_neg (by omega), if_pos (by omega), show (t * 5 + 1) / 5 = t by omega]
theorem MRow.c2 (h : MRow w b n nm l c sv tx) (t : Nat) (ht : t < n) : w.cell? ⟨b, t * 5 + 2, none⟩ = some (.int .i64 (c t)) := by
  rw [Row.cell h _ (by omega)]; unfold mf; rw [if_neg (by omega), if_neg (by omega), if_pos (by omega), show (t * 5 + 2) / 5 = t by omega]
theorem MRow.c3 (h : MRow w b n nm l c sv tx) (t : Nat) (ht : t < n) : w.cell? ⟨b, t * 5 + 3, none⟩ = some (.string (sv t)) := by
  rw [Row.cell h _ (by omega)]; unfold mf; rw [if_neg (by omega), if_neg (by omega), if_neg (by omega), if_pos (by omega), show (t * 5 + 3) / 5 = t by omega]
theorem MRow.c4 (h : MRow w b n nm l c sv tx) (t : Nat) (ht : t < n) : w.cell? ⟨b, t * 5 + 4, none⟩ = some (.string (tx t)) := by
  rw [Row.cell h _ (by omega)]; unfold mf; rw [if_neg (by omega), if_neg (by omega), if_neg (by omega), if_neg (by omega), show (t * 5 + 4) / 5 = t by omega]
/-- a message stored at k -/
theorem MRow.store (h : MRow w b n nm l c sv tx) (k : Nat) (hk : k < n) (s0 : ByteArray) (x y : Int) (s3 s4 : ByteArray) :
    MRow (((((w.setCell ⟨b, k * 5, none⟩ (.string s0)).setCell ⟨b, k * 5 + 1, none⟩ (.int .i64 x)).setCell ⟨b, k * 5 + 2, none⟩ (.int .i64 y)).setCell ⟨b, k * 5 + 3, none⟩ (.string s3)).setCell ⟨b, k * 5 + 4, none⟩ (.string s4)) b n
      (upd nm k s0) (upd l k x) (upd c k y) (upd sv k s3) (upd tx k s4) := by
  have r := ((((Row.set h (k * 5) (.string s0) (by omega)).set (k * 5 + 1) (.int .i64 x) (by omega)).set (k * 5 + 2) (.int .i64 y) (by omega)).set (k * 5 + 3) (.string s3) (by omega)).set (k * 5 + 4) (.string s4) (by omega)
  refine Row.congr r _ fun i hi => ?_
  unfold upd mf
  by_cases e : i / 5 = k
  · rcases (show i = k * 5 ∨ i = k * 5 + 1 ∨ i = k * 5 + 2 ∨ i = k * 5 + 3 ∨ i = k * 5 + 4 by omega) with h | h | h | h | h
    · subst h
      rw [if_neg (by omega), if_neg (by omega), if_neg (by omega), if_neg (by omega), if_pos rfl, if_pos (by omega)]; simp [e]
    · subst h
      rw [if_neg (by omega), if_neg (by omega), if_neg (by omega), if_pos rfl, if_neg (show ¬ (k * 5 + 1) % 5 = 0 by omega), if_pos (show (k * 5 + 1) % 5 = 1 by omega)]; simp [e]
    · subst h
      rw [if_neg (by omega), if_neg (by omega), if_pos rfl, if_neg (show ¬ (k * 5 + 2) % 5 = 0 by omega), if_neg (show ¬ (k * 5 + 2) % 5 = 1 by omega), if_pos (show (k * 5 + 2) % 5 = 2 by omega)]; simp [e]
    · subst h
      rw [if_neg (by omega), if_pos rfl, if_neg (show ¬ (k * 5 + 3) % 5 = 0 by omega), if_neg (show ¬ (k * 5 + 3) % 5 = 1 by omega), if_neg (show ¬ (k * 5 + 3) % 5 = 2 by omega), if_pos (show (k * 5 + 3) % 5 = 3 by omega)]; simp [e]
    · subst h
      rw [if_pos rfl, if_neg (show ¬ (k * 5 + 4) % 5 = 0 by omega), if_neg (show ¬ (k * 5 + 4) % 5 = 1 by omega), if_neg (show ¬ (k * 5 + 4) % 5 = 2 by omega), if_neg (show ¬ (k * 5 + 4) % 5 = 3 by omega)]; simp [e]
  · rw [if_neg (by omega), if_neg (by omega), if_neg (by omega), if_neg (by omega), if_neg (by omega)]; simp [e]
/-- n zero messages, as a make lays them -/
theorem MRow.zero {g base : Nat} {e : TypeId} {cap : Nat} (h : w.ownsRow base e 5 (.slice (some ⟨g, 0, none⟩) n cap) n (madeCells (Value.agg #[.string ⟨#[]⟩, .int .i64 0, .int .i64 0, .string ⟨#[]⟩, .string ⟨#[]⟩]).cells (n * 5)).toList) :
    MRow w g n (fun _ => ⟨#[]⟩) (fun _ => 0) (fun _ => 0) (fun _ => ⟨#[]⟩) (fun _ => ⟨#[]⟩) := by
  refine Row.congr (Row.made h) _ fun i hi => ?_
  unfold mf
  have e5 : (Value.agg #[.string ⟨#[]⟩, .int .i64 0, .int .i64 0, .string ⟨#[]⟩, .string ⟨#[]⟩]).cells = #[.string ⟨#[]⟩, .int .i64 0, .int .i64 0, .string ⟨#[]⟩, .string ⟨#[]⟩] := rfl
  rw [e5]
  show (#[.string ⟨#[]⟩, .int .i64 0, .int .i64 0, .string ⟨#[]⟩, .string ⟨#[]⟩] : Array Value)[i % 5]! = _
  rcases (show i % 5 = 0 ∨ i % 5 = 1 ∨ i % 5 = 2 ∨ i % 5 = 3 ∨ i % 5 = 4 by omega) with h | h | h | h | h <;> simp [h]
end
end Go.Proofs.Qxb6616171a
