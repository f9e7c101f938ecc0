/-
  SEAT b6616171a: 'zzc := make([]T, len(x)); copy(zzc, x)': A COPY OF A SLICE IN A ROW OF THE CALL's OWN.
-/
import Derived.Test.Qxb6616171aBytes
import Derived.Laws.CopyOwn
import Derived.Deep.DeepCutAuto
import Derived.OwnWalk
namespace Go.Proofs.Qxb6616171a
open Go.RowKit
theorem SStr.below {w w' : World} {a : Option Addr} {n : Nat} {f : Nat → ByteArray} (h : SStr w a n f) (hb : Below w.heap.size w w') : SStr w' a n f := by
  intro t ht
  obtain ⟨b, o, rfl, hc⟩ := h t ht
  exact ⟨b, o, rfl, (hb.cell (p := ⟨b, o + t, none⟩) (World.block_lt_of_cell? w _ hc)).trans hc⟩
theorem SInt.below {w w' : World} {a : Option Addr} {n : Nat} {f : Nat → Int} (h : SInt w a n f) (hb : Below w.heap.size w w') : SInt w' a n f := by
  intro t ht
  obtain ⟨b, o, rfl, hc⟩ := h t ht
  exact ⟨b, o, rfl, (hb.cell (p := ⟨b, o + t, none⟩) (World.block_lt_of_cell? w _ hc)).trans hc⟩
/-- the same for whatever values: a slice of n elements of one cell each -/
def SVal (w : World) (a : Option Addr) (n : Nat) (f : Nat → Value) : Prop := ∀ t, t < n → ∃ b o, a = some ⟨b, o, none⟩ ∧ w.cell? ⟨b, o + t, none⟩ = some (f t)
theorem SVal.grown {w w' : World} {a : Option Addr} {n : Nat} {f : Nat → Value} (h : SVal w a n f) (hg : w.grownBy w' none) : SVal w' a n f := by
  intro t ht
  obtain ⟨b, o, rfl, hc⟩ := h t ht
  exact ⟨b, o, rfl, hg.cell hc (by simp)⟩
theorem SVal.below {w w' : World} {a : Option Addr} {n : Nat} {f : Nat → Value} (h : SVal w a n f) (hb : Below w.heap.size w w') : SVal w' a n f := by
  intro t ht
  obtain ⟨b, o, rfl, hc⟩ := h t ht
  exact ⟨b, o, rfl, (hb.cell (p := ⟨b, o + t, none⟩) (World.block_lt_of_cell? w _ hc)).trans hc⟩
theorem SVal.part {w : World} {a : Option Addr} {n k : Nat} {f : Nat → Value} (h : SVal w a n f) (hk : k ≤ n) : SVal w a k f := fun t ht => h t (Nat.lt_of_lt_of_le ht hk)
/-- what a copy leaves: a value of n elements, f, in a world in which all that was there stands -/
def Cpy (W wc : World) (v : Value) (n : Nat) (f : Nat → Value) : Prop := ∃ a cp, v = .slice a n cp ∧ n ≤ cp ∧ (a = none → n = 0 ∧ cp = 0) ∧ SVal wc a n f ∧ Below W.heap.size W wc
theorem Cpy.nil {W : World} {f : Nat → Value} : Cpy W W (.slice none 0 0) 0 f := ⟨none, 0, rfl, Nat.le_refl _, fun _ => ⟨rfl, rfl⟩, fun _ ht => absurd ht (Nat.not_lt_zero _), Below.refl _ _⟩
theorem Cpy.row {W wc : World} {n : Nat} {f : Nat → Value} {g : Nat} (h : Row wc g f n) (hb : Below W.heap.size W wc) : Cpy W wc (.slice (some ⟨g, 0, none⟩) n n) n f :=
  ⟨some ⟨g, 0, none⟩, n, rfl, Nat.le_refl _, (fun e => by cases e), (fun t ht => ⟨g, 0, rfl, by rw [Nat.zero_add]; exact h.cell t ht⟩), hb⟩
theorem wpList_copy_all {P : Program} {w : World} {ops : Array Oper} {rest : List Oper} {o : Oper} {a : Act} {Q : Exit → Act → World → Prop} (hgd : o.guard = none) (d s : Operand) (dT sT : TypeId)
    (ho : o.op = .call { callee := .builtin .copy, args := #[d, s], argTypes := #[dT, sT] }) (elem : TypeId) (hu : P.underlying dT = some (.slice elem)) (hsz : (P.info? elem).map (·.size) = some 1)
    (sp : Option Addr) (n cap : Nat) (g base : Nat) (xs : List Value) (hd : a.eval d = .slice (some ⟨g, 0, none⟩) n n) (hs : a.eval s = .slice sp n cap)
    (hown : w.ownsRow base elem 1 (.slice (some ⟨g, 0, none⟩) n n) n xs) (f : Nat → Value) (hf : ∀ t, (f t).oneCell' = true) (hsrc : SVal w sp n f)
    (h : ∀ w', Row w' g f n → Below g w w' → wpList P ops Q rest (a.put o.dst (goInt n)) w') : wpList P ops Q (o :: rest) a w := by
  rcases hown.2 with ⟨hv, _⟩ | ⟨g', cap', cur, hv, _, hg, _, _, hcs, _⟩
  · cases hv
  · cases hv
    have hcs' : cur.size = n := by simpa using hcs
    have hl : ((List.range n).map f).length = n := by simp
    refine wpList_copy_splice hgd d s dT sT ho elem hu hsz _ sp n n n cap hd hs g 0 cur.toList elem (by simpa using hg) ((List.range n).map f) (by simp) ?_ (by simp [hcs']) ?_ g w (Below.refl _ _) (Nat.le_refl _) ?_
    · intro hp
      rw [hl] at hp
      refine ⟨rfl, ?_⟩
      obtain ⟨b, o', rfl, _⟩ := hsrc 0 hp
      refine ⟨⟨b, o', none⟩, rfl, fun j v hj => ?_⟩
      have hj' : j < n := by have := (List.getElem?_eq_some_iff.1 hj).1; rwa [hl] at this
      obtain ⟨b2, o2, e, hc⟩ := hsrc j hj'
      simp only [Option.some.injEq, Addr.mk.injEq, and_true] at e
      obtain ⟨rfl, rfl⟩ := e
      rw [Addr.add_lit, hc]
      simpa [hj'] using hj
    · intro v hv
      obtain ⟨i, _, rfl⟩ := List.mem_map.1 hv
      exact hf i
    · intro w' hw hb
      rw [hl]
      refine h w' ⟨_, _, hw.out, fun i hi => ?_⟩ hb
      show (cur.toList.take 0 ++ ((List.range n).map f ++ cur.toList.drop (0 + ((List.range n).map f).length))).toArray[i]? = some (f i)
      rw [List.getElem?_toArray, List.take_zero, List.nil_append, List.getElem?_append_left (by rw [hl]; exact hi)]
      simp [hi]
end Go.Proofs.Qxb6616171a
