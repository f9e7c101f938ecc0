/-
  SEAT b6616123aD: LAWS OF NO PROGRAM: 'append' WITH ROOM onto a row whose block bears whatever type's number ('var b [20]byte; append(b[:0], ..)': the block is an array's), of a slice's cells or of a string's bytes.
-/
import Derived.Deep.AppendSrc
import Derived.OwnWalk
import Derived.WalkKit
import Derived.Lib.AppendIntMem
namespace Go.Proofs.Qxb6616123aDoor
open Go.RowKit
section
variable {P : Program} (w : World)
theorem run_append_room_tag (t tx ty e T : TypeId) (i : TypeInfo) (ht : P.underlying t = some (.slice e)) (hi : P.info? e = some i)
    (g sLen sCap : Nat) (cur : Array Value) (hg : w.heap[g]? = some (.cells cur T (0, 0)))
    (x : Value) (m : Nat) (news : List Value) (hs : Src P i.size tx x m news w)
    (hroom : sLen + m ≤ sCap) (hfit : sLen * i.size + news.length ≤ cur.size) :
    (Builtin.append_ #[t, tx] ty #[.slice (some ⟨g, 0, none⟩) sLen sCap, x]).run P w =
      .ok (.slice (some ⟨g, 0, none⟩) (sLen + m) sCap) (w.setRow g (cur.toList.take (sLen * i.size) ++ news ++ cur.toList.drop (sLen * i.size + news.length)).toArray) := by
  have hst := run_storeCells_at P g (sLen * i.size) T news 0 cur w hg (by simpa using hfit) hs.one
  simp only [Nat.add_zero] at hst
  rcases hs.kind with ⟨e', hk⟩ | hk <;> simp [Builtin.append_, run_underlying ht, run_underlying hk, sizeOf, typeInfo, hi, hs.len, hroom, hs.cells, Addr.add_lit, hst]

theorem run_append_fits_tag (base : Nat) (t tx ty e T : TypeId) (i : TypeInfo) (size : Nat) (ht : P.underlying t = some (.slice e)) (hi : P.info? e = some i) (hsize : i.size = size)
    (g n cap : Nat) (xs : List Value) (hown : w.ownsRow base T size (.slice (some ⟨g, 0, none⟩) n cap) n xs)
    (x : Value) (m : Nat) (news : List Value) (hs : Src P size tx x m news w)
    (hroom : n + m ≤ cap) :
    ∃ w', (Builtin.append_ #[t, tx] ty #[.slice (some ⟨g, 0, none⟩) n cap, x]).run P w = .ok (.slice (some ⟨g, 0, none⟩) (n + m) cap) w' ∧
      w'.ownsRow base T size (.slice (some ⟨g, 0, none⟩) (n + m) cap) (n + m) (xs ++ news) ∧ w.grownBy w' (some g) := by
  subst hsize
  have hl := hs.newsLen
  have hlen : (xs ++ news).length = (n + m) * i.size := by rw [List.length_append, hown.1, hl, Nat.add_mul]
  rcases hown.2 with ⟨h, _⟩ | ⟨g', cap', cur, h, hbg, hg, hnc, hcm, hcs, htake⟩
  · simp at h
  · simp only [Value.slice.injEq, Option.some.injEq, Addr.mk.injEq, and_true, true_and] at h
    obtain ⟨rfl, rfl⟩ := h
    have hfit : n * i.size + news.length ≤ cur.size := by rw [hl, hcs, ← Nat.add_mul]; exact Nat.mul_le_mul_right _ hroom
    have hr := run_append_room_tag (P := P) w t tx ty e T i ht hi g n cap cur hg x m news hs hroom hfit
    refine ⟨_, hr, ⟨hlen, .inr ⟨g, cap, _, rfl, hbg, setRow_heap w g cur _ T _ hg, hroom, hcm, ?_, ?_⟩⟩, ⟨rfl, rfl, rfl, by simp [World.setRow], fun k _ hk => setRow_other w g k _ (fun e => hk (by simp [e]))⟩⟩
    · simp only [List.size_toArray, List.length_append, List.length_take, List.length_drop, Array.length_toList]
      omega
    · rw [htake, ← hlen]
      exact List.take_left

theorem wpList_append_fits_tag {ops : Array Oper} {rest : List Oper} {o : Oper} {a : Act} {Q : Exit → Act → World → Prop}
    (hgd : o.guard = none) (s x : Operand) (t tx : TypeId) (hop : o.op = Op.call { callee := Callee.builtin Builtin.append, args := #[s, x], argTypes := #[t, tx] })
    (base : Nat) (e T : TypeId) (i : TypeInfo) (size : Nat) (h1 : P.underlying t = some (.slice e)) (h2 : P.info? e = some i) (h4 : i.size = size)
    (g k cap : Nat) (xs : List Value) (hs : a.eval s = .slice (some ⟨g, 0, none⟩) k cap) (hown : w.ownsRow base T size (.slice (some ⟨g, 0, none⟩) k cap) k xs)
    (xv : Value) (m : Nat) (news : List Value) (hx : a.eval x = xv) (hsrc : Src P size tx xv m news w) (b1 : k + m ≤ cap)
    (hK : ∀ w', w'.ownsRow base T size (.slice (some ⟨g, 0, none⟩) (k + m) cap) (k + m) (xs ++ news) → w.grownBy w' (some g) → wpList P ops Q rest (a.put o.dst (.slice (some ⟨g, 0, none⟩) (k + m) cap)) w') :
    wpList P ops Q (o :: rest) a w := by
  refine wpList_plain hgd fun K hK' => ?_
  obtain ⟨w', hrun, r1, r2⟩ := run_append_fits_tag (P := P) w base t tx o.type e T i size h1 h2 h4 g k cap xs hown xv m news hsrc b1
  unfold Oper.wp
  simp [execOp, hop, resolve, invoke, builtin, hs, hx, hrun, Result.andThen]
  exact hK' _ _ (hK w' r1 r2)
end
end Go.Proofs.Qxb6616123aDoor
