/-
  SEAT b6616171a: (*resolver).refused (19) through slices.ContainsFunc (22), IndexFunc (25) and its closure (23), and the thin file (11).
-/
import Derived.Test.Qxb6616171aResolver
import Derived.Lib.Hide
namespace Go.Proofs.Qxb6616171a
open Go.RowKit
/-- is it the severity of an error? -/
def errB (s : ByteArray) : Bool := s.toList == [101, 114, 114, 111, 114]
/-- does f say yes somewhere from a on, among m? -/
def anyB (f : Nat → Bool) (a m : Nat) : Bool := (List.range m).any fun i => f (a + i)
theorem anyB_true {f : Nat → Bool} {a m : Nat} (i : Nat) (hi : i < m) (h : f (a + i) = true) : anyB f a m = true := by
  unfold anyB; rw [List.any_eq_true]; exact ⟨i, by simpa using hi, h⟩
theorem anyB_false {f : Nat → Bool} {a m : Nat} (h : ∀ i, i < m → f (a + i) = false) : anyB f a m = false := by
  unfold anyB; rw [List.any_eq_false]; intro i hi; rw [h i (by simpa using hi)]; simp
theorem anyB_succ (f : Nat → Bool) (a m : Nat) : anyB f a (m + 1) = (anyB f a m || f (a + m)) := by
  unfold anyB; rw [List.range_succ, List.any_append]; simp
theorem anyB_succ_true {f : Nat → Bool} {a m : Nat} (h : f (a + m) = true) : anyB f a (m + 1) = true := by rw [anyB_succ, h]; simp
theorem anyB_succ_false {f : Nat → Bool} {a m : Nat} (h : f (a + m) = false) : anyB f a (m + 1) = anyB f a m := by rw [anyB_succ, h]; simp
theorem anyB_add (f : Nat → Bool) (a m1 m2 : Nat) : anyB f a (m1 + m2) = (anyB f a m1 || anyB f (a + m1) m2) := by
  induction m2 with
  | zero => simp [anyB]
  | succ m ih => rw [← Nat.add_assoc, anyB_succ, ih, anyB_succ, Nat.add_assoc, Bool.or_assoc]
theorem anyB_split (f : Nat → Bool) (a b m2 : Nat) (h : a ≤ b) : anyB f a (b - a + m2) = (anyB f a (b - a) || anyB f b m2) := by
  rw [anyB_add, show a + (b - a) = b by omega]
set_option maxHeartbeats 400000 in
theorem closure23 (n0 s0 t0 : ByteArray) (l c : Int) (w : World) :
    Calls Try.prog 23 #[.agg #[.string n0, .int .i64 l, .int .i64 c, .string s0, .string t0]] w fun e w' => e = .returned (.bool (errB s0)) ∧ Below w.heap.size w w' := by
  go_enter Try.func23, Try.ntmps23
  go_wp2
  go_ret
  exact ⟨rfl, (Below.refl _ w).alloc (Nat.le_refl _) _⟩
/-- some integer, not negative just where b is true -/
def Fnd (b : Bool) (e : Ending) : Prop := ∃ r : Int, e = .returned (.int .i64 r) ∧ decide (0 ≤ r) = b
variable {nm sv tx : Nat → ByteArray} {l c : Nat → Int}
theorem MRow.at {w : World} {b n : Nat} (h : MRow w b n nm l c sv tx) (s k : Nat) (hk : s + k < n) :
    w.cell? ⟨b, s * 5 + k * 5, none⟩ = some (.string (nm (s + k))) ∧ w.cell? ⟨b, s * 5 + k * 5 + 1, none⟩ = some (.int .i64 (l (s + k))) ∧ w.cell? ⟨b, s * 5 + k * 5 + 2, none⟩ = some (.int .i64 (c (s + k))) ∧
      w.cell? ⟨b, s * 5 + k * 5 + 3, none⟩ = some (.string (sv (s + k))) ∧ w.cell? ⟨b, s * 5 + k * 5 + 4, none⟩ = some (.string (tx (s + k))) := by
  rw [← Nat.add_mul]
  exact ⟨h.c0 _ hk, h.c1 _ hk, h.c2 _ hk, h.c3 _ hk, h.c4 _ hk⟩
set_option maxHeartbeats 1600000 in
set_option maxRecDepth 100000 in
theorem index25 (M n s m cp : Nat) (w : World) (hn : n ≤ 1048577) (hsm : s + m ≤ n) (hm : MRow w M n nm l c sv tx) :
    Calls Try.prog 25 #[.slice (some ⟨M, s * 5, none⟩) m cp, .func (.func 23) #[] #[]] w fun e w' => Fnd (anyB (fun t => errB (sv t)) s m) e ∧ Below w.heap.size w w' := by
  have HM : Hid _ := hm
  clear hm
  go_enter Try.func25, Try.ntmps25
  go_wp2
  go_loopw [8] (fun i wr => ∃ k : Nat, k ≤ m ∧ i = .int .i64 k ∧ (∀ j, j < k → errB (sv (s + j)) = false) ∧ Below w.heap.size w wr) (fun i _ => m - (intOf i).toNat)
  case atStart => exact ⟨0, Nat.zero_le _, rfl, fun j hj => absurd hj (Nat.not_lt_zero _), Below.refl _ _⟩
  case round =>
    obtain ⟨k, hk, rfl, hno, hb⟩ := hrel
    have HN : Hid _ := hno
    clear hno
    by_cases hlt : k < m
    · obtain ⟨m0, m1, m2, m3, m4⟩ := MRow.at (Row.below HM.out hb (Row.lt HM.out)) s k (by omega)
      cases he : errB (sv (s + k)) with
      | true =>
        have hany := anyB_true (f := fun t => errB (sv t)) (a := s) (m := m) k hlt he
        have HA : Hid _ := hany
        clear hany
        go_wp2_with (go_at_call 23; refine (closure23 _ _ _ _ _ _).mono ?_; rintro e w2 ⟨rfl, hb2⟩)
        go_ret
        exact ⟨⟨_, rfl, by rw [HA.out]; simp⟩, hb.trans (hb2.mono hb.size)⟩
      | false =>
        go_wp2_with (go_at_call 23; refine (closure23 _ _ _ _ _ _).mono ?_; rintro e w2 ⟨rfl, hb2⟩)
        go_roundw
        case rel => exact ⟨k + 1, by omega, by go_num, fun j hj => by
          rcases Nat.lt_or_ge j k with h | h
          · exact HN.out j h
          · obtain rfl : j = k := by omega
            exact he, hb.trans (hb2.mono hb.size)⟩
        case measure => simp [intOf]; omega
    · obtain rfl : m = k := by omega
      have hany := anyB_false (f := fun t => errB (sv t)) HN.out
      have HA : Hid _ := hany
      clear hany
      go_wp2
      go_ret
      exact ⟨⟨_, rfl, by rw [HA.out]; rfl⟩, hb⟩

set_option maxHeartbeats 400000 in
theorem index25_none (a : Option Addr) (cp : Nat) (w : World) :
    Calls Try.prog 25 #[.slice a 0 cp, .func (.func 23) #[] #[]] w fun e w' => Fnd false e ∧ Below w.heap.size w w' := by
  go_enter Try.func25, Try.ntmps25
  go_wp2
  refine wp_loop_rounds 1 ?_
  rw [rounds_succ]
  go_wp2
  go_ret
  exact ⟨⟨_, rfl, rfl⟩, Below.refl _ _⟩
theorem contains22 (a : Option Addr) (m cp : Nat) (b : Bool) (w : World) (h : Calls Try.prog 25 #[.slice a m cp, .func (.func 23) #[] #[]] w fun e w' => Fnd b e ∧ Below w.heap.size w w') :
    Calls Try.prog 22 #[.slice a m cp, .func (.func 23) #[] #[]] w fun e w' => e = .returned (.bool b) ∧ Below w.heap.size w w' := by
  have H := Lib.hid h
  clear h
  go_enter Try.func22, Try.ntmps22
  go_wp2_with fail
  refine (H.out).mono ?_
  rintro e w2 ⟨⟨r, rfl, hr⟩, hb⟩
  go_wp2
  go_ret
  exact ⟨by rw [← hr]; rfl, hb⟩
set_option maxHeartbeats 400000 in
theorem refused19 (R M n s : Nat) (hs : s ≤ n) (hn : n ≤ 1048577) (w : World) (h : Res w R M n nm l c sv tx) :
    Calls Try.prog 19 #[.pointer (some ⟨R, 0, none⟩), .int .i64 s] w fun e w' => e = .returned (.bool (anyB (fun t => errB (sv t)) s (n - s))) ∧ Below w.heap.size w w' := by
  have hf := h.fld
  rcases Nat.lt_or_ge s n with hlt | hge
  · have H := Lib.hid (contains22 (some ⟨M, s * 5, none⟩) (n - s) (n - s) _ w (index25 M n s (n - s) (n - s) w hn (by omega) h.ms))
    go_enter Try.func19, Try.ntmps19
    go_wp2_with fail
    refine (H.out).mono ?_
    rintro e w2 ⟨rfl, hb⟩
    go_wp2
    go_ret
    exact ⟨rfl, hb⟩
  · obtain rfl : n = s := by omega
    have H : Hid _ := fun a cp => contains22 a 0 cp _ w (index25_none a cp w)
    have hz : anyB (fun t => errB (sv t)) n (n - n) = false := by rw [Nat.sub_self]; rfl
    rw [hz]
    clear hz
    go_enter Try.func19, Try.ntmps19
    go_wp2_with fail
    refine (H.out _ _).mono ?_
    rintro e w2 ⟨rfl, hb⟩
    go_wp2
    go_ret
    exact ⟨rfl, hb⟩
set_option maxHeartbeats 400000 in
theorem refused11 (R M n s : Nat) (hs : s ≤ n) (hn : n ≤ 1048577) (w : World) (h : Res w R M n nm l c sv tx) :
    Calls Try.prog 11 #[.pointer (some ⟨R, 0, none⟩), .int .i64 s] w fun e w' => e = .returned (.bool (anyB (fun t => errB (sv t)) s (n - s))) ∧ Below w.heap.size w w' := by
  have H := Lib.hid (refused19 R M n s hs hn w h)
  clear h
  go_enter Try.func11, Try.ntmps11
  go_wp2_with fail
  refine (H.out).mono ?_
  rintro e w2 ⟨rfl, hb⟩
  go_wp2
  go_ret
  exact ⟨rfl, hb⟩
end Go.Proofs.Qxb6616171a
