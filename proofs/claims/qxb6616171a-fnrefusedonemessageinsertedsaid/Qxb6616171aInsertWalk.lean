/-
  SEAT b6616171a: THE WALK OF FnRefusedOneMessageInserted (function 5).
-/
import Derived.Test.Qxb6616171aBytes12
import Derived.Test.Qxb6616171aCopy
import Derived.Test.Qxb6616171aInsert
import Derived.Test.Qxb6616171aRefused
namespace Go.Proofs.Qxb6616171a
open Go.RowKit
theorem anyB_congr {f g : Nat → Bool} {a m : Nat} (h : ∀ i, i < m → f (a + i) = g (a + i)) : anyB f a m = anyB g a m := by
  induction m with
  | zero => rfl
  | succ m ih => rw [anyB_succ, anyB_succ, ih (fun i hi => h i (by omega)), h m (by omega)]
theorem anyB_shift {f g : Nat → Bool} {a m : Nat} (h : ∀ i, i < m → f (a + i + 1) = g (a + i)) : anyB f (a + 1) m = anyB g a m := by
  induction m with
  | zero => rfl
  | succ m ih => rw [anyB_succ, anyB_succ, ih (fun i hi => h i (by omega)), show a + 1 + m = a + m + 1 by omega, h m (by omega)]
/-- an insertion from s on -/
theorem any_ins_ge (sv : Nat → ByteArray) (p s n : Nat) (x : ByteArray) (h1 : s ≤ p) (h2 : p ≤ n) :
    anyB (fun t => errB (ins sv p x t)) s (n + 1 - s) = (anyB (fun t => errB (sv t)) s (n - s) || errB x) := by
  have e1 : n + 1 - s = p - s + (1 + (n - p)) := by omega
  have e2 : n - s = p - s + (n - p) := by omega
  rw [e1, anyB_split _ _ _ _ h1, anyB_add, e2, anyB_split _ _ _ _ h1]
  have a1 : anyB (fun t => errB (ins sv p x t)) s (p - s) = anyB (fun t => errB (sv t)) s (p - s) := anyB_congr fun i hi => by show errB (ins sv p x (s + i)) = _; rw [ins_lt _ _ _ _ (by omega)]
  have a2 : anyB (fun t => errB (ins sv p x t)) p 1 = errB x := by
    rw [show (1 : Nat) = 0 + 1 from rfl, anyB_succ]
    show (anyB _ p 0 || errB (ins sv p x (p + 0))) = errB x
    rw [Nat.add_zero, ins_eq]
    rfl
  have a3 : anyB (fun t => errB (ins sv p x t)) (p + 1) (n - p) = anyB (fun t => errB (sv t)) p (n - p) := anyB_shift fun i hi => by show errB (ins sv p x (p + i + 1)) = _; rw [ins_gt _ _ _ _ (by omega)]
  rw [a1, a2, a3, Bool.or_assoc, Bool.or_comm (errB x)]
/-- an insertion ahead of s -/
theorem any_ins_lt (sv : Nat → ByteArray) (p s n : Nat) (x : ByteArray) (h1 : p < s) :
    anyB (fun t => errB (ins sv p x t)) (s + 1) (n + 1 - (s + 1)) = anyB (fun t => errB (sv t)) s (n - s) := by
  rw [show n + 1 - (s + 1) = n - s by omega]
  exact anyB_shift fun i hi => by show errB (ins sv p x (s + i + 1)) = _; rw [ins_gt _ _ _ _ (by omega)]
theorem szz3 : (Try.prog.info? 3).map (·.size) = some 1 := by kernel_rfl
theorem szz9 : (Try.prog.info? 9).map (·.size) = some 1 := by kernel_rfl
set_option maxHeartbeats 3200000 in
set_option maxRecDepth 100000 in
theorem insert5 (a0 a1 a2 a3 a4 : Option Addr) (n0 n1 n2 n3 n4 c0 c1 c2 c3 c4 : Nat) (s p : Int) (mN : ByteArray) (mL mC : Int) (mS mT : ByteArray) (nm : Nat → ByteArray) (l c : Nat → Int) (sv tx : Nat → ByteArray) (w : World)
    (s0 : SStr w a0 n0 nm) (s1 : SInt w a1 n1 l) (s2 : SInt w a2 n2 c) (s3 : SStr w a3 n3 sv) (s4 : SStr w a4 n4 tx)
    (z0 : a0 = none → n0 = 0 ∧ c0 = 0) (z1 : a1 = none → n1 = 0 ∧ c1 = 0) (z2 : a2 = none → n2 = 0 ∧ c2 = 0) (z3 : a3 = none → n3 = 0 ∧ c3 = 0) (z4 : a4 = none → n4 = 0 ∧ c4 = 0) :
    Calls Try.prog 5 #[.slice a0 n0 c0, .slice a1 n1 c1, .slice a2 n2 c2, .slice a3 n3 c3, .slice a4 n4 c4, .int .i64 s, .int .i64 p, .string mN, .int .i64 mL, .int .i64 mC, .string mS, .string mT] w fun e w' => e = .returned (.bool true) ∧ Below w.heap.size w w' := by
  obtain ⟨i3, hi3, z30, z31, z32⟩ := info_parts ins3
  obtain ⟨i9, hi9, z90, z91, z92⟩ := info_parts ins9
  have S0 := Lib.hid s0
  have S1 := Lib.hid s1
  have S2 := Lib.hid s2
  have S3 := Lib.hid s3
  have S4 := Lib.hid s4
  have Z0 := Lib.hid z0
  have Z1 := Lib.hid z1
  have Z2 := Lib.hid z2
  have Z3 := Lib.hid z3
  have Z4 := Lib.hid z4
  clear s0 s1 s2 s3 s4 z0 z1 z2 z3 z4
  go_enter Try.func5, Try.ntmps5
  go_wp2_with fail
  refine (bytes12 _ _ _ _ _ _ _ _ _ _ _ _ _ _ _ _ _ _ _ _ _ _ nm sv tx _ (by exact S0.out) (by exact S3.out) (by exact S4.out)).mono ?_
  rintro e w' ⟨⟨ok, rfl, hok⟩, rfl⟩
  cases ok
  · go_wp2
    go_ret
    exact ⟨rfl, Below.refl _ _⟩
  have hsum := hok rfl
  clear hok
  -- the copy of argument 0
  go_upto_if 50 with fail
  go_cut [0, 25] (fun v _ wc => Cpy w' wc v n0 (fun t => .string (nm t)))
  case first =>
    as_aux_lemma =>
      cases a0 with
      | none =>
        obtain ⟨rfl, rfl⟩ := Z0.out rfl
        go_wp2
        go_meet
        case rel => exact Cpy.nil
      | some x =>
        go_wp2_with (first
          | (at_make; refine wpList_make_full _ rfl (.tmp 52) (.tmp 52) 29 rfl w'.heap.size 9 i9 _ 1 Try.underlying29 hi9 z90 z91 _ _ _ _ n0 rfl rfl rfl rfl (by rw [z92]; omega) (by unfold maxLen; omega) (Nat.le_refl _) ?_))
        intro w1 own1 gr1
        have HV := Lib.hid (SVal.grown (w := w') (f := fun t => .string (nm t)) S0.out gr1)
        have HO := Lib.hid own1
        have hb1 : Below w'.heap.size w' w1 := (Below.refl _ w').grown gr1 (Nat.le_refl _) (by simp)
        clear own1 gr1
        go_wp2_with (refine wpList_copy_all rfl (.tmp 54) (.tmp 55) 29 29 rfl 9 Try.underlying29 szz9 _ n0 _ w'.heap.size _ _ rfl rfl HO.out _ (fun _ => rfl) HV.out ?_)
        intro w2 hr hb2
        go_wp2
        go_meet
        case rel => exact Cpy.row hr (hb1.trans hb2)
  rename World => v0w
  obtain ⟨d0, p0, rfl, l0, y0, V0, x0⟩ := hcut
  have Y0 := Lib.hid y0
  have T0 := Lib.hid V0
  clear y0 V0
  have S1 := Lib.hid (SInt.below S1.out x0)
  have S2 := Lib.hid (SInt.below S2.out x0)
  have S3 := Lib.hid (SStr.below S3.out x0)
  have S4 := Lib.hid (SStr.below S4.out x0)
  have nx : Below w'.heap.size w' v0w := x0
  -- the copy of argument 1
  go_upto_if 59 with fail
  go_cut [1, 26] (fun v _ wc => Cpy v0w wc v n1 (fun t => .int .i64 (l t)))
  case first =>
    as_aux_lemma =>
      cases a1 with
      | none =>
        obtain ⟨rfl, rfl⟩ := Z1.out rfl
        go_wp2
        go_meet
        case rel => exact Cpy.nil
      | some x =>
        go_wp2_with (first
          | (at_make; refine wpList_make_full _ rfl (.tmp 61) (.tmp 61) 22 rfl v0w.heap.size 3 i3 _ 1 Try.underlying22 hi3 z30 z31 _ _ _ _ n1 rfl rfl rfl rfl (by rw [z32]; omega) (by unfold maxLen; omega) (Nat.le_refl _) ?_))
        intro w1 own1 gr1
        have HV := Lib.hid (SVal.grown (w := v0w) (f := fun t => .int .i64 (l t)) S1.out gr1)
        have HO := Lib.hid own1
        have hb1 : Below v0w.heap.size v0w w1 := (Below.refl _ v0w).grown gr1 (Nat.le_refl _) (by simp)
        clear own1 gr1
        go_wp2_with (refine wpList_copy_all rfl (.tmp 63) (.tmp 64) 22 22 rfl 3 Try.underlying22 szz3 _ n1 _ v0w.heap.size _ _ rfl rfl HO.out _ (fun _ => rfl) HV.out ?_)
        intro w2 hr hb2
        go_wp2
        go_meet
        case rel => exact Cpy.row hr (hb1.trans hb2)
  rename World => v1w
  obtain ⟨d1, p1, rfl, l1, y1, V1, x1⟩ := hcut
  have Y1 := Lib.hid y1
  have T1 := Lib.hid V1
  clear y1 V1
  have T0 := Lib.hid (SVal.below T0.out x1)
  have S2 := Lib.hid (SInt.below S2.out x1)
  have S3 := Lib.hid (SStr.below S3.out x1)
  have S4 := Lib.hid (SStr.below S4.out x1)
  have nx : Below w'.heap.size w' v1w := nx.trans (x1.mono nx.size)
  -- the copy of argument 2
  go_upto_if 68 with fail
  go_cut [2, 27] (fun v _ wc => Cpy v1w wc v n2 (fun t => .int .i64 (c t)))
  case first =>
    as_aux_lemma =>
      cases a2 with
      | none =>
        obtain ⟨rfl, rfl⟩ := Z2.out rfl
        go_wp2
        go_meet
        case rel => exact Cpy.nil
      | some x =>
        go_wp2_with (first
          | (at_make; refine wpList_make_full _ rfl (.tmp 70) (.tmp 70) 22 rfl v1w.heap.size 3 i3 _ 1 Try.underlying22 hi3 z30 z31 _ _ _ _ n2 rfl rfl rfl rfl (by rw [z32]; omega) (by unfold maxLen; omega) (Nat.le_refl _) ?_))
        intro w1 own1 gr1
        have HV := Lib.hid (SVal.grown (w := v1w) (f := fun t => .int .i64 (c t)) S2.out gr1)
        have HO := Lib.hid own1
        have hb1 : Below v1w.heap.size v1w w1 := (Below.refl _ v1w).grown gr1 (Nat.le_refl _) (by simp)
        clear own1 gr1
        go_wp2_with (refine wpList_copy_all rfl (.tmp 72) (.tmp 73) 22 22 rfl 3 Try.underlying22 szz3 _ n2 _ v1w.heap.size _ _ rfl rfl HO.out _ (fun _ => rfl) HV.out ?_)
        intro w2 hr hb2
        go_wp2
        go_meet
        case rel => exact Cpy.row hr (hb1.trans hb2)
  rename World => v2w
  obtain ⟨d2, p2, rfl, l2, y2, V2, x2⟩ := hcut
  have Y2 := Lib.hid y2
  have T2 := Lib.hid V2
  clear y2 V2
  have T0 := Lib.hid (SVal.below T0.out x2)
  have T1 := Lib.hid (SVal.below T1.out x2)
  have S3 := Lib.hid (SStr.below S3.out x2)
  have S4 := Lib.hid (SStr.below S4.out x2)
  have nx : Below w'.heap.size w' v2w := nx.trans (x2.mono nx.size)
  -- the copy of argument 3
  go_upto_if 77 with fail
  go_cut [3, 28] (fun v _ wc => Cpy v2w wc v n3 (fun t => .string (sv t)))
  case first =>
    as_aux_lemma =>
      cases a3 with
      | none =>
        obtain ⟨rfl, rfl⟩ := Z3.out rfl
        go_wp2
        go_meet
        case rel => exact Cpy.nil
      | some x =>
        go_wp2_with (first
          | (at_make; refine wpList_make_full _ rfl (.tmp 79) (.tmp 79) 29 rfl v2w.heap.size 9 i9 _ 1 Try.underlying29 hi9 z90 z91 _ _ _ _ n3 rfl rfl rfl rfl (by rw [z92]; omega) (by unfold maxLen; omega) (Nat.le_refl _) ?_))
        intro w1 own1 gr1
        have HV := Lib.hid (SVal.grown (w := v2w) (f := fun t => .string (sv t)) S3.out gr1)
        have HO := Lib.hid own1
        have hb1 : Below v2w.heap.size v2w w1 := (Below.refl _ v2w).grown gr1 (Nat.le_refl _) (by simp)
        clear own1 gr1
        go_wp2_with (refine wpList_copy_all rfl (.tmp 81) (.tmp 82) 29 29 rfl 9 Try.underlying29 szz9 _ n3 _ v2w.heap.size _ _ rfl rfl HO.out _ (fun _ => rfl) HV.out ?_)
        intro w2 hr hb2
        go_wp2
        go_meet
        case rel => exact Cpy.row hr (hb1.trans hb2)
  rename World => v3w
  obtain ⟨d3, p3, rfl, l3, y3, V3, x3⟩ := hcut
  have Y3 := Lib.hid y3
  have T3 := Lib.hid V3
  clear y3 V3
  have T0 := Lib.hid (SVal.below T0.out x3)
  have T1 := Lib.hid (SVal.below T1.out x3)
  have T2 := Lib.hid (SVal.below T2.out x3)
  have S4 := Lib.hid (SStr.below S4.out x3)
  have nx : Below w'.heap.size w' v3w := nx.trans (x3.mono nx.size)
  -- the copy of argument 4
  go_upto_if 86 with fail
  go_cut [4, 29] (fun v _ wc => Cpy v3w wc v n4 (fun t => .string (tx t)))
  case first =>
    as_aux_lemma =>
      cases a4 with
      | none =>
        obtain ⟨rfl, rfl⟩ := Z4.out rfl
        go_wp2
        go_meet
        case rel => exact Cpy.nil
      | some x =>
        go_wp2_with (first
          | (at_make; refine wpList_make_full _ rfl (.tmp 88) (.tmp 88) 29 rfl v3w.heap.size 9 i9 _ 1 Try.underlying29 hi9 z90 z91 _ _ _ _ n4 rfl rfl rfl rfl (by rw [z92]; omega) (by unfold maxLen; omega) (Nat.le_refl _) ?_))
        intro w1 own1 gr1
        have HV := Lib.hid (SVal.grown (w := v3w) (f := fun t => .string (tx t)) S4.out gr1)
        have HO := Lib.hid own1
        have hb1 : Below v3w.heap.size v3w w1 := (Below.refl _ v3w).grown gr1 (Nat.le_refl _) (by simp)
        clear own1 gr1
        go_wp2_with (refine wpList_copy_all rfl (.tmp 90) (.tmp 91) 29 29 rfl 9 Try.underlying29 szz9 _ n4 _ v3w.heap.size _ _ rfl rfl HO.out _ (fun _ => rfl) HV.out ?_)
        intro w2 hr hb2
        go_wp2
        go_meet
        case rel => exact Cpy.row hr (hb1.trans hb2)
  rename World => v4w
  obtain ⟨d4, p4, rfl, l4, y4, V4, x4⟩ := hcut
  have Y4 := Lib.hid y4
  have T4 := Lib.hid V4
  clear y4 V4
  have T0 := Lib.hid (SVal.below T0.out x4)
  have T1 := Lib.hid (SVal.below T1.out x4)
  have T2 := Lib.hid (SVal.below T2.out x4)
  have T3 := Lib.hid (SVal.below T3.out x4)
  have nx : Below w'.heap.size w' v4w := nx.trans (x4.mono nx.size)
  clear S0 S1 S2 S3 S4 Z0 Z1 Z2 Z3 Z4 x0 x1 x2 x3 x4
  go_wp2_with fail
  refine (msg9 _ _ _ _ _ _ _ _ _ _ _ _ _ _ _ nm sv tx _ (by omega) (by omega) (by omega) (by exact T0.out) (by exact T3.out) (by exact T4.out)).mono ?_
  rintro e wa ⟨⟨y0, ok, rfl⟩, rfl⟩
  cases ok
  · go_wp2
    go_ret
    exact ⟨rfl, nx⟩
  go_wp2_with fail
  refine (add13 _ _ _).mono ?_
  rintro e wa ⟨⟨y1, ok, rfl⟩, rfl⟩
  cases ok
  · go_wp2
    go_ret
    exact ⟨rfl, nx⟩
  go_wp2_with fail
  refine (add13 _ _ _).mono ?_
  rintro e wa ⟨⟨y2, ok, rfl⟩, rfl⟩
  cases ok
  · go_wp2
    go_ret
    exact ⟨rfl, nx⟩
  go_wp2_with fail
  refine (add13 _ _ _).mono ?_
  rintro e wa ⟨⟨y3, ok, rfl⟩, rfl⟩
  cases ok
  · go_wp2
    go_ret
    exact ⟨rfl, nx⟩
  by_cases e1 : n1 = n0
  case neg =>
    have b1 : ((n1 : Int) != (n0 : Int)) = true := by rw [bne_iff_ne]; omega
    go_wp2
    go_ret
    exact ⟨rfl, nx⟩
  subst e1
  by_cases e2 : n2 = n1
  case neg =>
    have b1 : ((n2 : Int) != (n1 : Int)) = true := by rw [bne_iff_ne]; omega
    go_wp2
    go_ret
    exact ⟨rfl, nx⟩
  subst e2
  by_cases e3 : n3 = n2
  case neg =>
    have b1 : ((n3 : Int) != (n2 : Int)) = true := by rw [bne_iff_ne]; omega
    go_wp2
    go_ret
    exact ⟨rfl, nx⟩
  subst e3
  by_cases e4 : n4 = n3
  case neg =>
    have b1 : ((n4 : Int) != (n3 : Int)) = true := by rw [bne_iff_ne]; omega
    go_wp2
    go_ret
    exact ⟨rfl, nx⟩
  subst e4
  by_cases g1 : s < 0
  · go_wp2
    go_ret
    exact ⟨rfl, nx⟩
  by_cases g2 : (n4 : Int) < s
  · go_wp2
    go_ret
    exact ⟨rfl, nx⟩
  by_cases g3 : p < 0
  · go_wp2
    go_ret
    exact ⟨rfl, nx⟩
  by_cases g4 : (n4 : Int) < p
  · go_wp2
    go_ret
    exact ⟨rfl, nx⟩
  obtain ⟨s', rfl⟩ := Int.eq_ofNat_of_zero_le (show 0 ≤ s by omega)
  obtain ⟨p', rfl⟩ := Int.eq_ofNat_of_zero_le (show 0 ≤ p by omega)
  have hsn : s' ≤ n4 := by omega
  have hpn : p' ≤ n4 := by omega
  have hn4 : n4 + 1 ≤ 1048576 := by omega
  clear g1 g2 g3 g4
  go_wp2_with fail
  refine (resolver10 _ _ _ _ _ _ _ _ _ _ _ nm l c sv tx _ (by omega) (by exact T0.out) (by exact T1.out) (by exact T2.out) (by exact T3.out) (by exact T4.out)).mono ?_
  rintro e w1 ⟨⟨R, M, rfl, hres⟩, hb1⟩
  have T0 := Lib.hid (SVal.below T0.out hb1)
  have T1 := Lib.hid (SVal.below T1.out hb1)
  have T2 := Lib.hid (SVal.below T2.out hb1)
  have T3 := Lib.hid (SVal.below T3.out hb1)
  have T4 := Lib.hid (SVal.below T4.out hb1)
  have nx := nx.trans (hb1.mono nx.size)
  clear hb1
  -- the five insertions
  go_wp2_with fail
  refine (insert14 _ _ _ p' mN nm _ (by omega) hpn (by exact T0.out)).mono ?_
  rintro e w2 ⟨⟨b0, rfl, I0⟩, hb2⟩
  have I0 := Lib.hid I0
  have T1 := Lib.hid (SVal.below T1.out hb2)
  have T2 := Lib.hid (SVal.below T2.out hb2)
  have T3 := Lib.hid (SVal.below T3.out hb2)
  have T4 := Lib.hid (SVal.below T4.out hb2)
  have hres := hres.below hb2
  have nx := nx.trans (hb2.mono nx.size)
  clear hb2 T0
  go_wp2_with fail
  refine (insert15 _ _ _ p' mL l _ (by omega) hpn (by exact T1.out)).mono ?_
  rintro e w3 ⟨⟨b1, rfl, I1⟩, hb3⟩
  have I1 := Lib.hid I1
  have I0 := Lib.hid (SVal.below I0.out hb3)
  have T2 := Lib.hid (SVal.below T2.out hb3)
  have T3 := Lib.hid (SVal.below T3.out hb3)
  have T4 := Lib.hid (SVal.below T4.out hb3)
  have hres := hres.below hb3
  have nx := nx.trans (hb3.mono nx.size)
  clear hb3 T1
  go_wp2_with fail
  refine (insert15 _ _ _ p' mC c _ (by omega) hpn (by exact T2.out)).mono ?_
  rintro e w4 ⟨⟨b2, rfl, I2⟩, hb4⟩
  have I2 := Lib.hid I2
  have I0 := Lib.hid (SVal.below I0.out hb4)
  have I1 := Lib.hid (SVal.below I1.out hb4)
  have T3 := Lib.hid (SVal.below T3.out hb4)
  have T4 := Lib.hid (SVal.below T4.out hb4)
  have hres := hres.below hb4
  have nx := nx.trans (hb4.mono nx.size)
  clear hb4 T2
  go_wp2_with fail
  refine (insert14 _ _ _ p' mS sv _ (by omega) hpn (by exact T3.out)).mono ?_
  rintro e w5 ⟨⟨b3, rfl, I3⟩, hb5⟩
  have I3 := Lib.hid I3
  have I0 := Lib.hid (SVal.below I0.out hb5)
  have I1 := Lib.hid (SVal.below I1.out hb5)
  have I2 := Lib.hid (SVal.below I2.out hb5)
  have T4 := Lib.hid (SVal.below T4.out hb5)
  have hres := hres.below hb5
  have nx := nx.trans (hb5.mono nx.size)
  clear hb5 T3
  go_wp2_with fail
  refine (insert14 _ _ _ p' mT tx _ (by omega) hpn (by exact T4.out)).mono ?_
  rintro e w6 ⟨⟨b4, rfl, I4⟩, hb6⟩
  have I4 := Lib.hid I4
  have I0 := Lib.hid (SVal.below I0.out hb6)
  have I1 := Lib.hid (SVal.below I1.out hb6)
  have I2 := Lib.hid (SVal.below I2.out hb6)
  have I3 := Lib.hid (SVal.below I3.out hb6)
  have hres := hres.below hb6
  have nx := nx.trans (hb6.mono nx.size)
  clear hb6 T4
  go_wp2_with fail
  refine (resolver10 _ _ _ _ _ _ _ _ _ _ _ (ins nm p' mN) (ins l p' mL) (ins c p' mC) (ins sv p' mS) (ins tx p' mT) _ hn4 (by exact I0.out) (by exact I1.out) (by exact I2.out) (by exact I3.out) (by exact I4.out)).mono ?_
  rintro e w7 ⟨⟨R2, M2, rfl, hres2⟩, hb7⟩
  have hres := hres.below hb7
  have nx := nx.trans (hb7.mono nx.size)
  clear hb7 I0 I1 I2 I3 I4
  rcases Nat.lt_or_ge p' s' with hlt | hge
  · as_aux_lemma =>
      go_wp2_with fail
      rw [show ((s' : Int) + 1) = ((s' + 1 : Nat) : Int) from by omega]
      refine (refused11 R2 M2 (n4 + 1) (s' + 1) (by omega) (by omega) _ (by exact hres2)).mono ?_
      rintro e w8 ⟨rfl, hb8⟩
      have hres := hres.below hb8
      have nx := nx.trans (hb8.mono nx.size)
      clear hb8
      rw [any_ins_lt sv p' s' n4 mS hlt]
      go_wp2_with fail
      refine (refused11 R M n4 s' (by omega) (by omega) _ (by exact hres)).mono ?_
      rintro e w9 ⟨rfl, hb9⟩
      have nx := nx.trans (hb9.mono nx.size)
      clear hb9
      generalize anyB (fun t => errB (sv t)) s' (n4 - s') = A
      cases A
      all_goals
        go_wp2
        go_ret
        exact ⟨rfl, nx⟩
  · as_aux_lemma =>
      go_wp2_with fail
      refine (refused11 R2 M2 (n4 + 1) s' (by omega) (by omega) _ (by exact hres2)).mono ?_
      rintro e w8 ⟨rfl, hb8⟩
      have hres := hres.below hb8
      have nx := nx.trans (hb8.mono nx.size)
      clear hb8
      rw [any_ins_ge sv p' s' n4 mS hge hpn]
      go_wp2_with fail
      refine (refused11 R M n4 s' (by omega) (by omega) _ (by exact hres)).mono ?_
      rintro e w9 ⟨rfl, hb9⟩
      have nx := nx.trans (hb9.mono nx.size)
      clear hb9
      generalize anyB (fun t => errB (sv t)) s' (n4 - s') = A
      cases hE : errB mS with
      | true =>
        have hq : (mS.toList == [101, 114, 114, 111, 114]) = true := hE
        clear hE
        cases A
        all_goals
          go_wp2
          go_ret
          exact ⟨rfl, nx⟩
      | false =>
        have hq : (mS.toList == [101, 114, 114, 111, 114]) = false := hE
        clear hE
        cases A
        all_goals
          go_wp2
          go_ret
          exact ⟨rfl, nx⟩
end Go.Proofs.Qxb6616171a
