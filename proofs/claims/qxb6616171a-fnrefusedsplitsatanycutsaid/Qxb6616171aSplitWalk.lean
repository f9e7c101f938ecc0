/-
  SEAT b6616171a: THE WALK OF FnRefusedSplitsAtAnyCut (function 4).
-/
import Derived.Test.Qxb6616171aBytes8
import Derived.Test.Qxb6616171aCopy
import Derived.Test.Qxb6616171aRefused
import Derived.Deep.RegionHeld3
namespace Go.Proofs.Qxb6616171a
open Go.RowKit
theorem inf3 : (Try.prog.info? 3).map (fun i => (i.zero, i.size, i.bytes)) = some (some (.int .i64 0), 1, 8) := by kernel_rfl
theorem inf9 : (Try.prog.info? 9).map (fun i => (i.zero, i.size, i.bytes)) = some (some (.string ⟨#[]⟩), 1, 16) := by kernel_rfl
theorem sz3 : (Try.prog.info? 3).map (·.size) = some 1 := by kernel_rfl
theorem sz9 : (Try.prog.info? 9).map (·.size) = some 1 := by kernel_rfl
theorem add_nought (a : Option Addr) : a.map (·.add 0) = a := by
  cases a with
  | none => rfl
  | some x => simp [Addr.add]
theorem cut29 (a : Option Addr) (n cp k : Nat) (hk : k ≤ cp) (W : World) : (Instr.sliceAt 29 (.slice a n cp) none (some (.int .i64 (k : Int))) none).run Try.prog W = .ok (.slice a k cp) W := by
  have ht : Try.prog.underlying 29 = some (.slice (Try.prog.elem 29)) := by simp [Program.elem, Try.underlying29]
  have he : Try.prog.elem 29 = 9 := by simp [Program.elem, Try.underlying29]
  rw [run_sliceAt_slice W 29 _ _ _ _ ht, run_slice_h W 29 a n cp ht .i64 (k : Int) (by omega) (by omega), he]
  simp [Try.sizeOf9, sliced, Result.andThen, add_nought]
theorem cut22 (a : Option Addr) (n cp k : Nat) (hk : k ≤ cp) (W : World) : (Instr.sliceAt 22 (.slice a n cp) none (some (.int .i64 (k : Int))) none).run Try.prog W = .ok (.slice a k cp) W := by
  have ht : Try.prog.underlying 22 = some (.slice (Try.prog.elem 22)) := by simp [Program.elem, Try.underlying22]
  have he : Try.prog.elem 22 = 3 := by simp [Program.elem, Try.underlying22]
  rw [run_sliceAt_slice W 22 _ _ _ _ ht, run_slice_h W 22 a n cp ht .i64 (k : Int) (by omega) (by omega), he]
  simp [Try.sizeOf3, sliced, Result.andThen, add_nought]
set_option maxHeartbeats 3200000 in
set_option maxRecDepth 100000 in
theorem split4 (a0 a1 a2 a3 a4 : Option Addr) (n0 n1 n2 n3 n4 c0 c1 c2 c3 c4 : Nat) (s k : Int) (nm : Nat → ByteArray) (l c : Nat → Int) (sv tx : Nat → ByteArray) (w : World)
    (s0 : SStr w a0 n0 nm) (s1 : SInt w a1 n1 l) (s2 : SInt w a2 n2 c) (s3 : SStr w a3 n3 sv) (s4 : SStr w a4 n4 tx)
    (z0 : a0 = none → n0 = 0 ∧ c0 = 0) (z1 : a1 = none → n1 = 0 ∧ c1 = 0) (z2 : a2 = none → n2 = 0 ∧ c2 = 0) (z3 : a3 = none → n3 = 0 ∧ c3 = 0) (z4 : a4 = none → n4 = 0 ∧ c4 = 0) :
    Calls Try.prog 4 #[.slice a0 n0 c0, .slice a1 n1 c1, .slice a2 n2 c2, .slice a3 n3 c3, .slice a4 n4 c4, .int .i64 s, .int .i64 k] w fun e w' => e = .returned (.bool true) ∧ Below w.heap.size w w' := by
  obtain ⟨i3, hi3, z30, z31, z32⟩ := info_parts inf3
  obtain ⟨i9, hi9, z90, z91, z92⟩ := info_parts inf9
  have S0 := Lib.hid s0
  have S1 := Lib.hid s1
  have S2 := Lib.hid s2
  have S3 := Lib.hid s3
  have S4 := Lib.hid s4
  have Z0 := Lib.hid z0
  have Z1 := Lib.hid z1
  have Z2 := Lib.hid z2
  have Z3 := Lib.hid z3
  have Z4 := Lib.hid z4
  clear s0 s1 s2 s3 s4 z0 z1 z2 z3 z4
  go_enter Try.func4, Try.ntmps4
  go_wp2_with fail
  refine (bytes8 _ _ _ _ _ _ _ _ _ _ _ _ _ _ _ _ _ nm sv tx _ (by exact S0.out) (by exact S3.out) (by exact S4.out)).mono ?_
  rintro e w' ⟨⟨ok, rfl, hok⟩, rfl⟩
  cases ok
  · go_wp2
    go_ret
    exact ⟨rfl, Below.refl _ _⟩
  obtain ⟨h0, h1, h2, h3, h4⟩ := hok rfl
  clear hok
  go_wp2_with fail
  refine (msg9 _ _ _ _ _ _ _ _ _ _ _ _ _ _ _ nm sv tx _ h0 h3 h4 (by exact S0.out) (by exact S3.out) (by exact S4.out)).mono ?_
  rintro e w' ⟨⟨y, ok, rfl⟩, rfl⟩
  cases ok
  · go_wp2
    go_ret
    exact ⟨rfl, Below.refl _ _⟩
  -- the copy of argument 0
  go_upto_if 51 with fail
  go_cut [0, 17] (fun v _ wc => Cpy w' wc v n0 (fun t => .string (nm t)))
  case first =>
    as_aux_lemma =>
      cases a0 with
      | none =>
        obtain ⟨rfl, rfl⟩ := Z0.out rfl
        go_wp2
        go_meet
        case rel => exact Cpy.nil
      | some x =>
        go_wp2_with (first
          | (at_make; refine wpList_make_full _ rfl (.tmp 53) (.tmp 53) 29 rfl w'.heap.size 9 i9 _ 1 Try.underlying29 hi9 z90 z91 _ _ _ _ n0 rfl rfl rfl rfl (by rw [z92]; omega) (by unfold maxLen; omega) (Nat.le_refl _) ?_))
        intro w1 own1 gr1
        have HV := Lib.hid (SVal.grown (w := w') (f := fun t => .string (nm t)) S0.out gr1)
        have HO := Lib.hid own1
        have hb1 : Below w'.heap.size w' w1 := (Below.refl _ w').grown gr1 (Nat.le_refl _) (by simp)
        clear own1 gr1
        go_wp2_with (refine wpList_copy_all rfl (.tmp 55) (.tmp 56) 29 29 rfl 9 Try.underlying29 sz9 _ n0 _ w'.heap.size _ _ rfl rfl HO.out _ (fun _ => rfl) HV.out ?_)
        intro w2 hr hb2
        go_wp2
        go_meet
        case rel => exact Cpy.row hr (hb1.trans hb2)
  rename World => v0w
  obtain ⟨d0, p0, rfl, l0, y0, V0, x0⟩ := hcut
  have Y0 := Lib.hid y0
  have T0 := Lib.hid V0
  clear y0 V0
  have S1 := Lib.hid (SInt.below S1.out x0)
  have S2 := Lib.hid (SInt.below S2.out x0)
  have S3 := Lib.hid (SStr.below S3.out x0)
  have S4 := Lib.hid (SStr.below S4.out x0)
  have nx : Below w'.heap.size w' v0w := x0
  -- the copy of argument 1
  go_upto_if 60 with fail
  go_cut [1, 18] (fun v _ wc => Cpy v0w wc v n1 (fun t => .int .i64 (l t)))
  case first =>
    as_aux_lemma =>
      cases a1 with
      | none =>
        obtain ⟨rfl, rfl⟩ := Z1.out rfl
        go_wp2
        go_meet
        case rel => exact Cpy.nil
      | some x =>
        go_wp2_with (first
          | (at_make; refine wpList_make_full _ rfl (.tmp 62) (.tmp 62) 22 rfl v0w.heap.size 3 i3 _ 1 Try.underlying22 hi3 z30 z31 _ _ _ _ n1 rfl rfl rfl rfl (by rw [z32]; omega) (by unfold maxLen; omega) (Nat.le_refl _) ?_))
        intro w1 own1 gr1
        have HV := Lib.hid (SVal.grown (w := v0w) (f := fun t => .int .i64 (l t)) S1.out gr1)
        have HO := Lib.hid own1
        have hb1 : Below v0w.heap.size v0w w1 := (Below.refl _ v0w).grown gr1 (Nat.le_refl _) (by simp)
        clear own1 gr1
        go_wp2_with (refine wpList_copy_all rfl (.tmp 64) (.tmp 65) 22 22 rfl 3 Try.underlying22 sz3 _ n1 _ v0w.heap.size _ _ rfl rfl HO.out _ (fun _ => rfl) HV.out ?_)
        intro w2 hr hb2
        go_wp2
        go_meet
        case rel => exact Cpy.row hr (hb1.trans hb2)
  rename World => v1w
  obtain ⟨d1, p1, rfl, l1, y1, V1, x1⟩ := hcut
  have Y1 := Lib.hid y1
  have T1 := Lib.hid V1
  clear y1 V1
  have T0 := Lib.hid (SVal.below T0.out x1)
  have S2 := Lib.hid (SInt.below S2.out x1)
  have S3 := Lib.hid (SStr.below S3.out x1)
  have S4 := Lib.hid (SStr.below S4.out x1)
  have nx : Below w'.heap.size w' v1w := nx.trans (x1.mono nx.size)
  -- the copy of argument 2
  go_upto_if 69 with fail
  go_cut [2, 19] (fun v _ wc => Cpy v1w wc v n2 (fun t => .int .i64 (c t)))
  case first =>
    as_aux_lemma =>
      cases a2 with
      | none =>
        obtain ⟨rfl, rfl⟩ := Z2.out rfl
        go_wp2
        go_meet
        case rel => exact Cpy.nil
      | some x =>
        go_wp2_with (first
          | (at_make; refine wpList_make_full _ rfl (.tmp 71) (.tmp 71) 22 rfl v1w.heap.size 3 i3 _ 1 Try.underlying22 hi3 z30 z31 _ _ _ _ n2 rfl rfl rfl rfl (by rw [z32]; omega) (by unfold maxLen; omega) (Nat.le_refl _) ?_))
        intro w1 own1 gr1
        have HV := Lib.hid (SVal.grown (w := v1w) (f := fun t => .int .i64 (c t)) S2.out gr1)
        have HO := Lib.hid own1
        have hb1 : Below v1w.heap.size v1w w1 := (Below.refl _ v1w).grown gr1 (Nat.le_refl _) (by simp)
        clear own1 gr1
        go_wp2_with (refine wpList_copy_all rfl (.tmp 73) (.tmp 74) 22 22 rfl 3 Try.underlying22 sz3 _ n2 _ v1w.heap.size _ _ rfl rfl HO.out _ (fun _ => rfl) HV.out ?_)
        intro w2 hr hb2
        go_wp2
        go_meet
        case rel => exact Cpy.row hr (hb1.trans hb2)
  rename World => v2w
  obtain ⟨d2, p2, rfl, l2, y2, V2, x2⟩ := hcut
  have Y2 := Lib.hid y2
  have T2 := Lib.hid V2
  clear y2 V2
  have T0 := Lib.hid (SVal.below T0.out x2)
  have T1 := Lib.hid (SVal.below T1.out x2)
  have S3 := Lib.hid (SStr.below S3.out x2)
  have S4 := Lib.hid (SStr.below S4.out x2)
  have nx : Below w'.heap.size w' v2w := nx.trans (x2.mono nx.size)
  -- the copy of argument 3
  go_upto_if 78 with fail
  go_cut [3, 20] (fun v _ wc => Cpy v2w wc v n3 (fun t => .string (sv t)))
  case first =>
    as_aux_lemma =>
      cases a3 with
      | none =>
        obtain ⟨rfl, rfl⟩ := Z3.out rfl
        go_wp2
        go_meet
        case rel => exact Cpy.nil
      | some x =>
        go_wp2_with (first
          | (at_make; refine wpList_make_full _ rfl (.tmp 80) (.tmp 80) 29 rfl v2w.heap.size 9 i9 _ 1 Try.underlying29 hi9 z90 z91 _ _ _ _ n3 rfl rfl rfl rfl (by rw [z92]; omega) (by unfold maxLen; omega) (Nat.le_refl _) ?_))
        intro w1 own1 gr1
        have HV := Lib.hid (SVal.grown (w := v2w) (f := fun t => .string (sv t)) S3.out gr1)
        have HO := Lib.hid own1
        have hb1 : Below v2w.heap.size v2w w1 := (Below.refl _ v2w).grown gr1 (Nat.le_refl _) (by simp)
        clear own1 gr1
        go_wp2_with (refine wpList_copy_all rfl (.tmp 82) (.tmp 83) 29 29 rfl 9 Try.underlying29 sz9 _ n3 _ v2w.heap.size _ _ rfl rfl HO.out _ (fun _ => rfl) HV.out ?_)
        intro w2 hr hb2
        go_wp2
        go_meet
        case rel => exact Cpy.row hr (hb1.trans hb2)
  rename World => v3w
  obtain ⟨d3, p3, rfl, l3, y3, V3, x3⟩ := hcut
  have Y3 := Lib.hid y3
  have T3 := Lib.hid V3
  clear y3 V3
  have T0 := Lib.hid (SVal.below T0.out x3)
  have T1 := Lib.hid (SVal.below T1.out x3)
  have T2 := Lib.hid (SVal.below T2.out x3)
  have S4 := Lib.hid (SStr.below S4.out x3)
  have nx : Below w'.heap.size w' v3w := nx.trans (x3.mono nx.size)
  -- the copy of argument 4
  go_upto_if 87 with fail
  go_cut [4, 21] (fun v _ wc => Cpy v3w wc v n4 (fun t => .string (tx t)))
  case first =>
    as_aux_lemma =>
      cases a4 with
      | none =>
        obtain ⟨rfl, rfl⟩ := Z4.out rfl
        go_wp2
        go_meet
        case rel => exact Cpy.nil
      | some x =>
        go_wp2_with (first
          | (at_make; refine wpList_make_full _ rfl (.tmp 89) (.tmp 89) 29 rfl v3w.heap.size 9 i9 _ 1 Try.underlying29 hi9 z90 z91 _ _ _ _ n4 rfl rfl rfl rfl (by rw [z92]; omega) (by unfold maxLen; omega) (Nat.le_refl _) ?_))
        intro w1 own1 gr1
        have HV := Lib.hid (SVal.grown (w := v3w) (f := fun t => .string (tx t)) S4.out gr1)
        have HO := Lib.hid own1
        have hb1 : Below v3w.heap.size v3w w1 := (Below.refl _ v3w).grown gr1 (Nat.le_refl _) (by simp)
        clear own1 gr1
        go_wp2_with (refine wpList_copy_all rfl (.tmp 91) (.tmp 92) 29 29 rfl 9 Try.underlying29 sz9 _ n4 _ v3w.heap.size _ _ rfl rfl HO.out _ (fun _ => rfl) HV.out ?_)
        intro w2 hr hb2
        go_wp2
        go_meet
        case rel => exact Cpy.row hr (hb1.trans hb2)
  rename World => v4w
  obtain ⟨d4, p4, rfl, l4, y4, V4, x4⟩ := hcut
  have Y4 := Lib.hid y4
  have T4 := Lib.hid V4
  clear y4 V4
  have T0 := Lib.hid (SVal.below T0.out x4)
  have T1 := Lib.hid (SVal.below T1.out x4)
  have T2 := Lib.hid (SVal.below T2.out x4)
  have T3 := Lib.hid (SVal.below T3.out x4)
  have nx : Below w'.heap.size w' v4w := nx.trans (x4.mono nx.size)
  clear S0 S1 S2 S3 S4 Z0 Z1 Z2 Z3 Z4 x0 x1 x2 x3 x4
  by_cases e1 : n1 = n0
  case neg =>
    have b1 : ((n1 : Int) != (n0 : Int)) = true := by rw [bne_iff_ne]; omega
    go_wp2
    go_ret
    exact ⟨rfl, nx⟩
  subst e1
  by_cases e2 : n2 = n1
  case neg =>
    have b1 : ((n2 : Int) != (n1 : Int)) = true := by rw [bne_iff_ne]; omega
    go_wp2
    go_ret
    exact ⟨rfl, nx⟩
  subst e2
  by_cases e3 : n3 = n2
  case neg =>
    have b1 : ((n3 : Int) != (n2 : Int)) = true := by rw [bne_iff_ne]; omega
    go_wp2
    go_ret
    exact ⟨rfl, nx⟩
  subst e3
  by_cases e4 : n4 = n3
  case neg =>
    have b1 : ((n4 : Int) != (n3 : Int)) = true := by rw [bne_iff_ne]; omega
    go_wp2
    go_ret
    exact ⟨rfl, nx⟩
  subst e4
  by_cases g1 : s < 0
  · go_wp2
    go_ret
    exact ⟨rfl, nx⟩
  by_cases g2 : k < s
  · go_wp2
    go_ret
    exact ⟨rfl, nx⟩
  by_cases g3 : (n4 : Int) < k
  · go_wp2
    go_ret
    exact ⟨rfl, nx⟩
  obtain ⟨s', rfl⟩ := Int.eq_ofNat_of_zero_le (show 0 ≤ s by omega)
  obtain ⟨k', rfl⟩ := Int.eq_ofNat_of_zero_le (show 0 ≤ k by omega)
  have hsk : s' ≤ k' := by omega
  have hkn : k' ≤ n4 := by omega
  clear g1 g2 g3
  go_wp2_with fail
  refine (resolver10 _ _ _ _ _ _ _ _ _ _ _ nm l c sv tx _ h4 (by exact T0.out) (by exact T1.out) (by exact T2.out) (by exact T3.out) (by exact T4.out)).mono ?_
  rintro e w1 ⟨⟨R, M, rfl, hres⟩, hb1⟩
  go_wp2_with fail
  have q0 := cut29 d0 n4 p0 k' (by omega)
  have q1 := cut22 d1 n4 p1 k' (by omega)
  have q2 := cut22 d2 n4 p2 k' (by omega)
  have q3 := cut29 d3 n4 p3 k' (by omega)
  have q4 := cut29 d4 n4 p4 k' (by omega)
  have hbk : Below w1.heap.size w1 w1.drew := (Below.refl _ _).drew
  have U0 := Lib.hid (SVal.part (SVal.below (SVal.below T0.out hb1) hbk) hkn)
  have U1 := Lib.hid (SVal.part (SVal.below (SVal.below T1.out hb1) hbk) hkn)
  have U2 := Lib.hid (SVal.part (SVal.below (SVal.below T2.out hb1) hbk) hkn)
  have U3 := Lib.hid (SVal.part (SVal.below (SVal.below T3.out hb1) hbk) hkn)
  have U4 := Lib.hid (SVal.part (SVal.below (SVal.below T4.out hb1) hbk) hkn)
  have hkm : k' ≤ 1048576 := by omega
  go_region_held3 (fun _ => True) (trivial)
    (first | (go_at_call 10; refine (resolver10 _ _ _ _ _ _ _ _ _ _ _ nm l c sv tx _ hkm (by exact U0.out) (by exact U1.out) (by exact U2.out) (by exact U3.out) (by exact U4.out)).mono ?_; rintro e w2 ⟨⟨R2, M2, rfl, hres2⟩, hb2⟩))
  have hb12 : Below w1.heap.size w1 w2 := hbk.trans hb2
  have hr1 := hres.below hb12
  have W3 := Lib.hid (SVal.below (SVal.below T3.out hb1) hb12)
  have nx2 : Below w'.heap.size w' w2 := nx.trans ((hb1.mono nx.size).trans (hb12.mono (Nat.le_trans nx.size hb1.size)))
  clear q0 q1 q2 q3 q4 U0 U1 U2 U3 U4 T0 T1 T2 T3 T4 hbk hb2 hb12 hb1 hres nx
  go_wp2_with fail
  refine (refused11 R M n4 s' (by omega) (by omega) _ (by exact hr1)).mono ?_
  rintro e w3 ⟨rfl, hb3⟩
  have hr2 := hres2.below hb3
  have hr1 := hr1.below hb3
  have W3 := Lib.hid (SVal.below W3.out hb3)
  have nx3 : Below w'.heap.size w' w3 := nx2.trans (hb3.mono nx2.size)
  clear hb3 nx2 hres2
  go_wp2_with fail
  refine (refused11 R2 M2 k' s' (by omega) (by omega) _ (by exact hr2)).mono ?_
  rintro e w4 ⟨rfl, hb4⟩
  have hr1 := hr1.below hb4
  have W3 := Lib.hid (SVal.below W3.out hb4)
  have nx4 : Below w'.heap.size w' w4 := nx3.trans (hb4.mono nx3.size)
  clear hb4 nx3 hr2
  go_wp2_with fail
  refine (refused11 R M n4 k' (by omega) (by omega) _ (by exact hr1)).mono ?_
  rintro e w5 ⟨rfl, hb5⟩
  have W3 := Lib.hid (SVal.below W3.out hb5)
  have nx5 : Below w'.heap.size w' w5 := nx4.trans (hb5.mono nx4.size)
  clear hb5 nx4 hr1
  have hspl : anyB (fun t => errB (sv t)) s' (n4 - s') = (anyB (fun t => errB (sv t)) s' (k' - s') || anyB (fun t => errB (sv t)) k' (n4 - k')) := by
    rw [← anyB_split, show k' - s' + (n4 - k') = n4 - s' by omega]
    omega
  have HSP := Lib.hid hspl
  clear hspl
  generalize hA : anyB (fun t => errB (sv t)) s' (n4 - s') = A at HSP ⊢
  have HA := Lib.hid hA
  clear hA
  generalize anyB (fun t => errB (sv t)) s' (k' - s') = F at HSP ⊢
  generalize anyB (fun t => errB (sv t)) k' (n4 - k') = G at HSP ⊢
  go_wp2
  go_loop [28, 29] (fun v i => ∃ m : Nat, s' + m ≤ n4 ∧ i = .int .i64 ((s' : Int) + (m : Int)) ∧ v = .bool (anyB (fun t => errB (sv t)) s' m)) (fun _ i => n4 - (intOf i).toNat)
  case atStart => exact ⟨0, by omega, by go_num, rfl⟩
  case round =>
   as_aux_lemma =>
    obtain ⟨m, hm, rfl, rfl⟩ := hrel
    by_cases hlt : s' + m < n4
    · obtain ⟨b, o, rfl, hc⟩ := W3.out (s' + m) hlt
      have hlti : (s' : Int) + (m : Int) < (n4 : Int) := by omega
      cases he : errB (sv (s' + m)) with
      | true =>
        have hq : ((sv (s' + m)).toList == [101, 114, 114, 111, 114]) = true := he
        have hsu := Lib.hid (anyB_succ_true (f := fun t => errB (sv t)) (a := s') (m := m) he)
        clear he
        go_wp2
        go_round
        case rel => exact ⟨m + 1, by omega, by go_num, by rw [hsu.out]⟩
        case measure => simp [intOf]; omega
      | false =>
        have hq : ((sv (s' + m)).toList == [101, 114, 114, 111, 114]) = false := he
        have hsu := Lib.hid (anyB_succ_false (f := fun t => errB (sv t)) (a := s') (m := m) he)
        clear he
        go_wp2
        go_round
        case rel => exact ⟨m + 1, by omega, by go_num, by rw [hsu.out]⟩
        case measure => simp [intOf]; omega
    · have hmA : anyB (fun t => errB (sv t)) s' m = A := by rw [← HA.out]; congr 1; omega
      rw [hmA]
      have hFG := HSP.out
      clear hmA HA HSP W3
      subst hFG
      cases F <;> cases G
      all_goals
        go_wp2
        go_ret
        exact ⟨rfl, nx5⟩
end Go.Proofs.Qxb6616171a
