/-
  SEAT b6616171a: zzBytes_FnRefusedOneMessageInserted (function 12): true only if the lengths sum to at most 2^20; it writes nothing. zzb1AddBytes (13).
-/
import Derived.Test.Qxb6616171aBytes8
namespace Go.Proofs.Qxb6616171a
open Go.RowKit
set_option maxHeartbeats 400000 in
theorem add13 (z : Int) (s : ByteArray) (w : World) :
    Calls Try.prog 13 #[.int .i64 z, .string s] w fun e w' => Two e ∧ w' = w := by
  go_enter Try.func13, Try.ntmps13
  go_wp2
  all_goals (go_ret2; exact ⟨⟨_, _, rfl⟩, rfl⟩)
set_option maxHeartbeats 3200000 in
set_option maxRecDepth 100000 in
theorem bytes12 (a0 a1 a2 a3 a4 : Option Addr) (n0 n1 n2 n3 n4 c0 c1 c2 c3 c4 : Nat) (s k : Int) (m7 m10 m11 : ByteArray) (i8 i9 : Int) (f0 f3 f4 : Nat → ByteArray) (w : World)
    (s0 : SStr w a0 n0 f0) (s3 : SStr w a3 n3 f3) (s4 : SStr w a4 n4 f4) :
    Calls Try.prog 12 #[.slice a0 n0 c0, .slice a1 n1 c1, .slice a2 n2 c2, .slice a3 n3 c3, .slice a4 n4 c4, .int .i64 s, .int .i64 k, .string m7, .int .i64 i8, .int .i64 i9, .string m10, .string m11] w fun e w' =>
      Bd (n0 + n1 + n2 + n3 + n4 ≤ 1048576) e ∧ w' = w := by
  have S0 : Hid _ := s0
  have S3 : Hid _ := s3
  have S4 : Hid _ := s4
  clear s0 s3 s4
  by_cases h0 : 1048576 < n0
  · go_enter Try.func12, Try.ntmps12
    go_wp2
    go_ret
    exact ⟨Bd.no, rfl⟩
  go_enter Try.func12, Try.ntmps12
  go_wp2
  go_loop [25, 26] (fun t i => ∃ k : Nat, k ≤ n0 ∧ i = .int .i64 k ∧ ∃ y : Int, (n0 : Int) ≤ y ∧ y ≤ 1048576 ∧ t = .int .i64 y) (fun _ i => n0 - (intOf i).toNat)
  case atStart => exact ⟨0, Nat.zero_le _, rfl, _, by omega, by omega, rfl⟩
  case round =>
    obtain ⟨i, hi, rfl, y, hy0, hy1, rfl⟩ := hrel
    by_cases hlt : i < n0
    · obtain ⟨b, o, rfl, hc⟩ := S0.out i hlt
      go_wp2
      · go_ret
        exact ⟨Bd.no, rfl⟩
      · go_ret
        exact ⟨Bd.no, rfl⟩
      · go_round
        case rel => exact ⟨i + 1, by omega, by go_num, _, by omega, by assumption, rfl⟩
        case measure => simp [intOf]; omega
    · go_wp2
      iterate 6 (· go_ret; exact ⟨Bd.no, rfl⟩)
      go_loop [25, 27] (fun t i => ∃ k : Nat, k ≤ n3 ∧ i = .int .i64 k ∧ ∃ y : Int, (n0 : Int) + n1 + n2 + n3 ≤ y ∧ y ≤ 1048576 ∧ t = .int .i64 y) (fun _ i => n3 - (intOf i).toNat)
      case atStart => exact ⟨0, Nat.zero_le _, rfl, _, by omega, by omega, rfl⟩
      case round =>
        obtain ⟨i, hi, rfl, y, hy0, hy1, rfl⟩ := hrel
        by_cases hlt : i < n3
        · obtain ⟨b, o, rfl, hc⟩ := S3.out i hlt
          go_wp2
          · go_ret
            exact ⟨Bd.no, rfl⟩
          · go_ret
            exact ⟨Bd.no, rfl⟩
          · go_round
            case rel => exact ⟨i + 1, by omega, by go_num, _, by omega, by assumption, rfl⟩
            case measure => simp [intOf]; omega
        · go_wp2
          iterate 2 (· go_ret; exact ⟨Bd.no, rfl⟩)
          go_loop [25, 28] (fun t i => ∃ k : Nat, k ≤ n4 ∧ i = .int .i64 k ∧ ∃ y : Int, (n0 : Int) + n1 + n2 + n3 + n4 ≤ y ∧ y ≤ 1048576 ∧ t = .int .i64 y) (fun _ i => n4 - (intOf i).toNat)
          case atStart => exact ⟨0, Nat.zero_le _, rfl, _, by omega, by omega, rfl⟩
          case round =>
            obtain ⟨i, hi, rfl, y, hy0, hy1, rfl⟩ := hrel
            by_cases hlt : i < n4
            · obtain ⟨b, o, rfl, hc⟩ := S4.out i hlt
              go_wp2
              · go_ret
                exact ⟨Bd.no, rfl⟩
              · go_ret
                exact ⟨Bd.no, rfl⟩
              · go_round
                case rel => exact ⟨i + 1, by omega, by go_num, _, by omega, by assumption, rfl⟩
                case measure => simp [intOf]; omega
            · go_wp2
              iterate 6 (· go_ret; exact ⟨Bd.no, rfl⟩)
              go_ret
              exact ⟨Bd.yes (by omega), rfl⟩
end Go.Proofs.Qxb6616171a
