/-
  SEAT b6616171a: zzBytes_FnRefusedSplitsAtAnyCut (function 8): true only if every length is at most 2^20; it writes nothing.
-/
import Derived.Test.Qxb6616171aBytes
namespace Go.Proofs.Qxb6616171a
open Go.RowKit
/-- some bool, and if it is true: B -/
def Bd (B : Prop) (e : Ending) : Prop := ∃ ok : Bool, e = .returned (.bool ok) ∧ (ok = true → B)
theorem Bd.no {B : Prop} : Bd B (.returned (.bool false)) := ⟨false, rfl, fun h => by cases h⟩
theorem Bd.yes {B : Prop} (h : B) : Bd B (.returned (.bool true)) := ⟨true, rfl, fun _ => h⟩
set_option maxHeartbeats 3200000 in
set_option maxRecDepth 100000 in
theorem bytes8 (a0 a1 a2 a3 a4 : Option Addr) (n0 n1 n2 n3 n4 c0 c1 c2 c3 c4 : Nat) (s k : Int) (f0 f3 f4 : Nat → ByteArray) (w : World)
    (s0 : SStr w a0 n0 f0) (s3 : SStr w a3 n3 f3) (s4 : SStr w a4 n4 f4) :
    Calls Try.prog 8 #[.slice a0 n0 c0, .slice a1 n1 c1, .slice a2 n2 c2, .slice a3 n3 c3, .slice a4 n4 c4, .int .i64 s, .int .i64 k] w fun e w' =>
      Bd (n0 ≤ 1048576 ∧ n1 ≤ 1048576 ∧ n2 ≤ 1048576 ∧ n3 ≤ 1048576 ∧ n4 ≤ 1048576) e ∧ w' = w := by
  have S0 : Hid _ := s0
  have S3 : Hid _ := s3
  have S4 : Hid _ := s4
  clear s0 s3 s4
  by_cases h0 : 1048576 < n0
  · go_enter Try.func8, Try.ntmps8
    go_wp2
    go_ret
    exact ⟨Bd.no, rfl⟩
  go_enter Try.func8, Try.ntmps8
  go_wp2
  go_loop [15, 16] (fun t i => ∃ k : Nat, k ≤ n0 ∧ i = .int .i64 k ∧ ∃ y : Int, 0 ≤ y ∧ y ≤ 1048576 ∧ t = .int .i64 y) (fun _ i => n0 - (intOf i).toNat)
  case atStart => exact ⟨0, Nat.zero_le _, rfl, _, by omega, by omega, rfl⟩
  case round =>
    obtain ⟨i, hi, rfl, y, hy0, hy1, rfl⟩ := hrel
    by_cases hlt : i < n0
    · obtain ⟨b, o, rfl, hc⟩ := S0.out i hlt
      go_wp2
      · go_ret
        exact ⟨Bd.no, rfl⟩
      · go_ret
        exact ⟨Bd.no, rfl⟩
      · go_round
        case rel => exact ⟨i + 1, by omega, by go_num, _, by omega, by assumption, rfl⟩
        case measure => simp [intOf]; omega
    · go_wp2
      iterate 6 (· go_ret; exact ⟨Bd.no, rfl⟩)
      go_loop [15, 17] (fun t i => ∃ k : Nat, k ≤ n3 ∧ i = .int .i64 k ∧ ∃ y : Int, 0 ≤ y ∧ y ≤ 1048576 ∧ t = .int .i64 y) (fun _ i => n3 - (intOf i).toNat)
      case atStart => exact ⟨0, Nat.zero_le _, rfl, _, by omega, by omega, rfl⟩
      case round =>
        obtain ⟨i, hi, rfl, y, hy0, hy1, rfl⟩ := hrel
        by_cases hlt : i < n3
        · obtain ⟨b, o, rfl, hc⟩ := S3.out i hlt
          go_wp2
          · go_ret
            exact ⟨Bd.no, rfl⟩
          · go_ret
            exact ⟨Bd.no, rfl⟩
          · go_round
            case rel => exact ⟨i + 1, by omega, by go_num, _, by omega, by assumption, rfl⟩
            case measure => simp [intOf]; omega
        · go_wp2
          iterate 2 (· go_ret; exact ⟨Bd.no, rfl⟩)
          go_loop [15, 18] (fun t i => ∃ k : Nat, k ≤ n4 ∧ i = .int .i64 k ∧ ∃ y : Int, 0 ≤ y ∧ y ≤ 1048576 ∧ t = .int .i64 y) (fun _ i => n4 - (intOf i).toNat)
          case atStart => exact ⟨0, Nat.zero_le _, rfl, _, by omega, by omega, rfl⟩
          case round =>
            obtain ⟨i, hi, rfl, y, hy0, hy1, rfl⟩ := hrel
            by_cases hlt : i < n4
            · obtain ⟨b, o, rfl, hc⟩ := S4.out i hlt
              go_wp2
              · go_ret
                exact ⟨Bd.no, rfl⟩
              · go_ret
                exact ⟨Bd.no, rfl⟩
              · go_round
                case rel => exact ⟨i + 1, by omega, by go_num, _, by omega, by assumption, rfl⟩
                case measure => simp [intOf]; omega
            · go_wp2
              go_ret
              exact ⟨Bd.yes (by omega), rfl⟩
end Go.Proofs.Qxb6616171a
