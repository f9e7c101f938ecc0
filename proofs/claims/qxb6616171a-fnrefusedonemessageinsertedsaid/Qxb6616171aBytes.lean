/-
  SEAT b6616171a: THE BOUNDS ON BYTES: zzb1StringsBytes (17), zzb1IntsBytes (18), zzb1MsgBytes (9): each returns, and writes nothing. What they return is not asked.
-/
import Derived.Test.Qxb6616171aMem
import Derived.Test.Qxb6616171aProg
import Derived.WalkKit
import Derived.ProofKit
import Derived.WalkSpells
import Derived.WalkLawsBesides
import Derived.LoopTactic
namespace Go.Proofs.Qxb6616171a
open Go.RowKit
/-- a slice of n strings, nil or not: its address (if any) leads to the strings f -/
def SStr (w : World) (a : Option Addr) (n : Nat) (f : Nat → ByteArray) : Prop := ∀ t, t < n → ∃ b o, a = some ⟨b, o, none⟩ ∧ w.cell? ⟨b, o + t, none⟩ = some (.string (f t))
/-- a slice of n integers -/
def SInt (w : World) (a : Option Addr) (n : Nat) (f : Nat → Int) : Prop := ∀ t, t < n → ∃ b o, a = some ⟨b, o, none⟩ ∧ w.cell? ⟨b, o + t, none⟩ = some (.int .i64 (f t))
/-- some integer and some bool -/
def Two (e : Ending) : Prop := ∃ y ok, e = .returned (.tuple #[.int .i64 y, .bool ok])
set_option maxHeartbeats 1600000 in
set_option maxRecDepth 100000 in
theorem strings17 (z : Int) (a : Option Addr) (n c : Nat) (f : Nat → ByteArray) (w : World) (hn : n ≤ 1048576) (h : SStr w a n f) :
    Calls Try.prog 17 #[.int .i64 z, .slice a n c] w fun e w' => Two e ∧ w' = w := by
  have H : Hid _ := h
  clear h
  go_enter Try.func17, Try.ntmps17
  go_wp2
  · go_ret2
    exact ⟨⟨_, _, rfl⟩, rfl⟩
  · go_loop [0, 21] (fun t i => ∃ k : Nat, k ≤ n ∧ i = .int .i64 k ∧ ∃ y : Int, t = .int .i64 y) (fun _ i => n - (intOf i).toNat)
    case atStart => exact ⟨0, Nat.zero_le _, rfl, _, rfl⟩
    case round =>
      obtain ⟨k, hk, rfl, y, rfl⟩ := hrel
      by_cases hlt : k < n
      · obtain ⟨b, o, rfl, hc⟩ := H.out k hlt
        go_wp2
        · go_ret2
          exact ⟨⟨_, _, rfl⟩, rfl⟩
        · go_round
          case rel => exact ⟨k + 1, by omega, by go_num, _, rfl⟩
          case measure => simp [intOf]; omega
      · go_wp2
        go_ret2
        exact ⟨⟨_, _, rfl⟩, rfl⟩

set_option maxHeartbeats 400000 in
theorem ints18 (z : Int) (a : Option Addr) (n c : Nat) (w : World) :
    Calls Try.prog 18 #[.int .i64 z, .slice a n c] w fun e w' => Two e ∧ w' = w := by
  go_enter Try.func18, Try.ntmps18
  go_wp2
  all_goals (go_ret2; exact ⟨⟨_, _, rfl⟩, rfl⟩)
set_option maxHeartbeats 3200000 in
set_option maxRecDepth 100000 in
theorem msg9 (a0 a1 a2 a3 a4 : Option Addr) (n0 n1 n2 n3 n4 c0 c1 c2 c3 c4 : Nat) (f0 f3 f4 : Nat → ByteArray) (w : World)
    (h0 : n0 ≤ 1048576) (h3 : n3 ≤ 1048576) (h4 : n4 ≤ 1048576) (s0 : SStr w a0 n0 f0) (s3 : SStr w a3 n3 f3) (s4 : SStr w a4 n4 f4) :
    Calls Try.prog 9 #[.slice a0 n0 c0, .slice a1 n1 c1, .slice a2 n2 c2, .slice a3 n3 c3, .slice a4 n4 c4] w fun e w' => Two e ∧ w' = w := by
  have S0 : Hid _ := s0
  have S3 : Hid _ := s3
  have S4 : Hid _ := s4
  clear s0 s3 s4
  go_enter Try.func9, Try.ntmps9
  go_wp2_with fail
  refine (strings17 _ _ _ _ f0 _ h0 (by exact S0.out)).mono ?_
  rintro e w' ⟨⟨y, ok, rfl⟩, rfl⟩
  cases ok
  · go_wp2
    go_ret2
    exact ⟨⟨_, _, rfl⟩, rfl⟩
  go_wp2_with fail
  refine (ints18 _ _ _ _ _).mono ?_
  rintro e w' ⟨⟨y, ok, rfl⟩, rfl⟩
  cases ok
  · go_wp2
    go_ret2
    exact ⟨⟨_, _, rfl⟩, rfl⟩
  go_wp2_with fail
  refine (ints18 _ _ _ _ _).mono ?_
  rintro e w' ⟨⟨y, ok, rfl⟩, rfl⟩
  cases ok
  · go_wp2
    go_ret2
    exact ⟨⟨_, _, rfl⟩, rfl⟩
  go_wp2_with fail
  refine (strings17 _ _ _ _ f3 _ h3 (by exact S3.out)).mono ?_
  rintro e w' ⟨⟨y, ok, rfl⟩, rfl⟩
  cases ok
  · go_wp2
    go_ret2
    exact ⟨⟨_, _, rfl⟩, rfl⟩
  go_wp2_with fail
  refine (strings17 _ _ _ _ f4 _ h4 (by exact S4.out)).mono ?_
  rintro e w' ⟨⟨y, ok, rfl⟩, rfl⟩
  go_wp2
  go_ret2
  exact ⟨⟨_, _, rfl⟩, rfl⟩
end Go.Proofs.Qxb6616171a
