/-
  SHARED WALK OF SEAT b6616173a: weekStart through its thin file.
-/
import Derived.Test.Qxb6616173aProg
import Derived.WalkKit
import Derived.ProofKit
import Derived.WalkSpells
import Derived.WalkLawsBesides
namespace Go.Proofs.Qxb6616173a
open Go.RowKit
/-- r is the week start of t: t cut towards nought to a multiple of a week. -/
def Week (t r : Int) : Prop := r = t.tdiv 604800 * 604800
theorem tdiv_nonneg (t : Int) (h : 0 ≤ t) : t.tdiv 604800 = t / 604800 := Int.tdiv_eq_ediv_of_nonneg h
theorem tdiv_neg (t : Int) (h : t < 0) : t.tdiv 604800 = -((-t) / 604800) := by
  have := Int.neg_tdiv (a := -t) (b := 604800)
  rw [Int.neg_neg] at this
  rw [this, tdiv_nonneg _ (by omega)]
theorem Week.pos {t r : Int} (h : Week t r) (ht : 0 ≤ t) : 0 ≤ r ∧ r ≤ t ∧ t < r + 604800 ∧ r % 604800 = 0 := by
  unfold Week at h; rw [tdiv_nonneg t ht] at h; omega
theorem Week.neg {t r : Int} (h : Week t r) (ht : t < 0) : r ≤ 0 ∧ t ≤ r ∧ r < t + 604800 ∧ (-r) % 604800 = 0 := by
  unfold Week at h; rw [tdiv_neg t ht] at h; omega
theorem Week.same {t r r' : Int} (h : Week t r) (h' : Week r r') : r' = r := by
  rcases Int.lt_or_le t 0 with ht | ht
  · have a := h.neg ht
    rcases Int.lt_or_le r 0 with hr | hr
    · have b := h'.neg hr; omega
    · have b := h'.pos hr; omega
  · have a := h.pos ht
    have b := h'.pos a.1; omega
theorem tmod_neg (r : Int) (hr : r ≤ 0) (h : (-r) % 604800 = 0) : r.tmod 604800 = 0 := by
  have e : (-(-r)).tmod 604800 = -((-r).tmod 604800) := Int.neg_tmod _ _
  rw [Int.neg_neg] at e
  rw [e, Int.tmod_eq_emod_of_nonneg (by omega), h]; rfl
set_option maxHeartbeats 400000 in
theorem week7 (t : Int) (w : World) (h0 : -9223372036854775808 ≤ t) (h1 : t ≤ 9223372036854775807) :
    Calls Try.prog 7 #[.int .i64 t] w fun e w' => ∃ r, Week t r ∧ e = .returned (.int .i64 r) ∧ w' = w := by
  rcases Int.lt_or_le t 0 with ht | ht
  · have e := tdiv_neg t ht
    have hd : -15250284452471 ≤ t.tdiv 604800 ∧ t.tdiv 604800 ≤ 0 := by rw [e]; omega
    have H : Hid _ := e
    clear e
    obtain ⟨d1, d2⟩ := hd
    go_enter Try.func7, Try.ntmps7
    go_wp2
    go_ret
    exact ⟨_, rfl, rfl, rfl⟩
  · have e := tdiv_nonneg t ht
    have hd : 0 ≤ t.tdiv 604800 ∧ t.tdiv 604800 ≤ 15250284452471 := by rw [e]; omega
    obtain ⟨d1, d2⟩ := hd
    have H : Hid _ := e
    clear e
    go_enter Try.func7, Try.ntmps7
    go_wp2
    go_ret
    exact ⟨_, by unfold Week; rw [H.out], rfl, rfl⟩
theorem ret_bool {a : Bool} (h : a = true) : Ending.returned (.bool a) = .returned (.bool true) := by rw [h]
end Go.Proofs.Qxb6616173a
