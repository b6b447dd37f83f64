/- controlChar, controlAndNonCharacter. -/
import Derived.Test.YtmgkolcpomaceaaB4
namespace Go.Proofs.Ytmgkolcpomaceaa
open Go.RowKit

def ctrlR (r : Int) : Bool := decide (r ≤ 8) || r == 11 || (decide (14 ≤ r) && decide (r ≤ 31)) || (decide (127 ≤ r) && decide (r ≤ 159))
def nonR (r : Int) : Bool := bits .and .i32 r 65534 == 65534
def badR (r : Int) : Bool := (decide (64976 ≤ r) && decide (r ≤ 65007)) || nonR r || ctrlR r

set_option maxHeartbeats 1000000 in
set_option maxRecDepth 100000 in
theorem controlChar_calls (r : Int) (w : World) : Calls Try.prog 160 #[.int .i32 r] w fun e w' => e = .returned (.bool (ctrlR r)) ∧ w = w' := by
  go_each [r ≤ 8, r = 11, 14 ≤ r, r ≤ 31, 127 ≤ r, r ≤ 159] => (
    go_enter Try.func160, Try.ntmps160
    go_wp2
    go_ret
    exact ⟨ret_bool (by first | (rw [Bool.eq_iff_iff]; simp [ctrlR]; done) | (rw [Bool.eq_iff_iff]; simp [ctrlR]; omega)), rfl⟩)

theorem badR_near {r : Int} (h1 : 64976 ≤ r) (h2 : r ≤ 65007) : badR r = true := by simp [badR, h1, h2]
theorem badR_far {r : Int} (h : ¬ (64976 ≤ r ∧ r ≤ 65007)) : badR r = (nonR r || ctrlR r) := by
  have : (decide (64976 ≤ r) && decide (r ≤ 65007)) = false := by
    rw [Bool.and_eq_false_iff, decide_eq_false_iff_not, decide_eq_false_iff_not]; omega
  rw [badR, this]; rfl

set_option maxHeartbeats 1000000 in
set_option maxRecDepth 100000 in
theorem badR_calls (r : Int) (w : World) : Calls Try.prog 148 #[.int .i32 r] w fun e w' => e = .returned (.bool (badR r)) ∧ w = w' := by
  by_cases h1 : 64976 ≤ r
  · by_cases h2 : r ≤ 65007
    · have HB := Lib.hid (badR_near h1 h2)
      go_enter Try.func148, Try.ntmps148
      go_wp2
      go_ret
      exact ⟨ret_bool HB.out.symm, rfl⟩
    · have HB := Lib.hid (badR_far (r := r) (by omega))
      cases hn : nonR r
      · have hn' : (bits .and .i32 r 65534 == 65534) = false := hn
        have HN := Lib.hid hn
        clear hn
        go_enter Try.func148, Try.ntmps148
        go_wp2_with fail
        refine (controlChar_calls r _).mono ?_
        rintro e w' ⟨rfl, rfl⟩
        go_wp2
        go_ret
        exact ⟨ret_bool (by rw [HB.out, HN.out]; rfl), rfl⟩
      · have hn' : (bits .and .i32 r 65534 == 65534) = true := hn
        have HN := Lib.hid hn
        clear hn
        go_enter Try.func148, Try.ntmps148
        go_wp2
        go_ret
        exact ⟨ret_bool (by rw [HB.out, HN.out]; rfl), rfl⟩
  · have HB := Lib.hid (badR_far (r := r) (by omega))
    cases hn : nonR r
    · have hn' : (bits .and .i32 r 65534 == 65534) = false := hn
      have HN := Lib.hid hn
      clear hn
      go_enter Try.func148, Try.ntmps148
      go_wp2_with fail
      refine (controlChar_calls r _).mono ?_
      rintro e w' ⟨rfl, rfl⟩
      go_wp2
      go_ret
      exact ⟨ret_bool (by rw [HB.out, HN.out]; rfl), rfl⟩
    · have hn' : (bits .and .i32 r 65534 == 65534) = true := hn
      have HN := Lib.hid hn
      clear hn
      go_enter Try.func148, Try.ntmps148
      go_wp2
      go_ret
      exact ⟨ret_bool (by rw [HB.out, HN.out]; rfl), rfl⟩
end Go.Proofs.Ytmgkolcpomaceaa
