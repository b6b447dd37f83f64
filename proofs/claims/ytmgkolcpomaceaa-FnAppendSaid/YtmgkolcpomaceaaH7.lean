/- FnAppend. -/
import Derived.Test.YtmgkolcpomaceaaH6
namespace Go.Proofs.Ytmgkolcpomaceaa
open Go.RowKit
set_option linter.unusedVariables false
set_option linter.unusedSimpArgs false

theorem appendS_size (a b : ByteArray) (ha : a.size ≤ 200) (hb : b.size ≤ 200) : a.size + (ByteArray.mk (pctL b.data.toList).toArray).size ≤ 9223372036854775807 := by
  have hpl := pctL_len b.data.toList
  have e : (ByteArray.mk (pctL b.data.toList).toArray).size = (pctL b.data.toList).length := by show (pctL b.data.toList).toArray.size = _; simp
  simp at hpl
  rw [e]; omega

set_option maxHeartbeats 4000000 in
set_option maxRecDepth 100000 in
theorem fnAppend_any (a b : ByteArray) (w : World) (ha : a.size ≤ maxLen) (hb : b.size ≤ maxLen) :
    Calls Try.prog 10 #[.string a, .string b] w fun x w' => x = .returned (.bool true) ∧ Below w.heap.size w w' := by
  unfold maxLen at ha hb
  by_cases h1 : 2147483647 < a.size
  · have g1 : decide (2147483647 < (a.size : Int)) = true := decide_eq_true (by omega)
    have g2 : decide (2147483647 < a.size) = true := decide_eq_true (by omega)
    go_enter Try.func10, Try.ntmps10
    go_wp2
    go_ret
    exact ⟨rfl, Below.refl _ _⟩
  have g1 : decide (2147483647 < (a.size : Int)) = false := decide_eq_false (by omega)
  have g2 : decide (2147483647 < a.size) = false := decide_eq_false (by omega)
  by_cases h2 : 2147483647 < b.size
  · have g3 : decide (2147483647 < (b.size : Int)) = true := decide_eq_true (by omega)
    have g4 : decide (2147483647 < b.size) = true := decide_eq_true (by omega)
    go_enter Try.func10, Try.ntmps10
    go_wp2
    go_ret
    exact ⟨rfl, Below.refl _ _⟩
  have g3 : decide (2147483647 < (b.size : Int)) = false := decide_eq_false (by omega)
  have g4 : decide (2147483647 < b.size) = false := decide_eq_false (by omega)
  cases hA : (asciiB a && smallB a) with
  | false =>
    have HA := Lib.hid hA
    clear hA
    go_enter Try.func10, Try.ntmps10
    go_wp2_with fail
    refine (ascii_calls a _ (by omega)).mono ?_
    rw [HA.out]
    rintro e w1 ⟨rfl, rfl⟩
    go_wp2
    go_ret
    exact ⟨rfl, Below.refl _ _⟩
  | true =>
    have HA := Lib.hid hA
    have hA1 : Hid (asciiB a = true) := by have := hA; simp at this; exact this.1
    have hA2 : a.size ≤ 200 := by have := hA; simp [smallB] at this; exact this.2
    clear hA
    cases hB : (asciiB b && smallB b) with
    | false =>
      have HB := Lib.hid hB
      clear hB
      go_enter Try.func10, Try.ntmps10
      go_wp2_with fail
      refine (ascii_calls a _ (by omega)).mono ?_
      rw [HA.out]
      rintro e w1 ⟨rfl, rfl⟩
      go_wp2_with fail
      refine (ascii_calls b _ (by omega)).mono ?_
      rw [HB.out]
      rintro e w1 ⟨rfl, rfl⟩
      go_wp2
      go_ret
      exact ⟨rfl, Below.refl _ _⟩
    | true =>
      have HB := Lib.hid hB
      have hB1 : Hid (asciiB b = true) := by have := hB; simp at this; exact this.1
      have hB2 : b.size ≤ 200 := by have := hB; simp [smallB] at this; exact this.2
      clear hB
      have HI := Lib.hid (fun w => implAppend_calls a b w hA2 hB2 hA1 hB1)
      have HS := Lib.hid (fun w => based_calls a w (by omega))
      have HQ := Lib.hid (fun w => percent_calls b w (by omega))
      have hadd := appendS_size a b hA2 hB2
      have HE := Lib.hid (show appendS a b = a ++ ⟨(pctL b.data.toList).toArray⟩ from rfl)
      generalize (ByteArray.mk (pctL b.data.toList).toArray) = X at hadd HQ HE
      generalize basedL a.data.toList = P at HI HS
      cases P with
      | false =>
        go_enter Try.func10, Try.ntmps10
        go_wp2_with fail
        refine (ascii_calls a _ (by omega)).mono ?_
        rw [HA.out]
        rintro e w1 ⟨rfl, rfl⟩
        go_wp2_with fail
        refine (ascii_calls b _ (by omega)).mono ?_
        rw [HB.out]
        rintro e w1 ⟨rfl, rfl⟩
        go_wp2_with fail
        refine (HI.out _).mono ?_
        rintro e w1 ⟨rfl, hb1⟩
        go_wp2_with fail
        refine (HS.out _).mono ?_
        rintro e w2 ⟨rfl, hb2⟩
        go_wp2_with fail
        refine (silent_calls _).mono ?_
        rintro e w3 ⟨rfl, hb3⟩
        go_wp2
        go_ret
        exact ⟨rfl, below_then (below_then hb1 hb1.size hb2) (below_then hb1 hb1.size hb2).size hb3⟩
      | true =>
        go_enter Try.func10, Try.ntmps10
        go_wp2_with fail
        refine (ascii_calls a _ (by omega)).mono ?_
        rw [HA.out]
        rintro e w1 ⟨rfl, rfl⟩
        go_wp2_with fail
        refine (ascii_calls b _ (by omega)).mono ?_
        rw [HB.out]
        rintro e w1 ⟨rfl, rfl⟩
        go_wp2_with fail
        refine (HI.out _).mono ?_
        rw [if_pos trivial, HE.out]
        rintro e w1 ⟨rfl, hb1⟩
        go_wp2_with fail
        refine (HS.out _).mono ?_
        rintro e w2 ⟨rfl, hb2⟩
        go_wp2_with fail
        refine (HQ.out _).mono ?_
        rintro e w3 ⟨rfl, hb3⟩
        have hbb := below_then (below_then hb1 hb1.size hb2) (below_then hb1 hb1.size hb2).size hb3
        have HBB := Lib.hid hbb
        clear hbb hb1 hb2 hb3
        go_wp2_with fail
        refine (silent_calls _).mono ?_
        rintro e w4 ⟨rfl, hb4⟩
        go_wp2
        go_ret
        exact ⟨rfl, below_then HBB.out HBB.out.size hb4⟩
end Go.Proofs.Ytmgkolcpomaceaa
