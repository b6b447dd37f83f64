/- RoundedInteger f81. -/
import Derived.Test.YtlpkdagdfopchaaGreatDoorG10
namespace Go.Proofs.YtlpkdagdfopchaaGreatDoor
open Go.RowKit
set_option linter.unusedVariables false
set_option linter.unusedSimpArgs false

set_option maxHeartbeats 1000000 in
set_option maxRecDepth 100000 in
theorem rounded_calls (C nd dp : Nat) (f : Nat → Nat) (w : World) (hnd : nd ≤ 800) (hD : Hid (DecAt w C f nd dp)) (hdp : dp ≤ 20) :
    Calls Tryz.prog 81 #[.pointer (some ⟨C, 0, none⟩)] w fun e w' => (∃ x, e = .returned (.int .u64 x)) ∧ w' = w := by
  have h800 := hD.out.hnd
  have h801 := hD.out.hdp
  have g0 : decide (20 < (dp : Int)) = false := by simp; omega
  go_enter Tryz.func81, Tryz.ntmps81
  go_wp2
  go_loopw [3, 4] (fun s3 s4 wx => wx = w ∧ ∃ (i : Nat) (x : Int), i ≤ dp ∧ s3 = .int .i64 (i : Int) ∧ s4 = .int .u64 x) (fun s3 _ _ => dp - (intOf s3).toNat)
  case atStart => exact ⟨rfl, 0, 0, by omega, rfl, rfl⟩
  case round =>
    obtain ⟨rfl, i, x, hi, rfl, rfl⟩ := hrel
    by_cases hc : i < dp ∧ i < nd
    · obtain ⟨c1, c2⟩ := hc
      have hd := hD.out.dig i (by omega)
      have hm : dp - (i + 1) < dp - i := by omega
      go_wp2
      go_roundw
      case rel => exact ⟨(by first | rfl | trivial), i + 1, _, by omega, rfl, rfl⟩
      case measure => simp [intOf]; omega
    · have hcc : i = dp ∨ (i < dp ∧ ¬ i < nd) := by omega
      rcases hcc with c | ⟨c1, c2⟩
      case' inl => have c1 : ¬ i < dp := by omega
      all_goals
        go_wp2
        go_loopw [3, 4] (fun s3 s4 wx => wx = wr ∧ ∃ (i : Nat) (x : Int), i ≤ dp ∧ s3 = .int .i64 (i : Int) ∧ s4 = .int .u64 x) (fun s3 _ _ => dp - (intOf s3).toNat)
        case atStart => exact ⟨rfl, i, x, by omega, rfl, rfl⟩
        case round =>
          obtain ⟨rfl, j, y, hj, rfl, rfl⟩ := hrel
          by_cases hjd : j < dp
          · go_wp2
            go_roundw
            case rel => exact ⟨(by first | rfl | trivial), j + 1, _, by omega, rfl, rfl⟩
            case measure => simp [intOf]; omega
          · go_wp2_with fail
            refine (roundUp_calls C nd f dp dp _ hnd hD (by omega)).mono ?_
            rintro e wz ⟨⟨b, rfl⟩, rfl⟩
            cases b <;>
            · go_wp2
              go_ret
              exact ⟨⟨_, rfl⟩, rfl⟩

end Go.Proofs.YtlpkdagdfopchaaGreatDoor
