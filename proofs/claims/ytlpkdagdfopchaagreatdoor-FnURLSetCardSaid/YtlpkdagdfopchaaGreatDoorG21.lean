/- readFloat f54 of a text that begins with a letter. -/
import Derived.Test.YtlpkdagdfopchaaGreatDoorG20
namespace Go.Proofs.YtlpkdagdfopchaaGreatDoor
open Go.RowKit
set_option linter.unusedVariables false
set_option linter.unusedSimpArgs false

set_option maxHeartbeats 1000000 in
set_option maxRecDepth 100000 in
theorem readFloat_letter (s : ByteArray) (w : World) (hs : 0 < s.size) (hsz : s.size ≤ 140737488355328) (h : (65 ≤ s[0].toNat ∧ s[0].toNat ≤ 90) ∨ (97 ≤ s[0].toNat ∧ s[0].toNat ≤ 122)) :
    Calls Tryz.prog 54 #[.string s] w fun r w' => r = .returned (.tuple #[.int .u64 0, .int .i64 0, .bool false, .bool false, .bool false, .int .i64 0, .bool false]) ∧ w' = w := by
  have hne : ¬ s = ByteArray.empty := fun e => by subst e; simp at hs
  have t1 : ((s[0].toNat : Int) == 43) = false := by simp; omega
  have t2 : ((s[0].toNat : Int) == 45) = false := by simp; omega
  have t3 : ((s[0].toNat : Int) == 95) = false := by simp; omega
  have t4 : ((s[0].toNat : Int) == 46) = false := by simp; omega
  have t5 : ((s[0].toNat : Int) == 48) = false := by simp; omega
  have t6 : 57 < s[0].toNat := by omega
  clear h
  go_enter Tryz.func54, Tryz.ntmps54
  go_wp2
  go_step3
  go_upto_region 12 with fail
  go_cut [54] (fun v wx => v = .bool false ∧ wx = w)
  case first =>
    by_cases h2 : 2 < s.size
    · go_wp2_with fail
      go_meet
      exact ⟨rfl, rfl⟩
    · go_wp2_with fail
      go_meet
      exact ⟨rfl, rfl⟩
  case rest =>
    obtain ⟨rfl, rfl⟩ := hcut
    go_wp2_with fail
    go_step3
    go_wp2_with fail
    go_loopw [2, 5, 7, 14] (fun s2 s5 s7 s14 wx => wx = wc ∧ s2 = .int .u64 0 ∧ s5 = .bool false ∧ s7 = .int .i64 0 ∧ s14 = .bool false) (fun _ _ _ _ _ => 0)
    case atStart => exact ⟨rfl, rfl, rfl, rfl, rfl⟩
    case round =>
      obtain ⟨rfl, rfl, rfl, rfl, rfl⟩ := hrel
      go_wp2_with fail
      rw [Exit.noGoto_ret]
      refine bodyPost_ret (results_tmp7 rfl _ _ _) rfl ?_
      exact ⟨rfl, rfl⟩

end Go.Proofs.YtlpkdagdfopchaaGreatDoor
