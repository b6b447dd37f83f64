/- Shift f80, shouldRoundUp f87, RoundedInteger f81. -/
import Derived.Test.YtlpkdagdfopchaaGreatDoorG9
namespace Go.Proofs.YtlpkdagdfopchaaGreatDoor
open Go.RowKit
set_option linter.unusedVariables false
set_option linter.unusedSimpArgs false

set_option maxHeartbeats 1000000 in
set_option maxRecDepth 100000 in
theorem shiftL_calls (C nd k : Nat) (f : Nat → Nat) (dp : Int) (w : World) (hk : Hid (k ∈ shifts)) (hC : C < w.heap.size) (hT : Hid (CheatAt w C)) (hD : Hid (DecOK w C f nd dp)) (hdp : -10000 ≤ dp ∧ dp ≤ 10000) :
    Calls Tryz.prog 80 #[.pointer (some ⟨C, 0, none⟩), .int .i64 k] w fun e w' => e = .returned (.tuple #[]) ∧ LeftPost C f nd k dp w w' := by
  have h1 : 1 ≤ nd := hD.out.one
  have h800 := hD.out.dec.hnd
  have hk53 : 1 ≤ k ∧ k ≤ 53 := by
    have := hk.out
    simp [shifts] at this
    omega
  go_enter Tryz.func80, Tryz.ntmps80
  go_wp2_with fail
  go_loopw [1] (fun s1 wx => wx = w ∧ s1 = .int .i64 (k : Int)) (fun _ _ => 0)
  case atStart => exact ⟨rfl, rfl⟩
  case round =>
    obtain ⟨rfl, rfl⟩ := hrel
    go_wp2_with fail
    refine (leftShift_calls C nd k f dp _ hk hC hT hD hdp).mono ?_
    rintro e wz ⟨rfl, hp⟩
    go_wp2
    go_returns
    exact ⟨rfl, hp⟩

set_option maxHeartbeats 1000000 in
set_option maxRecDepth 100000 in
theorem shiftR_calls (C nd k : Nat) (f : Nat → Nat) (dp : Int) (w : World) (hk : 1 ≤ k ∧ k ≤ 27) (hC : C < w.heap.size) (hD : Hid (DecOK w C f nd dp)) (hdp : -10000 ≤ dp ∧ dp ≤ 10000) :
    Calls Tryz.prog 80 #[.pointer (some ⟨C, 0, none⟩), .int .i64 (-(k : Int))] w fun e w' => e = .returned (.tuple #[]) ∧ RightPost C f nd k dp w w' := by
  have h1 : 1 ≤ nd := hD.out.one
  have h800 := hD.out.dec.hnd
  have g0 : decide (0 < -(k : Int)) = false := by simp
  have g1 : decide (-(k : Int) < 0) = true := by simp; omega
  have g2 : decide (-(k : Int) < -60) = false := by simp; omega
  go_enter Tryz.func80, Tryz.ntmps80
  go_wp2_with fail
  go_loopw [1] (fun s1 wx => wx = w ∧ s1 = .int .i64 (-(k : Int))) (fun _ _ => 0)
  case atStart => exact ⟨rfl, rfl⟩
  case round =>
    obtain ⟨rfl, rfl⟩ := hrel
    go_wp2_with fail
    refine (rightShift_calls C nd k f dp _ hk hC hD hdp).mono ?_
    rintro e wz ⟨rfl, hp⟩
    go_wp2
    go_returns
    exact ⟨rfl, hp⟩

set_option maxHeartbeats 1000000 in
set_option maxRecDepth 100000 in
theorem roundUp_calls (C nd : Nat) (f : Nat → Nat) (dp n : Int) (w : World) (hnd : nd ≤ 800) (hD : Hid (DecAt w C f nd dp)) (hn : -10000 ≤ n ∧ n ≤ 10000) :
    Calls Tryz.prog 87 #[.pointer (some ⟨C, 0, none⟩), .int .i64 n] w fun e w' => (∃ b, e = .returned (.bool b)) ∧ w' = w := by
  have h800 := hD.out.hnd
  obtain ⟨btr, h803⟩ := hD.out.htr
  go_enter Tryz.func87, Tryz.ntmps87
  by_cases hneg : n < 0
  · have g0 : decide (n < 0) = true := by simp; omega
    go_wp2
    go_ret
    exact ⟨⟨_, rfl⟩, rfl⟩
  · obtain ⟨m, rfl⟩ : ∃ m : Nat, n = (m : Int) := ⟨n.toNat, by omega⟩
    clear hneg
    by_cases hge : nd ≤ m
    · have g0 : decide ((nd : Int) ≤ (m : Int)) = true := by simp; omega
      go_wp2
      go_ret
      exact ⟨⟨_, rfl⟩, rfl⟩
    · have hd := hD.out.dig m (by omega)
      by_cases h53 : f m = 53
      · have e53 : ((f m : Int) == 53) = true := by simp; omega
        by_cases hl : m + 1 = nd
        · cases btr with
          | true =>
            go_wp2
            go_ret
            exact ⟨⟨_, rfl⟩, rfl⟩
          | false =>
            by_cases hm : m = 0
            · have gm : decide (0 < m) = false := by simp; omega
              have gl : ((m : Int) + 1 == (nd : Int)) = true := by simp; omega
              have hm2 := Lib.hid hm
              clear hm hl h53
              go_wp2
              go_ret
              exact ⟨⟨_, rfl⟩, rfl⟩
            · have hm : 0 < m := by omega
              have hd1 := hD.out.dig (m - 1) (by omega)
              have hm1 : ((m : Int) - 1).toNat = m - 1 := by omega
              go_wp2
              go_ret
              exact ⟨⟨_, rfl⟩, rfl⟩
        · go_wp2
          go_ret
          exact ⟨⟨_, rfl⟩, rfl⟩
      · have e53 : ((f m : Int) == 53) = false := by simp; omega
        go_wp2
        go_ret
        exact ⟨⟨_, rfl⟩, rfl⟩

end Go.Proofs.YtlpkdagdfopchaaGreatDoor
