/- prefixIsLessThan f92. -/
import Derived.Test.YtlpkdagdfopchaaGreatDoorG3
namespace Go.Proofs.YtlpkdagdfopchaaGreatDoor
open Go.RowKit
set_option linter.unusedVariables false
set_option linter.unusedSimpArgs false

/-- Whether the digits from place i on are less than the bytes, as prefixIsLessThan says. -/
def prefLT (f : Nat → Nat) (nd : Nat) : Nat → List UInt8 → Bool
  | _, [] => false
  | i, c :: cs => if nd ≤ i then true else if f i = c.toNat then prefLT f nd (i + 1) cs else decide (f i < c.toNat)

set_option maxHeartbeats 1000000 in
set_option maxRecDepth 100000 in
theorem prefix_calls (C nd : Nat) (f : Nat → Nat) (dp : Int) (s : ByteArray) (w : World) (hnd : nd ≤ 800) (hs : s.size ≤ 1000) (hD : Hid (DecAt w C f nd dp)) (cap : Nat) :
    Calls Tryz.prog 92 #[.slice (some ⟨C, 0, none⟩) nd cap, .string s] w fun e w' => e = .returned (.bool (prefLT f nd 0 s.data.toList)) ∧ ∃ n, w' = w.drewN n := by
  have HD0 : Hid (∃ n, w = w.drewN n) := Lib.hid ⟨0, rfl⟩
  go_enter Tryz.func92, Tryz.ntmps92
  go_wp2
  go_loopw [5] (fun i wr => ∃ k : Nat, k ≤ s.size ∧ i = .int .i64 k ∧ Hid (∃ n, wr = w.drewN n) ∧ Hid (prefLT f nd 0 s.data.toList = prefLT f nd k (s.data.toList.drop k))) (fun i _ => s.size - (intOf i).toNat)
  case atStart => exact ⟨0, Nat.zero_le _, rfl, HD0, Lib.hid rfl⟩
  case round =>
    obtain ⟨k, hk, rfl, hW, hP⟩ := hrel
    by_cases hlt : k < s.size
    · have hdrop := drop_byte s k hlt
      by_cases hn : nd ≤ k
      · have g1 : decide ((nd : Int) ≤ (k : Int)) = true := by simp; omega
        have HF : Hid (prefLT f nd 0 s.data.toList = true) := Lib.hid (by rw [hP.out, hdrop, prefLT, if_pos hn])
        clear hdrop
        go_wp2
        go_ret
        exact ⟨ret_bool HF.out.symm, hW.out⟩
      · have g1 : decide ((nd : Int) ≤ (k : Int)) = false := by simp; omega
        have hD' : DecAt wr C f nd dp := by
          obtain ⟨n, rfl⟩ := hW.out
          exact hD.out.drew n
        have hd := hD'.dig k (by omega)
        have fd := hD'.free k (by omega)
        clear hD'
        by_cases hc : f k = s[k].toNat
        · have e0 : ((f k : Int) != (s[k].toNat : Int)) = false := by simp; omega
          have HF : Hid (prefLT f nd 0 s.data.toList = prefLT f nd (k + 1) (s.data.toList.drop (k + 1))) := Lib.hid (by rw [hP.out, hdrop, prefLT, if_neg hn, if_pos hc])
          clear hdrop
          go_wp2_with fail
          go_quiet (fail)
          have hW' : Hid (∃ n, wr.drewN nq = w.drewN n) := Lib.hid (by
            obtain ⟨n, rfl⟩ := hW.out
            exact ⟨n + nq, World.drewN_drewN _ _ _⟩)
          generalize wr.drewN nq = wq at hW' ⊢
          clear hd fd
          go_wp2
          go_roundw
          case rel => exact ⟨k + 1, by omega, by go_num, hW', HF⟩
          case measure => simp [intOf]; omega
        · have e0 : ((f k : Int) != (s[k].toNat : Int)) = true := by simp; omega
          have HF : Hid (prefLT f nd 0 s.data.toList = decide (f k < s[k].toNat)) := Lib.hid (by rw [hP.out, hdrop, prefLT, if_neg hn, if_neg hc])
          clear hdrop
          go_wp2_with fail
          go_quiet (fail)
          have hW' : Hid (∃ n, wr.drewN nq = w.drewN n) := Lib.hid (by
            obtain ⟨n, rfl⟩ := hW.out
            exact ⟨n + nq, World.drewN_drewN _ _ _⟩)
          have hd : (wr.drewN nq).cell? ⟨C, k, none⟩ = _ := hd
          have fd : (wr.drewN nq).frozen? ⟨C, k, none⟩ = _ := fd
          generalize wr.drewN nq = wq at hW' hd fd ⊢
          go_wp2_with fail
          go_quiet (fail)
          have hW'' : Hid (∃ n, wq.drewN nq = w.drewN n) := Lib.hid (by
            obtain ⟨n, rfl⟩ := hW'.out
            exact ⟨n + nq, World.drewN_drewN _ _ _⟩)
          generalize wq.drewN nq = wq2 at hW'' ⊢
          go_wp2
          go_ret
          exact ⟨by rw [HF.out]; simp, hW''.out⟩
    · obtain rfl : k = s.size := by omega
      have HF : Hid (prefLT f nd 0 s.data.toList = false) := Lib.hid (by rw [hP.out, List.drop_eq_nil_of_le (Nat.le_of_eq (by rw [Array.length_toList]; rfl)), prefLT])
      go_wp2
      go_ret
      exact ⟨ret_bool HF.out.symm, hW.out⟩

end Go.Proofs.YtlpkdagdfopchaaGreatDoor
