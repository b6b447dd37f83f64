/- spec.value. -/
import Derived.Test.YtmgkolcpomaceaaK2
namespace Go.Proofs.Ytmgkolcpomaceaa
open Go.RowKit
set_option linter.unusedVariables false
set_option linter.unusedSimpArgs false

theorem valueAt_eq (s : ByteArray) (k : Nat) (h : k < s.size) : valueAt s.data.toList k = (cssC s[k] || ((((s[k].toNat : Int) == 42) || ((s[k].toNat : Int) == 47)) && (decide (s.size ≤ k + 1) || cssC (s.data.toList.getD (k + 1) 0)))) := by
  have e1 : ((s[k].toNat : Int) == 42) = (s[k] == 42) := u8_beq s[k] 42
  have e2 : ((s[k].toNat : Int) == 47) = (s[k] == 47) := u8_beq s[k] 47
  rw [valueAt, getD_at s k h, e1, e2]
  simp

set_option maxHeartbeats 8000000 in
set_option maxRecDepth 100000 in
theorem value_calls (s : ByteArray) (w : World) (hs : s.size ≤ 2147483647) :
    Calls Try.prog 114 #[.string s] w fun e w' => e = .returned (.string (valueS s)) ∧ Below w.heap.size w w' := by
  have HL := Lib.hid (show valueL s.data.toList = (List.range s.size).all (valueAt s.data.toList) by rw [valueL]; simp)
  have HS := Lib.hid (show valueS s = if valueL s.data.toList = true then s else wrongS from rfl)
  go_enter Try.func114, Try.ntmps114
  go_wp2_with fail
  go_loopg [3] s.size (fun gk i wr => ∃ k : Nat, gk = s.size - k ∧ k ≤ s.size ∧ i = .int .i64 k ∧ Hid ((List.range k).all (valueAt s.data.toList) = true) ∧ Hid (Below w.heap.size w wr))
  case atStart => exact ⟨0, rfl, Nat.zero_le _, rfl, by simp [Hid], Below.refl _ _⟩
  case round =>
    obtain ⟨k, hgk, hk, rfl, ha, hB⟩ := hrel
    have HG := Lib.hid hgk
    clear hgk
    by_cases hlt : k < s.size
    · have H := Lib.hid (range_all_succ' (valueAt s.data.toList) k)
      have HA := Lib.hid (valueAt_eq s k hlt)
      cases hpl : cssC s[k] with
      | true =>
        have HPl := Lib.hid hpl
        clear hpl
        have HV := Lib.hid (show valueAt s.data.toList k = true by rw [HA.out, HPl.out]; rfl)
        go_wp2_with fail
        refine (cssPlain_calls s[k] _).mono ?_
        rw [HPl.out]
        rintro e w1 ⟨rfl, hb⟩
        have hB1 := Lib.hid (below_then hB.out hB.out.size hb)
        clear hb
        go_wp2_with fail
        go_roundg (s.size - (k + 1))
        case measure => rw [HG.out]; omega
        case rel => exact ⟨k + 1, rfl, by omega, by simp, by rw [Hid, H.out, ha.out, HV.out]; rfl, hB1⟩
      | false =>
        have HPl := Lib.hid hpl
        clear hpl
        cases hst : (((s[k].toNat : Int) == 42) || ((s[k].toNat : Int) == 47)) with
        | false =>
          have HV := Lib.hid (show valueAt s.data.toList k = false by rw [HA.out, HPl.out, hst]; rfl)
          have n42 : ((s[k].toNat : Int) != 42) = true := by simp at hst ⊢; exact hst.1
          have n47 : ((s[k].toNat : Int) != 47) = true := by simp at hst ⊢; exact hst.2
          have m42 : ((s[k].toNat : Int) == 42) = false := by simp at hst ⊢; exact hst.1
          have m47 : ((s[k].toNat : Int) == 47) = false := by simp at hst ⊢; exact hst.2
          clear hst
          go_wp2_with fail
          refine (cssPlain_calls s[k] _).mono ?_
          rw [HPl.out]
          rintro e w1 ⟨rfl, hb⟩
          have hB1 := Lib.hid (below_then hB.out hB.out.size hb)
          clear hb
          go_wp2_with fail
          go_ret
          exact ⟨ret_string (by rw [HS.out, HL.out, range_all_false' _ _ k hlt HV.out]; rfl), hB1.out⟩
        | true =>
          have Hst := Lib.hid hst
          rcases (show s[k].toNat = 42 ∨ (¬ s[k].toNat = 42 ∧ s[k].toNat = 47) by simp at hst; omega) with h42 | ⟨h42, h47⟩
          all_goals clear hst
          case inl =>
            have m42 : ((s[k].toNat : Int) == 42) = true := by simp; omega
            have n42 : ((s[k].toNat : Int) != 42) = false := by simp; omega
            clear h42
            by_cases hk1 : k + 1 < s.size
            · have g1 : decide ((k:Int) + 1 < (s.size : Int)) = true := by simp; omega
              have HNx := Lib.hid (getD_at s (k + 1) hk1)
              have HDc := Lib.hid (show decide (s.size ≤ k + 1) = false by simp; omega)
              cases hpn : cssC s[k + 1] with
              | true =>
                have HPn := Lib.hid hpn
                have HV := Lib.hid (show valueAt s.data.toList k = true by rw [HA.out, Hst.out, HNx.out, hpn]; simp)
                clear hpn
                go_wp2_with fail
                refine (cssPlain_calls s[k] _).mono ?_
                rw [HPl.out]
                rintro e w1 ⟨rfl, hb⟩
                have hB1 := Lib.hid (below_then hB.out hB.out.size hb)
                clear hb
                go_wp2_with fail
                refine (cssPlain_calls s[k + 1] _).mono ?_
                rw [HPn.out]
                rintro e w2 ⟨rfl, hb⟩
                have hB2 := Lib.hid (below_then hB1.out hB1.out.size hb)
                clear hb
                go_wp2_with fail
                go_roundg (s.size - (k + 1))
                case measure => rw [HG.out]; omega
                case rel => exact ⟨k + 1, rfl, by omega, by simp, by rw [Hid, H.out, ha.out, HV.out]; rfl, hB2⟩
              | false =>
                have HPn := Lib.hid hpn
                have HV := Lib.hid (show valueAt s.data.toList k = false by rw [HA.out, HPl.out, HNx.out, hpn, HDc.out]; simp)
                clear hpn
                go_wp2_with fail
                refine (cssPlain_calls s[k] _).mono ?_
                rw [HPl.out]
                rintro e w1 ⟨rfl, hb⟩
                have hB1 := Lib.hid (below_then hB.out hB.out.size hb)
                clear hb
                go_wp2_with fail
                refine (cssPlain_calls s[k + 1] _).mono ?_
                rw [HPn.out]
                rintro e w2 ⟨rfl, hb⟩
                have hB2 := Lib.hid (below_then hB1.out hB1.out.size hb)
                clear hb
                go_wp2_with fail
                go_ret
                exact ⟨ret_string (by rw [HS.out, HL.out, range_all_false' _ _ k hlt HV.out]; rfl), hB2.out⟩
            · have g1 : decide ((k:Int) + 1 < (s.size : Int)) = false := by simp; omega
              have HV := Lib.hid (show valueAt s.data.toList k = true by rw [HA.out, Hst.out]; simp; omega)
              go_wp2_with fail
              refine (cssPlain_calls s[k] _).mono ?_
              rw [HPl.out]
              rintro e w1 ⟨rfl, hb⟩
              have hB1 := Lib.hid (below_then hB.out hB.out.size hb)
              clear hb
              go_wp2_with fail
              go_roundg (s.size - (k + 1))
              case measure => rw [HG.out]; omega
              case rel => exact ⟨k + 1, rfl, by omega, by simp, by rw [Hid, H.out, ha.out, HV.out]; rfl, hB1⟩
          case inr =>
            have m42 : ((s[k].toNat : Int) == 42) = false := by simp; omega
            have n42 : ((s[k].toNat : Int) != 42) = true := by simp; omega
            have m47 : ((s[k].toNat : Int) == 47) = true := by simp; omega
            have n47 : ((s[k].toNat : Int) != 47) = false := by simp; omega
            clear h47
            clear h42
            by_cases hk1 : k + 1 < s.size
            · have g1 : decide ((k:Int) + 1 < (s.size : Int)) = true := by simp; omega
              have HNx := Lib.hid (getD_at s (k + 1) hk1)
              have HDc := Lib.hid (show decide (s.size ≤ k + 1) = false by simp; omega)
              cases hpn : cssC s[k + 1] with
              | true =>
                have HPn := Lib.hid hpn
                have HV := Lib.hid (show valueAt s.data.toList k = true by rw [HA.out, Hst.out, HNx.out, hpn]; simp)
                clear hpn
                go_wp2_with fail
                refine (cssPlain_calls s[k] _).mono ?_
                rw [HPl.out]
                rintro e w1 ⟨rfl, hb⟩
                have hB1 := Lib.hid (below_then hB.out hB.out.size hb)
                clear hb
                go_wp2_with fail
                refine (cssPlain_calls s[k + 1] _).mono ?_
                rw [HPn.out]
                rintro e w2 ⟨rfl, hb⟩
                have hB2 := Lib.hid (below_then hB1.out hB1.out.size hb)
                clear hb
                go_wp2_with fail
                go_roundg (s.size - (k + 1))
                case measure => rw [HG.out]; omega
                case rel => exact ⟨k + 1, rfl, by omega, by simp, by rw [Hid, H.out, ha.out, HV.out]; rfl, hB2⟩
              | false =>
                have HPn := Lib.hid hpn
                have HV := Lib.hid (show valueAt s.data.toList k = false by rw [HA.out, HPl.out, HNx.out, hpn, HDc.out]; simp)
                clear hpn
                go_wp2_with fail
                refine (cssPlain_calls s[k] _).mono ?_
                rw [HPl.out]
                rintro e w1 ⟨rfl, hb⟩
                have hB1 := Lib.hid (below_then hB.out hB.out.size hb)
                clear hb
                go_wp2_with fail
                refine (cssPlain_calls s[k + 1] _).mono ?_
                rw [HPn.out]
                rintro e w2 ⟨rfl, hb⟩
                have hB2 := Lib.hid (below_then hB1.out hB1.out.size hb)
                clear hb
                go_wp2_with fail
                go_ret
                exact ⟨ret_string (by rw [HS.out, HL.out, range_all_false' _ _ k hlt HV.out]; rfl), hB2.out⟩
            · have g1 : decide ((k:Int) + 1 < (s.size : Int)) = false := by simp; omega
              have HV := Lib.hid (show valueAt s.data.toList k = true by rw [HA.out, Hst.out]; simp; omega)
              go_wp2_with fail
              refine (cssPlain_calls s[k] _).mono ?_
              rw [HPl.out]
              rintro e w1 ⟨rfl, hb⟩
              have hB1 := Lib.hid (below_then hB.out hB.out.size hb)
              clear hb
              go_wp2_with fail
              go_roundg (s.size - (k + 1))
              case measure => rw [HG.out]; omega
              case rel => exact ⟨k + 1, rfl, by omega, by simp, by rw [Hid, H.out, ha.out, HV.out]; rfl, hB1⟩
    · have hks : k = s.size := by omega
      have HT := Lib.hid (show (List.range s.size).all (valueAt s.data.toList) = true by rw [← hks]; exact ha.out)
      clear hks HG
      go_wp2_with fail
      go_ret
      exact ⟨ret_string (by rw [HS.out, HL.out, HT.out]; rfl), hB.out⟩
end Go.Proofs.Ytmgkolcpomaceaa
