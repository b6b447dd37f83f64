/- FnFormat. -/
import Derived.Test.YtmgkolcpomaceaaJ8
namespace Go.Proofs.Ytmgkolcpomaceaa
open Go.RowKit Go.Maps
set_option linter.unusedVariables false
set_option linter.unusedSimpArgs false

set_option maxHeartbeats 16000000 in
set_option maxRecDepth 100000 in
theorem fnFormat_any (s : ByteArray) (l : List Pr) (A : Option Addr) (cap : Nat) (w : World) (hs : s.size ≤ maxLen) (hA : Hid (PairsAt w A l)) (hcap : l.length ≤ cap) :
    Calls Try.prog 11 #[.string s, .slice A l.length cap] w fun x w' => x = .returned (.bool true) ∧ Below w.heap.size w w' := by
  unfold maxLen at hs
  have hmf : ∀ (fn : Fn) (first cap : Array Value) (w : World), (Instr.makeFunc fn first cap).run Try.prog w = .ok (.func fn first cap) w := fun _ _ _ _ => rfl
  have HA1 := Lib.hid (hA.out.below (Below.own w (Obj.cells #[.slice A l.length cap] 22)))
  have HB0 := Lib.hid (Below.own w (Obj.cells #[.slice A l.length cap] 22))
  by_cases h1 : 2147483647 < s.size
  · have g1 : decide (2147483647 < (s.size : Int)) = true := decide_eq_true (by omega)
    have g2 : decide (2147483647 < s.size) = true := decide_eq_true (by omega)
    go_enter Try.func11, Try.ntmps11
    go_wp2
    go_ret
    exact ⟨rfl, HB0.out⟩
  have g1 : decide (2147483647 < (s.size : Int)) = false := decide_eq_false (by omega)
  have g2 : decide (2147483647 < s.size) = false := decide_eq_false (by omega)
  cases hf : fitsB l with
  | false =>
    have HF := Lib.hid hf
    clear hf
    go_enter Try.func11, Try.ntmps11
    go_wp2_with fail
    refine (zzFits2_calls l A cap _ HA1).mono ?_
    rw [HF.out]
    rintro e w1 ⟨rfl, hb⟩
    go_wp2_with fail
    go_ret
    exact ⟨rfl, below_own hb⟩
  | true =>
    have HF := Lib.hid hf
    clear hf
    cases ha : (asciiB s && smallB s) with
    | false =>
      have HAs := Lib.hid ha
      clear ha
      go_enter Try.func11, Try.ntmps11
      go_wp2_with fail
      refine (zzFits2_calls l A cap _ HA1).mono ?_
      rw [HF.out]
      rintro e w1 ⟨rfl, hb⟩
      go_wp2_with fail
      refine (ascii_calls s _ (by omega)).mono ?_
      rw [HAs.out]
      rintro e w2 ⟨rfl, rfl⟩
      go_wp2_with fail
      go_ret
      exact ⟨rfl, below_own hb⟩
    | true =>
      have HAs := Lib.hid ha
      have hs200 : s.size ≤ 200 := by simp [smallB] at ha; exact ha.2
      have hasc : Hid (asciiB s = true) := by have := ha; simp at this; exact this.1
      clear ha
      cases hok : pairsOkB l with
      | false =>
        have HOK := Lib.hid hok
        clear hok
        go_enter Try.func11, Try.ntmps11
        go_wp2_with fail
        refine (zzFits2_calls l A cap _ HA1).mono ?_
        rw [HF.out]
        rintro e w1 ⟨rfl, hb⟩
        have hc1 := own_cell hb 0
        simp at hc1
        have HA2 := Lib.hid (HA1.out.below hb)
        have HB1 := Lib.hid (below_own hb)
        clear hb
        go_wp2_with fail
        refine (ascii_calls s _ (by omega)).mono ?_
        rw [HAs.out]
        rintro e w2 ⟨rfl, rfl⟩
        go_wp2_with fail
        refine (pairsOk_calls l A cap _ HA2 HF.out hcap).mono ?_
        rw [HOK.out]
        rintro e w2 ⟨rfl, hb⟩
        go_wp2_with fail
        go_ret
        exact ⟨rfl, below_then HB1.out HB1.out.size hb⟩
      | true =>
        have HOK := Lib.hid hok
        have hl20 := len_of_ok hok
        clear hok
        go_enter Try.func11, Try.ntmps11
        go_wp2_with fail
        refine (zzFits2_calls l A cap _ HA1).mono ?_
        rw [HF.out]
        rintro e w1 ⟨rfl, hb⟩
        have hc1 := own_cell hb 0
        simp at hc1
        have hlt1 := own_lt hb
        have HA2 := Lib.hid (HA1.out.below hb)
        have HB1 := Lib.hid (below_own hb)
        clear hb
        go_wp2_with fail
        refine (ascii_calls s _ (by omega)).mono ?_
        rw [HAs.out]
        rintro e w2 ⟨rfl, rfl⟩
        go_wp2_with fail
        refine (pairsOk_calls l A cap _ HA2 HF.out hcap).mono ?_
        rw [HOK.out]
        rintro e w2 ⟨rfl, hb⟩
        have hc2 := (hb.cell (p := ⟨w.heap.size, 0, none⟩) hlt1).trans hc1
        have hlt2 := Nat.lt_of_lt_of_le hlt1 hb.size
        have HA3 := Lib.hid (HA2.out.below hb)
        have HB2 := Lib.hid (below_then HB1.out HB1.out.size hb)
        clear hb hc1
        have HV := Lib.hid (fun (n : ByteArray) (w' : World) (hw : Below w2.heap.size w2 w') => labelVal_calls n l A cap w.heap.size w' ((hw.cell (p := ⟨w.heap.size, 0, none⟩) hlt2).trans hc2) (HA3.out.below hw) hl20)
        go_wp2_with fail
        refine (specFormat_calls s l (.pointer (some ⟨w.heap.size, 0, none⟩)) _ hs200 HOK.out HV).mono ?_
        rintro e w3 ⟨rfl, hb⟩
        have hc3 := (hb.cell (p := ⟨w.heap.size, 0, none⟩) hlt2).trans hc2
        have HA4 := Lib.hid (HA3.out.below hb)
        have HB3 := Lib.hid (below_then HB2.out HB2.out.size hb)
        clear hb hc2 HV
        have HI := Lib.hid (fun w hA => implFormat_calls s l A cap w HOK.out hs200 hasc hA)
        generalize formatR l s.data.toList = r at HI
        go_wp2_with fail
        refine (HI.out _ HA4).mono ?_
        rintro e w4 ⟨rfl, hb⟩
        have HB4 := Lib.hid (below_then HB3.out HB3.out.size hb)
        clear hb
        cases r with
        | none =>
          go_wp2_with fail
          refine (silent_calls _).mono ?_
          rintro e w5 ⟨rfl, hb⟩
          go_wp2_with fail
          go_ret
          exact ⟨rfl, below_then HB4.out HB4.out.size hb⟩
        | some o =>
          go_wp2_with fail
          refine (silent_calls _).mono ?_
          rintro e w5 ⟨rfl, hb⟩
          go_wp2_with fail
          go_ret
          exact ⟨rfl, below_then HB4.out HB4.out.size hb⟩
end Go.Proofs.Ytmgkolcpomaceaa
