/- impl.Style and FnStyle. -/
import Derived.Test.YtmgkolcpomaceaaK27
namespace Go.Proofs.Ytmgkolcpomaceaa
open Go.RowKit Go.Maps
set_option linter.unusedVariables false
set_option linter.unusedSimpArgs false

set_option maxRecDepth 100000 in
theorem implStyle_calls (l : List Pr) (A : Option Addr) (cap : Nat) (w : World) (hA : Hid (PairsAt w A l)) (hok : pairsOkB l = true) (hin : l.all inFields = true) :
    Calls Try.prog 43 #[.slice A l.length cap] w fun e w' => ∃ T : ByteArray, e = .returned (.string T) ∧ T.data.toList = implT l ∧ T.size ≤ 2000000 ∧ Below w.heap.size w w' := by
  go_enter Try.func43, Try.ntmps43
  go_wp2_with fail
  refine (style_calls l A cap _ hA hok hin).mono ?_
  rintro e w1 ⟨T, rfl, hT, hTs, hb⟩
  have HT := Lib.hid hT
  clear hT
  go_wp2_with fail
  refine (styleString_calls _ _).mono ?_
  rintro e w2 ⟨rfl, hb2⟩
  go_wp2_with fail
  go_ret
  exact ⟨T, rfl, HT.out, hTs, below_then hb hb.size (below_own hb2)⟩

set_option maxHeartbeats 16000000 in
set_option maxRecDepth 100000 in
theorem fnStyle_any (l : List Pr) (A : Option Addr) (cap : Nat) (w : World) (hA : Hid (PairsAt w A l)) (hcap : l.length ≤ cap) :
    Calls Try.prog 13 #[.slice A l.length cap] w fun x w' => x = .returned (.bool true) ∧ Below w.heap.size w w' := by
  cases hf : fitsB l with
  | false =>
    have HF := Lib.hid hf
    clear hf
    go_enter Try.func13, Try.ntmps13
    go_wp2_with fail
    refine (zzFits2_calls l A cap _ hA).mono ?_
    rw [HF.out]
    rintro e w1 ⟨rfl, hb⟩
    go_wp2_with fail
    go_ret
    exact ⟨rfl, hb⟩
  | true =>
    have HF := Lib.hid hf
    clear hf
    go_enter Try.func13, Try.ntmps13
    go_wp2_with fail
    refine (zzFits2_calls l A cap _ hA).mono ?_
    rw [HF.out]
    rintro e w1 ⟨rfl, hb⟩
    have HA1 := Lib.hid (hA.out.below hb)
    have HB1 := Lib.hid hb
    clear hb
    go_wp2_with fail
    refine (styled_calls l A cap _ HA1 HF.out hcap).mono ?_
    rintro e w2 ⟨⟨X, says, rfl, hs⟩, hb⟩
    have HA2 := Lib.hid (HA1.out.below hb)
    have HB2 := Lib.hid (below_then HB1.out HB1.out.size hb)
    clear hb
    cases says with
    | false =>
      clear hs
      go_wp2_with fail
      go_ret
      exact ⟨rfl, HB2.out⟩
    | true =>
      obtain ⟨hok, hall, hkn, hX⟩ := hs rfl
      have HI := Lib.hid (fun w hA => implStyle_calls l A cap w hA hok (all_known hkn))
      have HX := Lib.hid (hX.trans (implT_eq l hall).symm)
      clear hs hok hall hkn hX
      go_wp2_with fail
      refine (HI.out _ HA2).mono ?_
      rintro e w3 ⟨T, rfl, hT, hTs, hb⟩
      have HB3 := Lib.hid (below_then HB2.out HB2.out.size hb)
      have hTX : T = X := WideShapes.bytes_inj (hT.trans HX.out.symm)
      subst hTX
      clear hb hT HX
      go_wp2_with fail
      refine (silent_calls _).mono ?_
      rintro e w4 ⟨rfl, hb⟩
      go_wp2_with fail
      go_ret
      exact ⟨rfl, below_then HB3.out HB3.out.size hb⟩
end Go.Proofs.Ytmgkolcpomaceaa
