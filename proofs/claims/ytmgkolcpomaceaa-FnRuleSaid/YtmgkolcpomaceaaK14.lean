/- impl.field. -/
import Derived.Test.YtmgkolcpomaceaaK13
namespace Go.Proofs.Ytmgkolcpomaceaa
open Go.RowKit
set_option linter.unusedVariables false
set_option linter.unusedSimpArgs false

def fieldIx (n : ByteArray) : Option Nat :=
  if (n.toList == [68, 105, 115, 112, 108, 97, 121]) = true then some 2 else
  if (n.toList == [66, 97, 99, 107, 103, 114, 111, 117, 110, 100, 67, 111, 108, 111, 114]) = true then some 3 else
  if (n.toList == [66, 97, 99, 107, 103, 114, 111, 117, 110, 100, 80, 111, 115, 105, 116, 105, 111, 110]) = true then some 4 else
  if (n.toList == [66, 97, 99, 107, 103, 114, 111, 117, 110, 100, 82, 101, 112, 101, 97, 116]) = true then some 5 else
  if (n.toList == [66, 97, 99, 107, 103, 114, 111, 117, 110, 100, 83, 105, 122, 101]) = true then some 6 else
  if (n.toList == [67, 111, 108, 111, 114]) = true then some 7 else
  if (n.toList == [72, 101, 105, 103, 104, 116]) = true then some 8 else
  if (n.toList == [87, 105, 100, 116, 104]) = true then some 9 else
  if (n.toList == [76, 101, 102, 116]) = true then some 10 else
  if (n.toList == [82, 105, 103, 104, 116]) = true then some 11 else
  if (n.toList == [84, 111, 112]) = true then some 12 else
  if (n.toList == [66, 111, 116, 116, 111, 109]) = true then some 13 else
  if (n.toList == [70, 111, 110, 116, 87, 101, 105, 103, 104, 116]) = true then some 14 else
  if (n.toList == [80, 97, 100, 100, 105, 110, 103]) = true then some 15 else
  if (n.toList == [90, 73, 110, 100, 101, 120]) = true then some 16 else
  none
def fieldPtr (g : Nat) (o : Option Nat) : Value := match o with | some i => .pointer (some ⟨g, i, none⟩) | none => .pointer none
set_option maxHeartbeats 16000000 in
set_option maxRecDepth 100000 in
theorem field_calls (g : Nat) (n : ByteArray) (w : World) :
    Calls Try.prog 107 #[.pointer (some ⟨g, 0, none⟩), .string n] w fun e w' => e = .returned (fieldPtr g (fieldIx n)) ∧ w = w' := by
  have HF := Lib.hid (show fieldIx n = _ from by rw [fieldIx])
  cases h0 : (n.toList == [68, 105, 115, 112, 108, 97, 121]) with
  | true =>
    have G0 := Lib.hid h0
    go_enter Try.func107, Try.ntmps107
    go_wp2_with fail
    go_ret
    exact ⟨by rw [HF.out, G0.out]; rfl, rfl⟩
  | false =>
    have G0 := Lib.hid h0
    cases h1 : (n.toList == [66, 97, 99, 107, 103, 114, 111, 117, 110, 100, 67, 111, 108, 111, 114]) with
    | true =>
      have G1 := Lib.hid h1
      go_enter Try.func107, Try.ntmps107
      go_wp2_with fail
      go_ret
      exact ⟨by rw [HF.out, G0.out, G1.out]; rfl, rfl⟩
    | false =>
      have G1 := Lib.hid h1
      cases h2 : (n.toList == [66, 97, 99, 107, 103, 114, 111, 117, 110, 100, 80, 111, 115, 105, 116, 105, 111, 110]) with
      | true =>
        have G2 := Lib.hid h2
        go_enter Try.func107, Try.ntmps107
        go_wp2_with fail
        go_ret
        exact ⟨by rw [HF.out, G0.out, G1.out, G2.out]; rfl, rfl⟩
      | false =>
        have G2 := Lib.hid h2
        cases h3 : (n.toList == [66, 97, 99, 107, 103, 114, 111, 117, 110, 100, 82, 101, 112, 101, 97, 116]) with
        | true =>
          have G3 := Lib.hid h3
          go_enter Try.func107, Try.ntmps107
          go_wp2_with fail
          go_ret
          exact ⟨by rw [HF.out, G0.out, G1.out, G2.out, G3.out]; rfl, rfl⟩
        | false =>
          have G3 := Lib.hid h3
          cases h4 : (n.toList == [66, 97, 99, 107, 103, 114, 111, 117, 110, 100, 83, 105, 122, 101]) with
          | true =>
            have G4 := Lib.hid h4
            go_enter Try.func107, Try.ntmps107
            go_wp2_with fail
            go_ret
            exact ⟨by rw [HF.out, G0.out, G1.out, G2.out, G3.out, G4.out]; rfl, rfl⟩
          | false =>
            have G4 := Lib.hid h4
            cases h5 : (n.toList == [67, 111, 108, 111, 114]) with
            | true =>
              have G5 := Lib.hid h5
              go_enter Try.func107, Try.ntmps107
              go_wp2_with fail
              go_ret
              exact ⟨by rw [HF.out, G0.out, G1.out, G2.out, G3.out, G4.out, G5.out]; rfl, rfl⟩
            | false =>
              have G5 := Lib.hid h5
              cases h6 : (n.toList == [72, 101, 105, 103, 104, 116]) with
              | true =>
                have G6 := Lib.hid h6
                go_enter Try.func107, Try.ntmps107
                go_wp2_with fail
                go_ret
                exact ⟨by rw [HF.out, G0.out, G1.out, G2.out, G3.out, G4.out, G5.out, G6.out]; rfl, rfl⟩
              | false =>
                have G6 := Lib.hid h6
                cases h7 : (n.toList == [87, 105, 100, 116, 104]) with
                | true =>
                  have G7 := Lib.hid h7
                  go_enter Try.func107, Try.ntmps107
                  go_wp2_with fail
                  go_ret
                  exact ⟨by rw [HF.out, G0.out, G1.out, G2.out, G3.out, G4.out, G5.out, G6.out, G7.out]; rfl, rfl⟩
                | false =>
                  have G7 := Lib.hid h7
                  cases h8 : (n.toList == [76, 101, 102, 116]) with
                  | true =>
                    have G8 := Lib.hid h8
                    go_enter Try.func107, Try.ntmps107
                    go_wp2_with fail
                    go_ret
                    exact ⟨by rw [HF.out, G0.out, G1.out, G2.out, G3.out, G4.out, G5.out, G6.out, G7.out, G8.out]; rfl, rfl⟩
                  | false =>
                    have G8 := Lib.hid h8
                    cases h9 : (n.toList == [82, 105, 103, 104, 116]) with
                    | true =>
                      have G9 := Lib.hid h9
                      go_enter Try.func107, Try.ntmps107
                      go_wp2_with fail
                      go_ret
                      exact ⟨by rw [HF.out, G0.out, G1.out, G2.out, G3.out, G4.out, G5.out, G6.out, G7.out, G8.out, G9.out]; rfl, rfl⟩
                    | false =>
                      have G9 := Lib.hid h9
                      cases h10 : (n.toList == [84, 111, 112]) with
                      | true =>
                        have G10 := Lib.hid h10
                        go_enter Try.func107, Try.ntmps107
                        go_wp2_with fail
                        go_ret
                        exact ⟨by rw [HF.out, G0.out, G1.out, G2.out, G3.out, G4.out, G5.out, G6.out, G7.out, G8.out, G9.out, G10.out]; rfl, rfl⟩
                      | false =>
                        have G10 := Lib.hid h10
                        cases h11 : (n.toList == [66, 111, 116, 116, 111, 109]) with
                        | true =>
                          have G11 := Lib.hid h11
                          go_enter Try.func107, Try.ntmps107
                          go_wp2_with fail
                          go_ret
                          exact ⟨by rw [HF.out, G0.out, G1.out, G2.out, G3.out, G4.out, G5.out, G6.out, G7.out, G8.out, G9.out, G10.out, G11.out]; rfl, rfl⟩
                        | false =>
                          have G11 := Lib.hid h11
                          cases h12 : (n.toList == [70, 111, 110, 116, 87, 101, 105, 103, 104, 116]) with
                          | true =>
                            have G12 := Lib.hid h12
                            go_enter Try.func107, Try.ntmps107
                            go_wp2_with fail
                            go_ret
                            exact ⟨by rw [HF.out, G0.out, G1.out, G2.out, G3.out, G4.out, G5.out, G6.out, G7.out, G8.out, G9.out, G10.out, G11.out, G12.out]; rfl, rfl⟩
                          | false =>
                            have G12 := Lib.hid h12
                            cases h13 : (n.toList == [80, 97, 100, 100, 105, 110, 103]) with
                            | true =>
                              have G13 := Lib.hid h13
                              go_enter Try.func107, Try.ntmps107
                              go_wp2_with fail
                              go_ret
                              exact ⟨by rw [HF.out, G0.out, G1.out, G2.out, G3.out, G4.out, G5.out, G6.out, G7.out, G8.out, G9.out, G10.out, G11.out, G12.out, G13.out]; rfl, rfl⟩
                            | false =>
                              have G13 := Lib.hid h13
                              cases h14 : (n.toList == [90, 73, 110, 100, 101, 120]) with
                              | true =>
                                have G14 := Lib.hid h14
                                go_enter Try.func107, Try.ntmps107
                                go_wp2_with fail
                                go_ret
                                exact ⟨by rw [HF.out, G0.out, G1.out, G2.out, G3.out, G4.out, G5.out, G6.out, G7.out, G8.out, G9.out, G10.out, G11.out, G12.out, G13.out, G14.out]; rfl, rfl⟩
                              | false =>
                                have G14 := Lib.hid h14
                                go_enter Try.func107, Try.ntmps107
                                go_wp2_with fail
                                go_ret
                                exact ⟨by rw [HF.out, G0.out, G1.out, G2.out, G3.out, G4.out, G5.out, G6.out, G7.out, G8.out, G9.out, G10.out, G11.out, G12.out, G13.out, G14.out]; rfl, rfl⟩
end Go.Proofs.Ytmgkolcpomaceaa
