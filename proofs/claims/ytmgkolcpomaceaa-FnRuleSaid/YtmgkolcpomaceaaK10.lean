/- spec.List. -/
import Derived.Test.YtmgkolcpomaceaaJ1
namespace Go.Proofs.Ytmgkolcpomaceaa
open Go.RowKit
set_option linter.unusedVariables false
set_option linter.unusedSimpArgs false

def famN : ByteArray := ⟨#[70, 111, 110, 116, 70, 97, 109, 105, 108, 121]⟩
def imgN : ByteArray := ⟨#[66, 97, 99, 107, 103, 114, 111, 117, 110, 100, 73, 109, 97, 103, 101, 85, 82, 76, 115]⟩
def listB (n : ByteArray) : Bool := sameN n famN || sameN n imgN
theorem toList_fam : famN.toList = [70, 111, 110, 116, 70, 97, 109, 105, 108, 121] := by rw [ByteArray.toList_eq]; rfl
theorem toList_img : imgN.toList = [66, 97, 99, 107, 103, 114, 111, 117, 110, 100, 73, 109, 97, 103, 101, 85, 82, 76, 115] := by rw [ByteArray.toList_eq]; rfl
set_option maxRecDepth 100000 in
theorem list_calls (n : ByteArray) (w : World) :
    Calls Try.prog 42 #[.string n] w fun e w' => e = .returned (.bool (listB n)) ∧ w = w' := by
  have H1 := Lib.hid (show sameN n famN = (n.toList == [70, 111, 110, 116, 70, 97, 109, 105, 108, 121]) by rw [sameN, toList_fam])
  have H2 := Lib.hid (show sameN n imgN = (n.toList == [66, 97, 99, 107, 103, 114, 111, 117, 110, 100, 73, 109, 97, 103, 101, 85, 82, 76, 115]) by rw [sameN, toList_img])
  cases h1 : (n.toList == [70, 111, 110, 116, 70, 97, 109, 105, 108, 121]) with
  | true =>
    have G1 := Lib.hid h1
    go_enter Try.func42, Try.ntmps42
    go_wp2_with fail
    go_ret
    exact ⟨ret_bool (by rw [listB, H1.out, G1.out]; rfl), rfl⟩
  | false =>
    have G1 := Lib.hid h1
    cases h2 : (n.toList == [66, 97, 99, 107, 103, 114, 111, 117, 110, 100, 73, 109, 97, 103, 101, 85, 82, 76, 115]) with
    | true =>
      have G2 := Lib.hid h2
      go_enter Try.func42, Try.ntmps42
      go_wp2_with fail
      go_ret
      exact ⟨ret_bool (by rw [listB, H1.out, G1.out, H2.out, G2.out]; rfl), rfl⟩
    | false =>
      have G2 := Lib.hid h2
      go_enter Try.func42, Try.ntmps42
      go_wp2_with fail
      go_ret
      exact ⟨ret_bool (by rw [listB, H1.out, G1.out, H2.out, G2.out]; rfl), rfl⟩
end Go.Proofs.Ytmgkolcpomaceaa
