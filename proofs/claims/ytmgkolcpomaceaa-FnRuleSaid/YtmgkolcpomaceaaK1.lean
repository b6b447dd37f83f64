/- Classes of bytes in styles. -/
import Derived.Test.YtmgkolcpomaceaaB8
import Derived.Test.YtmgkolcpomaceaaD1
namespace Go.Proofs.Ytmgkolcpomaceaa
open Go.RowKit
set_option linter.unusedVariables false
set_option linter.unusedSimpArgs false
def dashC (c : UInt8) : Bool := letterC c || c == 45
def dashC2 (c : UInt8) : Bool := c == 45 || letterC c
theorem dashC_eq (c : UInt8) : dashC2 c = dashC c := by rw [dashC, dashC2, Bool.or_comm]
def cssC (c : UInt8) : Bool := letterC c || digitC c || c == 43 || c == 45 || c == 46 || c == 33 || c == 35 || c == 37 || c == 95 || c == 32 || c == 9

set_option maxHeartbeats 4000000 in
set_option maxRecDepth 100000 in
theorem shown1_calls (c : UInt8) (w : World) : Calls Try.prog 139 #[.int .u8 (c.toNat : Int)] w fun e w' => e = .returned (.bool (dashC c)) ∧ Below w.heap.size w w' := by
  have h256 := c.toNat_lt
  have HW := Lib.hid (Below.refl w.heap.size w)
  cases e0 : letterC c
  case' true =>
    have HF := Lib.hid (show dashC c = true by simp [dashC, e0])
    have P0 := Lib.hid e0
    clear e0
    go_enter Try.func139, Try.ntmps139
    go_wp2_with fail
    refine (specLetter_calls c _).mono ?_
    rintro e w' ⟨rfl, rfl⟩
    have p0 := P0.out
    go_wp2
    go_ret
    exact ⟨ret_bool HF.out.symm, HW.out⟩
  have P0 := Lib.hid e0
  clear e0
  by_cases e1 : c = 45
  · have g1 : ((c.toNat : Int) == 45) = true := eq_u8 _ _ e1
    have HF := Lib.hid (show dashC c = true by simp [dashC, e1])
    clear e1
    go_enter Try.func139, Try.ntmps139
    go_wp2_with fail
    refine (specLetter_calls c _).mono ?_
    rintro e w' ⟨rfl, rfl⟩
    have p0 := P0.out
    go_wp2
    go_ret
    exact ⟨ret_bool HF.out.symm, HW.out⟩
  have g1 : ((c.toNat : Int) == 45) = false := ne_u8 _ _ e1
  have P1 := Lib.hid e1
  clear e1
  have HF := Lib.hid (show dashC c = false by simp [dashC, P0.out, P1.out])
  go_enter Try.func139, Try.ntmps139
  go_wp2_with fail
  refine (specLetter_calls c _).mono ?_
  rintro e w' ⟨rfl, rfl⟩
  have p0 := P0.out
  go_wp2
  go_ret
  exact ⟨ret_bool HF.out.symm, HW.out⟩

set_option maxHeartbeats 4000000 in
set_option maxRecDepth 100000 in
theorem family1_calls (c : UInt8) (w : World) : Calls Try.prog 140 #[.int .u8 (c.toNat : Int)] w fun e w' => e = .returned (.bool (dashC c)) ∧ Below w.heap.size w w' := by
  have h256 := c.toNat_lt
  have HW := Lib.hid (Below.refl w.heap.size w)
  cases e0 : letterC c
  case' true =>
    have HF := Lib.hid (show dashC c = true by simp [dashC, e0])
    have P0 := Lib.hid e0
    clear e0
    go_enter Try.func140, Try.ntmps140
    go_wp2_with fail
    refine (specLetter_calls c _).mono ?_
    rintro e w' ⟨rfl, rfl⟩
    have p0 := P0.out
    go_wp2
    go_ret
    exact ⟨ret_bool HF.out.symm, HW.out⟩
  have P0 := Lib.hid e0
  clear e0
  by_cases e1 : c = 45
  · have g1 : ((c.toNat : Int) == 45) = true := eq_u8 _ _ e1
    have HF := Lib.hid (show dashC c = true by simp [dashC, e1])
    clear e1
    go_enter Try.func140, Try.ntmps140
    go_wp2_with fail
    refine (specLetter_calls c _).mono ?_
    rintro e w' ⟨rfl, rfl⟩
    have p0 := P0.out
    go_wp2
    go_ret
    exact ⟨ret_bool HF.out.symm, HW.out⟩
  have g1 : ((c.toNat : Int) == 45) = false := ne_u8 _ _ e1
  have P1 := Lib.hid e1
  clear e1
  have HF := Lib.hid (show dashC c = false by simp [dashC, P0.out, P1.out])
  go_enter Try.func140, Try.ntmps140
  go_wp2_with fail
  refine (specLetter_calls c _).mono ?_
  rintro e w' ⟨rfl, rfl⟩
  have p0 := P0.out
  go_wp2
  go_ret
  exact ⟨ret_bool HF.out.symm, HW.out⟩

set_option maxHeartbeats 4000000 in
set_option maxRecDepth 100000 in
theorem ident1_calls (c : UInt8) (w : World) : Calls Try.prog 158 #[.int .u8 (c.toNat : Int)] w fun e w' => e = .returned (.bool (dashC2 c)) ∧ Below w.heap.size w w' := by
  have h256 := c.toNat_lt
  have HW := Lib.hid (Below.refl w.heap.size w)
  by_cases e0 : c = 45
  · have g0 : ((c.toNat : Int) == 45) = true := eq_u8 _ _ e0
    have HF := Lib.hid (show dashC2 c = true by simp [dashC2, e0])
    clear e0
    go_enter Try.func158, Try.ntmps158
    go_wp2
    go_ret
    exact ⟨ret_bool HF.out.symm, HW.out⟩
  have g0 : ((c.toNat : Int) == 45) = false := ne_u8 _ _ e0
  have P0 := Lib.hid e0
  clear e0
  cases e1 : letterC c
  case' true =>
    have HF := Lib.hid (show dashC2 c = true by simp [dashC2, e1])
    have P1 := Lib.hid e1
    clear e1
    go_enter Try.func158, Try.ntmps158
    go_wp2_with fail
    refine (zzLetter_calls c _).mono ?_
    rintro e w' ⟨rfl, rfl⟩
    have p1 := P1.out
    go_wp2
    go_ret
    exact ⟨ret_bool HF.out.symm, HW.out⟩
  have P1 := Lib.hid e1
  clear e1
  have HF := Lib.hid (show dashC2 c = false by simp [dashC2, P0.out, P1.out])
  go_enter Try.func158, Try.ntmps158
  go_wp2_with fail
  refine (zzLetter_calls c _).mono ?_
  rintro e w' ⟨rfl, rfl⟩
  have p1 := P1.out
  go_wp2
  go_ret
  exact ⟨ret_bool HF.out.symm, HW.out⟩

set_option maxHeartbeats 4000000 in
set_option maxRecDepth 100000 in
theorem enum1_calls (c : UInt8) (w : World) : Calls Try.prog 159 #[.int .u8 (c.toNat : Int)] w fun e w' => e = .returned (.bool (dashC2 c)) ∧ Below w.heap.size w w' := by
  have h256 := c.toNat_lt
  have HW := Lib.hid (Below.refl w.heap.size w)
  by_cases e0 : c = 45
  · have g0 : ((c.toNat : Int) == 45) = true := eq_u8 _ _ e0
    have HF := Lib.hid (show dashC2 c = true by simp [dashC2, e0])
    clear e0
    go_enter Try.func159, Try.ntmps159
    go_wp2
    go_ret
    exact ⟨ret_bool HF.out.symm, HW.out⟩
  have g0 : ((c.toNat : Int) == 45) = false := ne_u8 _ _ e0
  have P0 := Lib.hid e0
  clear e0
  cases e1 : letterC c
  case' true =>
    have HF := Lib.hid (show dashC2 c = true by simp [dashC2, e1])
    have P1 := Lib.hid e1
    clear e1
    go_enter Try.func159, Try.ntmps159
    go_wp2_with fail
    refine (zzLetter_calls c _).mono ?_
    rintro e w' ⟨rfl, rfl⟩
    have p1 := P1.out
    go_wp2
    go_ret
    exact ⟨ret_bool HF.out.symm, HW.out⟩
  have P1 := Lib.hid e1
  clear e1
  have HF := Lib.hid (show dashC2 c = false by simp [dashC2, P0.out, P1.out])
  go_enter Try.func159, Try.ntmps159
  go_wp2_with fail
  refine (zzLetter_calls c _).mono ?_
  rintro e w' ⟨rfl, rfl⟩
  have p1 := P1.out
  go_wp2
  go_ret
  exact ⟨ret_bool HF.out.symm, HW.out⟩

set_option maxHeartbeats 4000000 in
set_option maxRecDepth 100000 in
theorem cssPlain_calls (c : UInt8) (w : World) : Calls Try.prog 141 #[.int .u8 (c.toNat : Int)] w fun e w' => e = .returned (.bool (cssC c)) ∧ Below w.heap.size w w' := by
  have h256 := c.toNat_lt
  have HW := Lib.hid (Below.refl w.heap.size w)
  cases e0 : letterC c
  case' true =>
    have HF := Lib.hid (show cssC c = true by simp [cssC, e0])
    have P0 := Lib.hid e0
    clear e0
    go_enter Try.func141, Try.ntmps141
    go_wp2_with fail
    refine (specLetter_calls c _).mono ?_
    rintro e w' ⟨rfl, rfl⟩
    have p0 := P0.out
    go_wp2
    go_ret
    exact ⟨ret_bool HF.out.symm, HW.out⟩
  have P0 := Lib.hid e0
  clear e0
  cases e1 : digitC c
  case' true =>
    have HF := Lib.hid (show cssC c = true by simp [cssC, e1])
    have P1 := Lib.hid e1
    clear e1
    go_enter Try.func141, Try.ntmps141
    go_wp2_with fail
    refine (specLetter_calls c _).mono ?_
    rintro e w' ⟨rfl, rfl⟩
    have p0 := P0.out
    go_wp2_with fail
    refine (specFigure_calls c _).mono ?_
    rintro e w' ⟨rfl, rfl⟩
    have p1 := P1.out
    go_wp2
    go_ret
    exact ⟨ret_bool HF.out.symm, HW.out⟩
  have P1 := Lib.hid e1
  clear e1
  by_cases e2 : c = 43
  · have g2 : ((c.toNat : Int) == 43) = true := eq_u8 _ _ e2
    have HF := Lib.hid (show cssC c = true by simp [cssC, e2])
    clear e2
    go_enter Try.func141, Try.ntmps141
    go_wp2_with fail
    refine (specLetter_calls c _).mono ?_
    rintro e w' ⟨rfl, rfl⟩
    have p0 := P0.out
    go_wp2_with fail
    refine (specFigure_calls c _).mono ?_
    rintro e w' ⟨rfl, rfl⟩
    have p1 := P1.out
    go_wp2
    go_ret
    exact ⟨ret_bool HF.out.symm, HW.out⟩
  have g2 : ((c.toNat : Int) == 43) = false := ne_u8 _ _ e2
  have P2 := Lib.hid e2
  clear e2
  by_cases e3 : c = 45
  · have g3 : ((c.toNat : Int) == 45) = true := eq_u8 _ _ e3
    have HF := Lib.hid (show cssC c = true by simp [cssC, e3])
    clear e3
    go_enter Try.func141, Try.ntmps141
    go_wp2_with fail
    refine (specLetter_calls c _).mono ?_
    rintro e w' ⟨rfl, rfl⟩
    have p0 := P0.out
    go_wp2_with fail
    refine (specFigure_calls c _).mono ?_
    rintro e w' ⟨rfl, rfl⟩
    have p1 := P1.out
    go_wp2
    go_ret
    exact ⟨ret_bool HF.out.symm, HW.out⟩
  have g3 : ((c.toNat : Int) == 45) = false := ne_u8 _ _ e3
  have P3 := Lib.hid e3
  clear e3
  by_cases e4 : c = 46
  · have g4 : ((c.toNat : Int) == 46) = true := eq_u8 _ _ e4
    have HF := Lib.hid (show cssC c = true by simp [cssC, e4])
    clear e4
    go_enter Try.func141, Try.ntmps141
    go_wp2_with fail
    refine (specLetter_calls c _).mono ?_
    rintro e w' ⟨rfl, rfl⟩
    have p0 := P0.out
    go_wp2_with fail
    refine (specFigure_calls c _).mono ?_
    rintro e w' ⟨rfl, rfl⟩
    have p1 := P1.out
    go_wp2
    go_ret
    exact ⟨ret_bool HF.out.symm, HW.out⟩
  have g4 : ((c.toNat : Int) == 46) = false := ne_u8 _ _ e4
  have P4 := Lib.hid e4
  clear e4
  by_cases e5 : c = 33
  · have g5 : ((c.toNat : Int) == 33) = true := eq_u8 _ _ e5
    have HF := Lib.hid (show cssC c = true by simp [cssC, e5])
    clear e5
    go_enter Try.func141, Try.ntmps141
    go_wp2_with fail
    refine (specLetter_calls c _).mono ?_
    rintro e w' ⟨rfl, rfl⟩
    have p0 := P0.out
    go_wp2_with fail
    refine (specFigure_calls c _).mono ?_
    rintro e w' ⟨rfl, rfl⟩
    have p1 := P1.out
    go_wp2
    go_ret
    exact ⟨ret_bool HF.out.symm, HW.out⟩
  have g5 : ((c.toNat : Int) == 33) = false := ne_u8 _ _ e5
  have P5 := Lib.hid e5
  clear e5
  by_cases e6 : c = 35
  · have g6 : ((c.toNat : Int) == 35) = true := eq_u8 _ _ e6
    have HF := Lib.hid (show cssC c = true by simp [cssC, e6])
    clear e6
    go_enter Try.func141, Try.ntmps141
    go_wp2_with fail
    refine (specLetter_calls c _).mono ?_
    rintro e w' ⟨rfl, rfl⟩
    have p0 := P0.out
    go_wp2_with fail
    refine (specFigure_calls c _).mono ?_
    rintro e w' ⟨rfl, rfl⟩
    have p1 := P1.out
    go_wp2
    go_ret
    exact ⟨ret_bool HF.out.symm, HW.out⟩
  have g6 : ((c.toNat : Int) == 35) = false := ne_u8 _ _ e6
  have P6 := Lib.hid e6
  clear e6
  by_cases e7 : c = 37
  · have g7 : ((c.toNat : Int) == 37) = true := eq_u8 _ _ e7
    have HF := Lib.hid (show cssC c = true by simp [cssC, e7])
    clear e7
    go_enter Try.func141, Try.ntmps141
    go_wp2_with fail
    refine (specLetter_calls c _).mono ?_
    rintro e w' ⟨rfl, rfl⟩
    have p0 := P0.out
    go_wp2_with fail
    refine (specFigure_calls c _).mono ?_
    rintro e w' ⟨rfl, rfl⟩
    have p1 := P1.out
    go_wp2
    go_ret
    exact ⟨ret_bool HF.out.symm, HW.out⟩
  have g7 : ((c.toNat : Int) == 37) = false := ne_u8 _ _ e7
  have P7 := Lib.hid e7
  clear e7
  by_cases e8 : c = 95
  · have g8 : ((c.toNat : Int) == 95) = true := eq_u8 _ _ e8
    have HF := Lib.hid (show cssC c = true by simp [cssC, e8])
    clear e8
    go_enter Try.func141, Try.ntmps141
    go_wp2_with fail
    refine (specLetter_calls c _).mono ?_
    rintro e w' ⟨rfl, rfl⟩
    have p0 := P0.out
    go_wp2_with fail
    refine (specFigure_calls c _).mono ?_
    rintro e w' ⟨rfl, rfl⟩
    have p1 := P1.out
    go_wp2
    go_ret
    exact ⟨ret_bool HF.out.symm, HW.out⟩
  have g8 : ((c.toNat : Int) == 95) = false := ne_u8 _ _ e8
  have P8 := Lib.hid e8
  clear e8
  by_cases e9 : c = 32
  · have g9 : ((c.toNat : Int) == 32) = true := eq_u8 _ _ e9
    have HF := Lib.hid (show cssC c = true by simp [cssC, e9])
    clear e9
    go_enter Try.func141, Try.ntmps141
    go_wp2_with fail
    refine (specLetter_calls c _).mono ?_
    rintro e w' ⟨rfl, rfl⟩
    have p0 := P0.out
    go_wp2_with fail
    refine (specFigure_calls c _).mono ?_
    rintro e w' ⟨rfl, rfl⟩
    have p1 := P1.out
    go_wp2
    go_ret
    exact ⟨ret_bool HF.out.symm, HW.out⟩
  have g9 : ((c.toNat : Int) == 32) = false := ne_u8 _ _ e9
  have P9 := Lib.hid e9
  clear e9
  by_cases e10 : c = 9
  · have g10 : ((c.toNat : Int) == 9) = true := eq_u8 _ _ e10
    have HF := Lib.hid (show cssC c = true by simp [cssC, e10])
    clear e10
    go_enter Try.func141, Try.ntmps141
    go_wp2_with fail
    refine (specLetter_calls c _).mono ?_
    rintro e w' ⟨rfl, rfl⟩
    have p0 := P0.out
    go_wp2_with fail
    refine (specFigure_calls c _).mono ?_
    rintro e w' ⟨rfl, rfl⟩
    have p1 := P1.out
    go_wp2
    go_ret
    exact ⟨ret_bool HF.out.symm, HW.out⟩
  have g10 : ((c.toNat : Int) == 9) = false := ne_u8 _ _ e10
  have P10 := Lib.hid e10
  clear e10
  have HF := Lib.hid (show cssC c = false by simp [cssC, P0.out, P1.out, P2.out, P3.out, P4.out, P5.out, P6.out, P7.out, P8.out, P9.out, P10.out])
  go_enter Try.func141, Try.ntmps141
  go_wp2_with fail
  refine (specLetter_calls c _).mono ?_
  rintro e w' ⟨rfl, rfl⟩
  have p0 := P0.out
  go_wp2_with fail
  refine (specFigure_calls c _).mono ?_
  rintro e w' ⟨rfl, rfl⟩
  have p1 := P1.out
  go_wp2
  go_ret
  exact ⟨ret_bool HF.out.symm, HW.out⟩
end Go.Proofs.Ytmgkolcpomaceaa
