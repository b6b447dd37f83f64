/- Identifiers: the functions of the package and of the reference. -/
import Derived.Test.YtmgkolcpomaceaaB2
import Derived.Test.YtmgkolcpomaceaaB8
import Derived.Test.YtmgkolcpomaceaaD1
namespace Go.Proofs.Ytmgkolcpomaceaa
open Go.RowKit
set_option linter.unusedVariables false
set_option linter.unusedSimpArgs false

def nameC (c : UInt8) : Bool := c == 45 || c == 95 || letterC c || digitC c
def headLetter (s : ByteArray) : Bool := match s.data.toList with
  | [] => false
  | c :: _ => letterC c
def namesB (s : ByteArray) : Bool := s.data.toList.all nameC
def identB (s : ByteArray) : Bool := headLetter s && namesB s
theorem headLetter_empty {s : ByteArray} (h : ¬ 0 < s.size) : headLetter s = false := by
  have hl : s.data.toList.length = s.size := by simp
  have e : s.data.toList = [] := List.eq_nil_of_length_eq_zero (by omega)
  rw [headLetter, e]
theorem headLetter_some {s : ByteArray} (h : 0 < s.size) : headLetter s = letterC s[0] := by
  have e := drop_byte s 0 h
  rw [List.drop_zero] at e
  rw [headLetter, e]

set_option maxHeartbeats 4000000 in
set_option maxRecDepth 100000 in
theorem alnum1_calls (c : UInt8) (w : World) : Calls Try.prog 150 #[.int .u8 (c.toNat : Int)] w fun e w' => e = .returned (.bool (nameC c)) ∧ Below w.heap.size w w' := by
  have h256 := c.toNat_lt
  have HW := Lib.hid (Below.refl w.heap.size w)
  by_cases e0 : c = 45
  · have g0 : ((c.toNat : Int) == 45) = true := eq_u8 _ _ e0
    have HF := Lib.hid (show nameC c = true by simp [nameC, e0])
    clear e0
    go_enter Try.func150, Try.ntmps150
    go_wp2
    go_ret
    exact ⟨ret_bool HF.out.symm, HW.out⟩
  have g0 : ((c.toNat : Int) == 45) = false := ne_u8 _ _ e0
  have P0 := Lib.hid e0
  clear e0
  by_cases e1 : c = 95
  · have g1 : ((c.toNat : Int) == 95) = true := eq_u8 _ _ e1
    have HF := Lib.hid (show nameC c = true by simp [nameC, e1])
    clear e1
    go_enter Try.func150, Try.ntmps150
    go_wp2
    go_ret
    exact ⟨ret_bool HF.out.symm, HW.out⟩
  have g1 : ((c.toNat : Int) == 95) = false := ne_u8 _ _ e1
  have P1 := Lib.hid e1
  clear e1
  cases e2 : letterC c
  case' true =>
    have HF := Lib.hid (show nameC c = true by simp [nameC, e2])
    have P2 := Lib.hid e2
    clear e2
    go_enter Try.func150, Try.ntmps150
    go_wp2_with fail
    refine (zzLetter_calls c _).mono ?_
    rintro e w' ⟨rfl, rfl⟩
    have p2 := P2.out
    go_wp2
    go_ret
    exact ⟨ret_bool HF.out.symm, HW.out⟩
  have P2 := Lib.hid e2
  clear e2
  cases e3 : digitC c
  case' true =>
    have HF := Lib.hid (show nameC c = true by simp [nameC, e3])
    have P3 := Lib.hid e3
    clear e3
    go_enter Try.func150, Try.ntmps150
    go_wp2_with fail
    refine (zzLetter_calls c _).mono ?_
    rintro e w' ⟨rfl, rfl⟩
    have p2 := P2.out
    go_wp2_with fail
    refine (zzDigit_calls c _).mono ?_
    rintro e w' ⟨rfl, rfl⟩
    have p3 := P3.out
    go_wp2
    go_ret
    exact ⟨ret_bool HF.out.symm, HW.out⟩
  have P3 := Lib.hid e3
  clear e3
  have HF := Lib.hid (show nameC c = false by simp [nameC, P0.out, P1.out, P2.out, P3.out])
  go_enter Try.func150, Try.ntmps150
  go_wp2_with fail
  refine (zzLetter_calls c _).mono ?_
  rintro e w' ⟨rfl, rfl⟩
  have p2 := P2.out
  go_wp2_with fail
  refine (zzDigit_calls c _).mono ?_
  rintro e w' ⟨rfl, rfl⟩
  have p3 := P3.out
  go_wp2
  go_ret
  exact ⟨ret_bool HF.out.symm, HW.out⟩

set_option maxRecDepth 100000 in
theorem startsAlpha_calls (s : ByteArray) (w : World) (hs : s.size ≤ 2147483647) :
    Calls Try.prog 127 #[.string s] w fun e w' => e = .returned (.bool (headLetter s)) ∧ w = w' := by
  by_cases h : 0 < s.size
  · have g0 : decide (0 < (s.size : Int)) = true := decide_eq_true (by omega)
    have HL := Lib.hid (headLetter_some h)
    have h256 := toNat_lt_256 s[0]
    go_enter Try.func127, Try.ntmps127
    go_wp2_with fail
    refine (zzLetter_calls s[0] _).mono ?_
    rintro e w' ⟨rfl, rfl⟩
    go_wp2
    go_ret
    exact ⟨ret_bool HL.out.symm, rfl⟩
  · have g0 : decide (0 < (s.size : Int)) = false := decide_eq_false (by omega)
    have HL := Lib.hid (headLetter_empty h)
    go_enter Try.func127, Try.ntmps127
    go_wp2
    go_ret
    exact ⟨ret_bool HL.out.symm, rfl⟩
set_option maxRecDepth 100000 in
theorem alnum_calls (s : ByteArray) (w : World) (hs : s.size ≤ 2147483647) :
    Calls Try.prog 128 #[.string s] w fun e w' => e = .returned (.bool (namesB s)) ∧ Below w.heap.size w w' := by
  go_enter Try.func128, Try.ntmps128
  go_wp2_with fail
  refine (zzAll_calls 150 nameC (fun args w => by simp [go_sem]) (fun c w => alnum1_calls c w) s _ hs).mono ?_
  rintro e w' ⟨rfl, hb⟩
  go_wp2
  go_ret
  exact ⟨ret_bool (by simp [namesB]), hb⟩

set_option maxHeartbeats 8000000 in
set_option maxRecDepth 100000 in
theorem specNames_calls (s : ByteArray) (w : World) (hs : s.size ≤ 2147483647) :
    Calls Try.prog 67 #[.string s] w fun e w' => e = .returned (.bool (namesB s)) ∧ w = w' := by
  go_enter Try.func67, Try.ntmps67
  go_wp2
  go_loop [3] (fun i => ∃ k : Nat, k ≤ s.size ∧ i = .int .i64 k ∧ Hid ((s.data.toList.take k).all nameC = true)) (fun i => s.size - (intOf i).toNat)
  case atStart => exact ⟨0, Nat.zero_le _, rfl, by simp [Hid]⟩
  case round =>
    obtain ⟨k, hk, rfl, ha⟩ := hrel
    by_cases hlt : k < s.size
    · have H := Lib.hid (all_take_succ (p := nameC) s k hlt)
      have h256 := toNat_lt_256 s[k]
      cases q1 : letterC s[k]
      case' true =>
        have HN := Lib.hid (show nameC s[k] = true by simp [nameC, q1])
        have Q1 := Lib.hid q1
        clear q1
        go_wp2_with fail
        refine (specLetter_calls s[k] _).mono ?_
        rintro e w' ⟨rfl, rfl⟩
        have q1 := Q1.out
      case' false =>
        have Q1 := Lib.hid q1
        cases q2 : digitC s[k]
        case' true =>
          have HN := Lib.hid (show nameC s[k] = true by simp [nameC, q2])
          have Q2 := Lib.hid q2
        case' false =>
          have Q2 := Lib.hid q2
          by_cases q3 : s[k] = 45
          case' pos =>
            have HN := Lib.hid (show nameC s[k] = true by simp [nameC, q3])
            have g3 : ((s[k].toNat : Int) != 45) = false := by rw [q3]; rfl
            clear q3
          case' neg =>
            have g3 : ((s[k].toNat : Int) != 45) = true := by rw [bne_iff_ne]; intro e; exact q3 (UInt8.toNat_inj.1 (by show s[k].toNat = 45; omega))
            by_cases q4 : s[k] = 95
            case' pos =>
              have HN := Lib.hid (show nameC s[k] = true by simp [nameC, q4])
              have g4 : ((s[k].toNat : Int) != 95) = false := by rw [q4]; rfl
              clear q3 q4
            case' neg =>
              have HN := Lib.hid (show nameC s[k] = false by simp [nameC, q1, q2, q3, q4])
              have g4 : ((s[k].toNat : Int) != 95) = true := by rw [bne_iff_ne]; intro e; exact q4 (UInt8.toNat_inj.1 (by show s[k].toNat = 95; omega))
              clear q1 q2 q3 q4
              go_wp2_with fail
              refine (specLetter_calls s[k] _).mono ?_
              rintro e w' ⟨rfl, rfl⟩
              have q1 := Q1.out
              go_wp2_with fail
              refine (specFigure_calls s[k] _).mono ?_
              rintro e w' ⟨rfl, rfl⟩
              have q2 := Q2.out
              go_wp2
              go_ret
              exact ⟨ret_bool (by rw [namesB, all_false_of s k hlt HN.out]), rfl⟩
        all_goals
          clear q1 q2
          go_wp2_with fail
          refine (specLetter_calls s[k] _).mono ?_
          rintro e w' ⟨rfl, rfl⟩
          have q1 := Q1.out
          go_wp2_with fail
          refine (specFigure_calls s[k] _).mono ?_
          rintro e w' ⟨rfl, rfl⟩
          have q2 := Q2.out
      all_goals
        go_wp2
        go_round
        case rel => exact ⟨k + 1, by omega, by go_num, by rw [Hid, H.out, ha.out, HN.out]; rfl⟩
        case measure => simp [intOf]; omega
    · go_wp2
      go_ret
      exact ⟨ret_bool (by rw [namesB, all_of_take s k (by omega) ha.out]), rfl⟩
end Go.Proofs.Ytmgkolcpomaceaa
