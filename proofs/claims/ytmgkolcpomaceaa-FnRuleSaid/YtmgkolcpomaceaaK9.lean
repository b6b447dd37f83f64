/- identifierPattern. -/
import Derived.Test.YtmgkolcpomaceaaK8
import Derived.Deep.DeepCutAuto
namespace Go.Proofs.Ytmgkolcpomaceaa
open Go.RowKit
set_option linter.unusedVariables false
set_option linter.unusedSimpArgs false

def famOk (l : List UInt8) : Bool := decide (1 < l.length) && letterC (l.getD 0 0) && l.all dashC
set_option maxHeartbeats 4000000 in
set_option maxRecDepth 100000 in
theorem identP_calls (s : ByteArray) (w : World) (hs : s.size ≤ 2147483647) :
    Calls Try.prog 133 #[.string s] w fun e w' => e = .returned (.bool (famOk s.data.toList)) ∧ Below w.heap.size w w' := by
  have HE := Lib.hid (show s.data.toList.all dashC2 = s.data.toList.all dashC by congr 1; funext c; exact dashC_eq c)
  have HC := Lib.hid (fun w => zzAll_calls 158 dashC2 enters158 (Lib.hid fun c w => ident1_calls c w) s w hs)
  rw [HE.out] at HC
  clear HE
  have hlen : s.data.toList.length = s.size := by simp
  have HF := Lib.hid (show famOk s.data.toList = (decide (1 < s.size) && letterC (s.data.toList.getD 0 0) && s.data.toList.all dashC) by rw [famOk, hlen])
  clear hlen
  generalize s.data.toList.all dashC = b at HC HF
  by_cases h1 : 1 < s.size
  · have g1 : decide ((1:Int) < (s.size : Int)) = true := by simp; omega
    have HG := Lib.hid (getD_at s 0 (by omega))
    cases hl : letterC s[0] with
    | true =>
      have HZ := Lib.hid (show famOk s.data.toList = b by rw [HF.out, HG.out, hl]; simp [h1])
      have HL := Lib.hid hl
      clear hl
      go_enter Try.func133, Try.ntmps133
      go_wp2_with fail
      refine (zzLetter_calls s[0] _).mono ?_
      rw [HL.out]
      rintro e w1 ⟨rfl, rfl⟩
      go_wp2_with fail
      refine (HC.out _).mono ?_
      rintro e w1 ⟨rfl, hb⟩
      go_wp2_with fail
      go_ret
      exact ⟨ret_bool HZ.out.symm, hb⟩
    | false =>
      have HZ := Lib.hid (show famOk s.data.toList = false by rw [HF.out, HG.out, hl]; simp)
      have HL := Lib.hid hl
      clear hl
      go_enter Try.func133, Try.ntmps133
      go_wp2_with fail
      refine (zzLetter_calls s[0] _).mono ?_
      rw [HL.out]
      rintro e w1 ⟨rfl, rfl⟩
      go_wp2_with fail
      go_ret
      exact ⟨ret_bool HZ.out.symm, Below.refl _ _⟩
  · have g1 : decide ((1:Int) < (s.size : Int)) = false := by simp; omega
    have HZ := Lib.hid (show famOk s.data.toList = false by rw [HF.out]; simp [h1])
    go_enter Try.func133, Try.ntmps133
    go_wp2_with fail
    go_ret
    exact ⟨ret_bool HZ.out.symm, Below.refl _ _⟩

def quotedB (l : List UInt8) : Bool := decide (2 < l.length) && (l.getD 0 0 == 34) && (l.getD (l.length - 1) 0 == 34)
def innerS (s : ByteArray) : ByteArray := if quotedB s.data.toList = true then s.extract 1 (s.size - 1) else s
def famS (s : ByteArray) : ByteArray := if famOk s.data.toList = true then s else quoS (innerS s)
theorem innerS_size (s : ByteArray) : (innerS s).size ≤ s.size := by
  unfold innerS
  split
  · simp [ByteArray.size_extract]; omega
  · exact Nat.le_refl _

set_option maxHeartbeats 8000000 in
set_option maxRecDepth 100000 in
theorem family_calls (s : ByteArray) (w : World) (hs : s.size ≤ 2147483647) :
    Calls Try.prog 112 #[.string s] w fun e w' => e = .returned (.string (famS s)) ∧ Below w.heap.size w w' := by
  have HC := Lib.hid (fun w => specAll_calls 140 dashC enters140 (Lib.hid fun c w => family1_calls c w) s w hs)
  have hlen : s.data.toList.length = s.size := by simp
  have HF := Lib.hid (show famOk s.data.toList = (decide (1 < s.size) && letterC (s.data.toList.getD 0 0) && s.data.toList.all dashC) by rw [famOk, hlen])
  have HQ := Lib.hid (show quotedB s.data.toList = (decide (2 < s.size) && (s.data.toList.getD 0 0 == 34) && (s.data.toList.getD (s.size - 1) 0 == 34)) by rw [quotedB, hlen])
  clear hlen
  have HS := Lib.hid (show famS s = if famOk s.data.toList = true then s else quoS (innerS s) from rfl)
  have HI := Lib.hid (show innerS s = if quotedB s.data.toList = true then s.extract 1 (s.size - 1) else s from rfl)
  have HIs := Lib.hid (innerS_size s)
  generalize s.data.toList.all dashC = b at HC HF
  go_enter Try.func112, Try.ntmps112
  go_upto_region 1 with fail
  go_cut [14] (fun v wx => v = .bool (famOk s.data.toList) ∧ Hid (Below w.heap.size w wx))
  case first =>
    by_cases h1 : 1 < s.size
    · have g1 : decide ((1:Int) < (s.size : Int)) = true := by simp; omega
      have HG := Lib.hid (getD_at s 0 (by omega))
      cases hl : letterC s[0] with
      | true =>
        have HZ := Lib.hid (show famOk s.data.toList = b by rw [HF.out, HG.out, hl]; simp [h1])
        have HL := Lib.hid hl
        clear hl
        go_wp2_with fail
        refine (specLetter_calls s[0] _).mono ?_
        rw [HL.out]
        rintro e w1 ⟨rfl, rfl⟩
        go_wp2_with fail
        refine (HC.out _).mono ?_
        rintro e w1 ⟨rfl, hb⟩
        go_wp2_with fail
        go_meet
        exact ⟨by rw [HZ.out], hb⟩
      | false =>
        have HZ := Lib.hid (show famOk s.data.toList = false by rw [HF.out, HG.out, hl]; simp)
        have HL := Lib.hid hl
        clear hl
        go_wp2_with fail
        refine (specLetter_calls s[0] _).mono ?_
        rw [HL.out]
        rintro e w1 ⟨rfl, rfl⟩
        go_wp2_with fail
        go_meet
        exact ⟨by rw [HZ.out], Below.refl _ _⟩
    · have g1 : decide ((1:Int) < (s.size : Int)) = false := by simp; omega
      have HZ := Lib.hid (show famOk s.data.toList = false by rw [HF.out]; simp [h1])
      go_wp2_with fail
      go_meet
      exact ⟨by rw [HZ.out], Below.refl _ _⟩
  case rest =>
    obtain ⟨rfl, hB⟩ := hcut
    cases hf : famOk s.data.toList with
    | true =>
      have HZ := Lib.hid (show famS s = s by rw [HS.out, if_pos hf])
      go_wp2_with fail
      go_ret
      exact ⟨ret_string HZ.out.symm, hB.out⟩
    | false =>
      have HZ := Lib.hid (show famS s = quoS (innerS s) by rw [HS.out, if_neg (by rw [hf]; simp)])
      clear hf
      go_upto_region 3 with fail
      go_cut [31] (fun v wx => v = .bool (quotedB s.data.toList) ∧ Hid (Below w.heap.size w wx))
      case first =>
        by_cases h2 : 2 < s.size
        · have g2 : decide ((2:Int) < (s.size : Int)) = true := by simp; omega
          have HG := Lib.hid (getD_at s 0 (by omega))
          have HG2 := Lib.hid (getD_at s (s.size - 1) (by omega))
          have HV := Lib.hid (u8_beq s[0] 34)
          have HV2 := Lib.hid (u8_beq s[s.size - 1] 34)
          have HD := Lib.hid (show decide (2 < s.size) = true by simp; omega)
          cases m0 : ((s[0].toNat : Int) == 34) with
          | true =>
            have M0 := Lib.hid m0
            go_wp2_with fail
            go_meet
            exact ⟨by rw [HQ.out, HD.out, HG.out, HG2.out, ← HV.out, ← HV2.out]; erw [M0.out]; rfl, hB⟩
          | false =>
            have M0 := Lib.hid m0
            go_wp2_with fail
            go_meet
            exact ⟨by rw [HQ.out, HD.out, HG.out, ← HV.out]; erw [M0.out]; rfl, hB⟩
        · have g2 : decide ((2:Int) < (s.size : Int)) = false := by simp; omega
          have HD := Lib.hid (show decide (2 < s.size) = false by simp; omega)
          go_wp2_with fail
          go_meet
          exact ⟨by rw [HQ.out, HD.out]; rfl, hB⟩
      case rest =>
        obtain ⟨rfl, hB⟩ := hcut
        cases hq : quotedB s.data.toList with
        | true =>
          have hI : innerS s = s.extract 1 (s.size - 1) := by rw [HI.out, if_pos hq]
          have h2 : 2 < s.size := by rw [HQ.out] at hq; simp at hq; exact hq.1.1
          have HI2 := Lib.hid hI
          have HX := Lib.hid (fun w => quoted_calls (innerS s) w (by have := HIs.out; omega))
          rw [hI] at HX
          clear hI hq
          go_wp2_with fail
          refine (HX.out _).mono ?_
          rintro e w1 ⟨rfl, hb⟩
          go_wp2_with fail
          go_ret
          exact ⟨ret_string (by rw [HZ.out, HI2.out]), below_then hB.out hB.out.size hb⟩
        | false =>
          have HI2 := Lib.hid (show innerS s = s by rw [HI.out, if_neg (by rw [hq]; simp)])
          clear hq
          go_wp2_with fail
          refine (quoted_calls s _ hs).mono ?_
          rintro e w1 ⟨rfl, hb⟩
          go_wp2_with fail
          go_ret
          exact ⟨ret_string (by rw [HZ.out, HI2.out]), below_then hB.out hB.out.size hb⟩
end Go.Proofs.Ytmgkolcpomaceaa
