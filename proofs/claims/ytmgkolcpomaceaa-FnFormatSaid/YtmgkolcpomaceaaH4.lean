/- safehtmlutil's pattern of prefixes: the walk. -/
import Derived.Test.YtmgkolcpomaceaaH3
import Derived.Deep.DeepCutAuto
import Derived.Deep.CutBlock
namespace Go.Proofs.Ytmgkolcpomaceaa
open Go.RowKit
set_option linter.unusedVariables false
set_option linter.unusedSimpArgs false

def hostU (c : UInt8) : Bool := (decide (48 ≤ c.toNat) && decide (c.toNat ≤ 57)) || (decide (97 ≤ c.toNat) && decide (c.toNat ≤ 122)) || decide (c.toNat = 46) || decide (c.toNat = 58) || decide (c.toNat = 91) || decide (c.toNat = 93) || decide (c.toNat = 45)
def originU (m : List UInt8) : Bool := decide (0 < (m.takeWhile hostU).length) && ((m.drop (m.takeWhile hostU).length).head? == some 47)
def rootU (l : List UInt8) : Bool := (l.head? == some 47) && (match l.tail.head? with | some c => !(c == 47) && !(c == 92) | none => false)
def https6 : List UInt8 := [104, 116, 116, 112, 115, 58]
def patL (l : List UInt8) : Bool :=
  if startsL l aboutL || rootU l then true else if startsL (if startsL l https6 then l.drop 6 else l) [47, 47] then originU ((if startsL l https6 then l.drop 6 else l).drop 2) else false

theorem rootU_two (s : ByteArray) (h : 1 < s.size) : rootU s.data.toList = (((s[0].toNat : Int) == 47) && ((s[1].toNat : Int) != 47) && ((s[1].toNat : Int) != 92)) := by
  have h1 := drop_byte s 0 (by omega)
  have h2 := drop_byte s 1 h
  rw [List.drop_zero] at h1
  rw [h1, Nat.zero_add, h2, rootU]
  have e1 : ((s[0].toNat : Int) == 47) = (s[0] == 47) := u8_beq s[0] 47
  have e2 : ((s[1].toNat : Int) == 92) = (s[1] == 92) := u8_beq s[1] 92
  have e3 : ((s[1].toNat : Int) == 47) = (s[1] == 47) := u8_beq s[1] 47
  rw [bne, bne, e1, e2, e3]
  simp [Bool.and_assoc]
theorem rootU_short (s : ByteArray) (h : ¬ 1 < s.size) : rootU s.data.toList = false := by
  have hl : s.data.toList.length ≤ 1 := by simp; omega
  generalize s.data.toList = l at hl
  rcases l with _ | ⟨a, _ | ⟨b, l⟩⟩
  · rfl
  · simp [rootU]
  · simp at hl

set_option maxHeartbeats 16000000 in
set_option maxRecDepth 100000 in
theorem pattern_calls (s : ByteArray) (w : World) (hs : s.size ≤ 2147483647) :
    Calls Try.prog 129 #[.string s] w fun e w' => e = .returned (.bool (patL (lowL s.data.toList))) ∧ Below w.heap.size w w' := by
  have HLow := Lib.hid (fun w => utilLower_calls s w hs)
  have HLd := Lib.hid (lowS_data s)
  have hLs : (lowS s).size ≤ 2147483647 := by rw [lowS_size]; exact hs
  rw [← HLd.out]
  generalize lowS s = L at HLow hLs
  clear HLd
  go_enter Try.func129, Try.ntmps129
  go_wp2_with fail
  refine (HLow.out _).mono ?_
  rintro e w1 ⟨rfl, hb⟩
  have hB := Lib.hid hb
  clear hb
  go_upto_region 2 with fail
  go_cut [27] (fun v wx => v = .bool (startsL L.data.toList aboutL || rootU L.data.toList) ∧ Hid (Below w.heap.size w wx))
  case first =>
    go_wp2_with fail
    refine (utilStarts_calls _ _ _).mono ?_
    rintro e w2 ⟨rfl, rfl⟩
    cases hA : startsB L ⟨#[97, 98, 111, 117, 116, 58, 98, 108, 97, 110, 107, 35]⟩ with
    | true =>
      have HA := Lib.hid (show startsL L.data.toList aboutL = true from hA)
      go_wp2_with fail
      go_meet
      exact ⟨by rw [HA.out]; rfl, hB⟩
    | false =>
      have HA := Lib.hid (show startsL L.data.toList aboutL = false from hA)
      by_cases h1 : 1 < L.size
      · have g1 : decide ((1:Int) < (L.size : Int)) = true := by simp; omega
        have HQ := Lib.hid (rootU_two L h1)
        cases g47 : ((L[0].toNat : Int) == 47) with
        | true =>
          have G47 := Lib.hid g47
          cases k47 : ((L[1].toNat : Int) != 47) with
          | true =>
            have K47 := Lib.hid k47
            go_wp2_with fail
            go_meet
            exact ⟨by rw [HA.out, HQ.out, G47.out, K47.out]; rfl, hB⟩
          | false =>
            have K47 := Lib.hid k47
            go_wp2_with fail
            go_meet
            exact ⟨by rw [HA.out, HQ.out, G47.out, K47.out]; rfl, hB⟩
        | false =>
          have G47 := Lib.hid g47
          go_wp2_with fail
          go_meet
          exact ⟨by rw [HA.out, HQ.out, G47.out]; rfl, hB⟩
      · have HQ := Lib.hid (rootU_short L h1)
        have g1 : decide ((1:Int) < (L.size : Int)) = false := by simp; omega
        go_wp2_with fail
        go_meet
        exact ⟨by rw [HA.out, HQ.out]; rfl, hB⟩
  case rest =>
    obtain ⟨rfl, hB⟩ := hcut
    cases hR : (startsL L.data.toList aboutL || rootU L.data.toList) with
    | true =>
      have HR := Lib.hid hR
      go_wp2_with fail
      go_ret
      exact ⟨ret_bool (by rw [patL, if_pos HR.out]), hB.out⟩
    | false =>
      have HR := Lib.hid (show ¬ (startsL L.data.toList aboutL || rootU L.data.toList) = true by rw [hR]; simp)
      have HP := Lib.hid (show patL L.data.toList = _ by rw [patL, if_neg HR.out])
      clear HR
      obtain ⟨M, hM⟩ : ∃ M : ByteArray, M.data.toList = (if startsL L.data.toList https6 then L.data.toList.drop 6 else L.data.toList) ∧ M.size ≤ L.size ∧ (startsL L.data.toList https6 = true → M = L.extract 6 L.size) ∧ (startsL L.data.toList https6 = false → M = L) := by
        cases h6 : startsL L.data.toList https6 with
        | true => exact ⟨L.extract 6 L.size, by rw [if_pos rfl]; exact extract_from L 6, by simp [ByteArray.size_extract], fun _ => rfl, fun h => (Bool.noConfusion h)⟩
        | false => exact ⟨L, by simp, Nat.le_refl _, fun h => (Bool.noConfusion h), fun _ => rfl⟩
      have hMs : M.size ≤ 2147483647 := by have := hM.2.1; omega
      have HM := Lib.hid hM
      clear hM
      rw [← HM.out.1] at HP
      go_wp2_with fail
      refine (utilStarts_calls _ _ _).mono ?_
      rintro e w2 ⟨rfl, rfl⟩
      go_upto_if 29 with fail
      go_cut [0] (fun v wx => v = .string M ∧ Hid (Below w.heap.size w wx))
      case first =>
        cases h6 : startsB L ⟨#[104, 116, 116, 112, 115, 58]⟩ with
        | true =>
          have HE := Lib.hid (HM.out.2.2.1 h6)
          have h8 : 6 ≤ L.size := startsB_len h6
          go_wp2_with fail
          go_meet
          exact ⟨by rw [HE.out], hB⟩
        | false =>
          have HE := Lib.hid (HM.out.2.2.2 h6)
          go_wp2_with fail
          go_meet
          exact ⟨by rw [HE.out], hB⟩
      case rest =>
        obtain ⟨rfl, hB⟩ := hcut
        cases hS : startsB M ⟨#[47, 47]⟩ with
        | false =>
          have HS := Lib.hid (show ¬ startsL M.data.toList [47, 47] = true from by rw [Bool.not_eq_true]; exact hS)
          go_wp2_with fail
          refine (utilStarts_calls _ _ _).mono ?_
          rintro e w2 ⟨rfl, rfl⟩
          go_wp2_with fail
          go_ret
          exact ⟨ret_bool (by rw [HP.out, if_neg HS.out]), hB.out⟩
        | true =>
          have HS := Lib.hid (show startsL M.data.toList [47, 47] = true from hS)
          have h2 : 2 ≤ M.size := startsB_len hS
          go_wp2_with fail
          refine (utilStarts_calls _ _ _).mono ?_
          rintro e w2 ⟨rfl, rfl⟩
          go_wp2_with fail
          go_loopg [3] (M.size - 2) (fun gk i wr => ∃ k : Nat, gk = M.size - k ∧ k ≤ M.size ∧ 2 ≤ k ∧ i = .int .i64 k ∧ Hid (2 + ((M.data.toList.drop 2).takeWhile hostU).length = k + ((M.data.toList.drop k).takeWhile hostU).length) ∧ Hid (Below w.heap.size w wr))
          case atStart => exact ⟨2, rfl, h2, Nat.le_refl _, rfl, by simp [Hid], hB⟩
          case round =>
            obtain ⟨k, hgk, hk, h2k, rfl, hL, hB⟩ := hrel
            by_cases hlt : k < M.size
            · have HD := Lib.hid (drop_byte M k hlt)
              have hgk' := Lib.hid hgk
              clear hgk
              have g1 : decide ((k:Int) < (M.size : Int)) = true := by simp; omega
              go_upto_region 9 with fail
              go_cut [92] (fun v wx => v = .bool (hostU M[k]) ∧ Hid (Below w.heap.size w wx))
              case first =>
                have h256 := toNat_lt_256 M[k]
                rcases (show M[k].toNat < 45 ∨ M[k].toNat = 45 ∨ M[k].toNat = 46 ∨ M[k].toNat = 47 ∨ (48 ≤ M[k].toNat ∧ M[k].toNat ≤ 57) ∨ M[k].toNat = 58 ∨ (59 ≤ M[k].toNat ∧ M[k].toNat ≤ 90) ∨ M[k].toNat = 91 ∨ M[k].toNat = 92 ∨ M[k].toNat = 93 ∨ (94 ≤ M[k].toNat ∧ M[k].toNat ≤ 96) ∨ (97 ≤ M[k].toNat ∧ M[k].toNat ≤ 122) ∨ 122 < M[k].toNat by omega) with h | h | h | h | h | h | h | h | h | h | h | h | h
                · have H := Lib.hid h
                  have ga : decide ((48:Int) ≤ (M[k].toNat : Int)) = false := by simp; omega
                  have gb : decide ((M[k].toNat : Int) ≤ 57) = true := by simp; omega
                  have gc : decide ((97:Int) ≤ (M[k].toNat : Int)) = false := by simp; omega
                  have gd : decide ((M[k].toNat : Int) ≤ 122) = true := by simp; omega
                  have e46 : ((M[k].toNat : Int) == 46) = false := by simp; omega
                  have e58 : ((M[k].toNat : Int) == 58) = false := by simp; omega
                  have e91 : ((M[k].toNat : Int) == 91) = false := by simp; omega
                  have e93 : ((M[k].toNat : Int) == 93) = false := by simp; omega
                  have e45 : ((M[k].toNat : Int) == 45) = false := by simp; omega
                  clear h
                  go_wp2_with fail
                  go_meet
                  exact ⟨by have h := H.out; have e : hostU M[k] = false := (by simp [hostU]; omega)
                            rw [e], hB⟩
                · have H := Lib.hid h
                  have ga : decide ((48:Int) ≤ (M[k].toNat : Int)) = false := by simp; omega
                  have gb : decide ((M[k].toNat : Int) ≤ 57) = true := by simp; omega
                  have gc : decide ((97:Int) ≤ (M[k].toNat : Int)) = false := by simp; omega
                  have gd : decide ((M[k].toNat : Int) ≤ 122) = true := by simp; omega
                  have e46 : ((M[k].toNat : Int) == 46) = false := by simp; omega
                  have e58 : ((M[k].toNat : Int) == 58) = false := by simp; omega
                  have e91 : ((M[k].toNat : Int) == 91) = false := by simp; omega
                  have e93 : ((M[k].toNat : Int) == 93) = false := by simp; omega
                  have e45 : ((M[k].toNat : Int) == 45) = true := by simp; omega
                  clear h
                  go_wp2_with fail
                  go_meet
                  exact ⟨by have h := H.out; have e : hostU M[k] = true := (by simp [hostU]; omega)
                            rw [e], hB⟩
                · have H := Lib.hid h
                  have ga : decide ((48:Int) ≤ (M[k].toNat : Int)) = false := by simp; omega
                  have gb : decide ((M[k].toNat : Int) ≤ 57) = true := by simp; omega
                  have gc : decide ((97:Int) ≤ (M[k].toNat : Int)) = false := by simp; omega
                  have gd : decide ((M[k].toNat : Int) ≤ 122) = true := by simp; omega
                  have e46 : ((M[k].toNat : Int) == 46) = true := by simp; omega
                  have e58 : ((M[k].toNat : Int) == 58) = false := by simp; omega
                  have e91 : ((M[k].toNat : Int) == 91) = false := by simp; omega
                  have e93 : ((M[k].toNat : Int) == 93) = false := by simp; omega
                  have e45 : ((M[k].toNat : Int) == 45) = false := by simp; omega
                  clear h
                  go_wp2_with fail
                  go_meet
                  exact ⟨by have h := H.out; have e : hostU M[k] = true := (by simp [hostU]; omega)
                            rw [e], hB⟩
                · have H := Lib.hid h
                  have ga : decide ((48:Int) ≤ (M[k].toNat : Int)) = false := by simp; omega
                  have gb : decide ((M[k].toNat : Int) ≤ 57) = true := by simp; omega
                  have gc : decide ((97:Int) ≤ (M[k].toNat : Int)) = false := by simp; omega
                  have gd : decide ((M[k].toNat : Int) ≤ 122) = true := by simp; omega
                  have e46 : ((M[k].toNat : Int) == 46) = false := by simp; omega
                  have e58 : ((M[k].toNat : Int) == 58) = false := by simp; omega
                  have e91 : ((M[k].toNat : Int) == 91) = false := by simp; omega
                  have e93 : ((M[k].toNat : Int) == 93) = false := by simp; omega
                  have e45 : ((M[k].toNat : Int) == 45) = false := by simp; omega
                  clear h
                  go_wp2_with fail
                  go_meet
                  exact ⟨by have h := H.out; have e : hostU M[k] = false := (by simp [hostU]; omega)
                            rw [e], hB⟩
                · have H := Lib.hid h
                  have ga : decide ((48:Int) ≤ (M[k].toNat : Int)) = true := by simp; omega
                  have gb : decide ((M[k].toNat : Int) ≤ 57) = true := by simp; omega
                  have gc : decide ((97:Int) ≤ (M[k].toNat : Int)) = false := by simp; omega
                  have gd : decide ((M[k].toNat : Int) ≤ 122) = true := by simp; omega
                  have e46 : ((M[k].toNat : Int) == 46) = false := by simp; omega
                  have e58 : ((M[k].toNat : Int) == 58) = false := by simp; omega
                  have e91 : ((M[k].toNat : Int) == 91) = false := by simp; omega
                  have e93 : ((M[k].toNat : Int) == 93) = false := by simp; omega
                  have e45 : ((M[k].toNat : Int) == 45) = false := by simp; omega
                  clear h
                  go_wp2_with fail
                  go_meet
                  exact ⟨by have h := H.out; have e : hostU M[k] = true := (by simp [hostU]; omega)
                            rw [e], hB⟩
                · have H := Lib.hid h
                  have ga : decide ((48:Int) ≤ (M[k].toNat : Int)) = true := by simp; omega
                  have gb : decide ((M[k].toNat : Int) ≤ 57) = false := by simp; omega
                  have gc : decide ((97:Int) ≤ (M[k].toNat : Int)) = false := by simp; omega
                  have gd : decide ((M[k].toNat : Int) ≤ 122) = true := by simp; omega
                  have e46 : ((M[k].toNat : Int) == 46) = false := by simp; omega
                  have e58 : ((M[k].toNat : Int) == 58) = true := by simp; omega
                  have e91 : ((M[k].toNat : Int) == 91) = false := by simp; omega
                  have e93 : ((M[k].toNat : Int) == 93) = false := by simp; omega
                  have e45 : ((M[k].toNat : Int) == 45) = false := by simp; omega
                  clear h
                  go_wp2_with fail
                  go_meet
                  exact ⟨by have h := H.out; have e : hostU M[k] = true := (by simp [hostU]; omega)
                            rw [e], hB⟩
                · have H := Lib.hid h
                  have ga : decide ((48:Int) ≤ (M[k].toNat : Int)) = true := by simp; omega
                  have gb : decide ((M[k].toNat : Int) ≤ 57) = false := by simp; omega
                  have gc : decide ((97:Int) ≤ (M[k].toNat : Int)) = false := by simp; omega
                  have gd : decide ((M[k].toNat : Int) ≤ 122) = true := by simp; omega
                  have e46 : ((M[k].toNat : Int) == 46) = false := by simp; omega
                  have e58 : ((M[k].toNat : Int) == 58) = false := by simp; omega
                  have e91 : ((M[k].toNat : Int) == 91) = false := by simp; omega
                  have e93 : ((M[k].toNat : Int) == 93) = false := by simp; omega
                  have e45 : ((M[k].toNat : Int) == 45) = false := by simp; omega
                  clear h
                  go_wp2_with fail
                  go_meet
                  exact ⟨by have h := H.out; have e : hostU M[k] = false := (by simp [hostU]; omega)
                            rw [e], hB⟩
                · have H := Lib.hid h
                  have ga : decide ((48:Int) ≤ (M[k].toNat : Int)) = true := by simp; omega
                  have gb : decide ((M[k].toNat : Int) ≤ 57) = false := by simp; omega
                  have gc : decide ((97:Int) ≤ (M[k].toNat : Int)) = false := by simp; omega
                  have gd : decide ((M[k].toNat : Int) ≤ 122) = true := by simp; omega
                  have e46 : ((M[k].toNat : Int) == 46) = false := by simp; omega
                  have e58 : ((M[k].toNat : Int) == 58) = false := by simp; omega
                  have e91 : ((M[k].toNat : Int) == 91) = true := by simp; omega
                  have e93 : ((M[k].toNat : Int) == 93) = false := by simp; omega
                  have e45 : ((M[k].toNat : Int) == 45) = false := by simp; omega
                  clear h
                  go_wp2_with fail
                  go_meet
                  exact ⟨by have h := H.out; have e : hostU M[k] = true := (by simp [hostU]; omega)
                            rw [e], hB⟩
                · have H := Lib.hid h
                  have ga : decide ((48:Int) ≤ (M[k].toNat : Int)) = true := by simp; omega
                  have gb : decide ((M[k].toNat : Int) ≤ 57) = false := by simp; omega
                  have gc : decide ((97:Int) ≤ (M[k].toNat : Int)) = false := by simp; omega
                  have gd : decide ((M[k].toNat : Int) ≤ 122) = true := by simp; omega
                  have e46 : ((M[k].toNat : Int) == 46) = false := by simp; omega
                  have e58 : ((M[k].toNat : Int) == 58) = false := by simp; omega
                  have e91 : ((M[k].toNat : Int) == 91) = false := by simp; omega
                  have e93 : ((M[k].toNat : Int) == 93) = false := by simp; omega
                  have e45 : ((M[k].toNat : Int) == 45) = false := by simp; omega
                  clear h
                  go_wp2_with fail
                  go_meet
                  exact ⟨by have h := H.out; have e : hostU M[k] = false := (by simp [hostU]; omega)
                            rw [e], hB⟩
                · have H := Lib.hid h
                  have ga : decide ((48:Int) ≤ (M[k].toNat : Int)) = true := by simp; omega
                  have gb : decide ((M[k].toNat : Int) ≤ 57) = false := by simp; omega
                  have gc : decide ((97:Int) ≤ (M[k].toNat : Int)) = false := by simp; omega
                  have gd : decide ((M[k].toNat : Int) ≤ 122) = true := by simp; omega
                  have e46 : ((M[k].toNat : Int) == 46) = false := by simp; omega
                  have e58 : ((M[k].toNat : Int) == 58) = false := by simp; omega
                  have e91 : ((M[k].toNat : Int) == 91) = false := by simp; omega
                  have e93 : ((M[k].toNat : Int) == 93) = true := by simp; omega
                  have e45 : ((M[k].toNat : Int) == 45) = false := by simp; omega
                  clear h
                  go_wp2_with fail
                  go_meet
                  exact ⟨by have h := H.out; have e : hostU M[k] = true := (by simp [hostU]; omega)
                            rw [e], hB⟩
                · have H := Lib.hid h
                  have ga : decide ((48:Int) ≤ (M[k].toNat : Int)) = true := by simp; omega
                  have gb : decide ((M[k].toNat : Int) ≤ 57) = false := by simp; omega
                  have gc : decide ((97:Int) ≤ (M[k].toNat : Int)) = false := by simp; omega
                  have gd : decide ((M[k].toNat : Int) ≤ 122) = true := by simp; omega
                  have e46 : ((M[k].toNat : Int) == 46) = false := by simp; omega
                  have e58 : ((M[k].toNat : Int) == 58) = false := by simp; omega
                  have e91 : ((M[k].toNat : Int) == 91) = false := by simp; omega
                  have e93 : ((M[k].toNat : Int) == 93) = false := by simp; omega
                  have e45 : ((M[k].toNat : Int) == 45) = false := by simp; omega
                  clear h
                  go_wp2_with fail
                  go_meet
                  exact ⟨by have h := H.out; have e : hostU M[k] = false := (by simp [hostU]; omega)
                            rw [e], hB⟩
                · have H := Lib.hid h
                  have ga : decide ((48:Int) ≤ (M[k].toNat : Int)) = true := by simp; omega
                  have gb : decide ((M[k].toNat : Int) ≤ 57) = false := by simp; omega
                  have gc : decide ((97:Int) ≤ (M[k].toNat : Int)) = true := by simp; omega
                  have gd : decide ((M[k].toNat : Int) ≤ 122) = true := by simp; omega
                  have e46 : ((M[k].toNat : Int) == 46) = false := by simp; omega
                  have e58 : ((M[k].toNat : Int) == 58) = false := by simp; omega
                  have e91 : ((M[k].toNat : Int) == 91) = false := by simp; omega
                  have e93 : ((M[k].toNat : Int) == 93) = false := by simp; omega
                  have e45 : ((M[k].toNat : Int) == 45) = false := by simp; omega
                  clear h
                  go_wp2_with fail
                  go_meet
                  exact ⟨by have h := H.out; have e : hostU M[k] = true := (by simp [hostU]; omega)
                            rw [e], hB⟩
                · have H := Lib.hid h
                  have ga : decide ((48:Int) ≤ (M[k].toNat : Int)) = true := by simp; omega
                  have gb : decide ((M[k].toNat : Int) ≤ 57) = false := by simp; omega
                  have gc : decide ((97:Int) ≤ (M[k].toNat : Int)) = true := by simp; omega
                  have gd : decide ((M[k].toNat : Int) ≤ 122) = false := by simp; omega
                  have e46 : ((M[k].toNat : Int) == 46) = false := by simp; omega
                  have e58 : ((M[k].toNat : Int) == 58) = false := by simp; omega
                  have e91 : ((M[k].toNat : Int) == 91) = false := by simp; omega
                  have e93 : ((M[k].toNat : Int) == 93) = false := by simp; omega
                  have e45 : ((M[k].toNat : Int) == 45) = false := by simp; omega
                  clear h
                  go_wp2_with fail
                  go_meet
                  exact ⟨by have h := H.out; have e : hostU M[k] = false := (by simp [hostU]; omega)
                            rw [e], hB⟩
              case rest =>
                obtain ⟨rfl, hB⟩ := hcut
                cases hU : hostU M[k] with
                | true =>
                  have HU := Lib.hid hU
                  go_wp2_with fail
                  go_roundg (M.size - (k + 1))
                  case measure => rw [hgk'.out]; omega
                  case rel =>
                    refine ⟨k + 1, rfl, by omega, by omega, by simp, ?_, hB⟩
                    rw [Hid, hL.out, HD.out, List.takeWhile_cons, HU.out]; simp; omega
                | false =>
                  have HU := Lib.hid hU
                  have hK : Hid (((M.data.toList.drop 2).takeWhile hostU).length = k - 2) := by
                    have h1 := hL.out
                    rw [HD.out, List.takeWhile_cons, HU.out] at h1
                    simp at h1
                    rw [Hid]; omega
                  have HO := Lib.hid (show originU (M.data.toList.drop 2) = (decide (2 < k) && (M[k] == 47)) by
                    have e1 : (M.data.toList.drop 2).drop (k - 2) = M.data.toList.drop k := by rw [List.drop_drop]; congr 1; omega
                    rw [originU, hK.out, e1, HD.out]
                    have e2 : decide (0 < k - 2) = decide (2 < k) := by rw [decide_eq_decide]; omega
                    rw [e2]; simp)
                  have HV := Lib.hid (u8_beq M[k] 47)
                  by_cases h22 : 2 < k
                  · have g2 : decide ((2:Int) < (k : Int)) = true := by simp; omega
                    have H22 := Lib.hid (show decide (2 < k) = true by simp; omega)
                    go_wp2_with fail
                    go_ret
                    exact ⟨ret_bool (by rw [HP.out, if_pos HS.out, HO.out, H22.out, Bool.true_and]; exact HV.out), hB.out⟩
                  · have g2 : decide ((2:Int) < (k : Int)) = false := by simp; omega
                    have H22 := Lib.hid (show decide (2 < k) = false by simp; omega)
                    go_wp2_with fail
                    go_ret
                    exact ⟨ret_bool (by rw [HP.out, if_pos HS.out, HO.out, H22.out]; rfl), hB.out⟩
            · have hks : k = M.size := by omega
              have g1 : decide ((k:Int) < (M.size : Int)) = false := by simp; omega
              have HO := Lib.hid (show originU (M.data.toList.drop 2) = false by
                have h1 := hL.out
                rw [hks, List.drop_of_length_le (i := M.size) (l := M.data.toList) (by simp)] at h1
                simp only [List.takeWhile_nil, List.length_nil, Nat.add_zero] at h1
                have h3 : (M.data.toList.drop 2).length = M.size - 2 := by simp
                rw [originU, List.drop_of_length_le (l := M.data.toList.drop 2) (by omega)]
                simp)
              clear hks hgk
              by_cases h22 : 2 < k
              · have g2 : decide ((2:Int) < (k : Int)) = true := by simp; omega
                go_wp2_with fail
                go_ret
                exact ⟨ret_bool (by rw [HP.out, if_pos HS.out, HO.out]), hB.out⟩
              · have g2 : decide ((2:Int) < (k : Int)) = false := by simp; omega
                go_wp2_with fail
                go_ret
                exact ⟨ret_bool (by rw [HP.out, if_pos HS.out, HO.out]), hB.out⟩

set_option maxHeartbeats 16000000 in
set_option maxRecDepth 100000 in
theorem prefixOk_calls (s : ByteArray) (w : World) (hs : s.size ≤ 2147483647) :
    Calls Try.prog 99 #[.string s] w fun e w' => e = .returned (.bool (patL (lowL s.data.toList))) ∧ Below w.heap.size w w' := by
  go_enter Try.func99, Try.ntmps99
  go_wp2_with fail
  refine (pattern_calls s _ hs).mono ?_
  rintro e w1 ⟨rfl, hb⟩
  go_wp2_with fail
  go_ret
  exact ⟨rfl, hb⟩
end Go.Proofs.Ytmgkolcpomaceaa
