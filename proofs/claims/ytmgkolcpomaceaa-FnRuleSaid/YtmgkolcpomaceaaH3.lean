/- spec.until, spec.origin, spec.Based. -/
import Derived.Test.YtmgkolcpomaceaaB6
import Derived.Test.YtmgkolcpomaceaaB7
import Derived.Test.YtmgkolcpomaceaaB8
import Derived.Test.YtmgkolcpomaceaaD1
import Derived.Test.YtmgkolcpomaceaaE2
namespace Go.Proofs.Ytmgkolcpomaceaa
open Go.RowKit
set_option linter.unusedVariables false
set_option linter.unusedSimpArgs false

def hostC (c : UInt8) : Bool := letterC c || digitC c || c == 46 || c == 58 || c == 91 || c == 93 || c == 45
def originL (l : List UInt8) : Bool := decide (0 < (l.takeWhile hostC).length) && ((l.drop (l.takeWhile hostC).length).head? == some 47)

theorem host_true {c : UInt8} (h : c.toNat = 46 ∨ c.toNat = 58 ∨ c.toNat = 91 ∨ c.toNat = 93 ∨ c.toNat = 45) : hostC c = true := by
  simp only [hostC, Bool.or_eq_true, beq_iff_eq, ← UInt8.toNat_inj]
  rcases h with h | h | h | h | h <;> simp [h]
theorem host_false {c : UInt8} (h1 : letterC c = false) (h2 : digitC c = false) (h : ¬ (c.toNat = 46 ∨ c.toNat = 58 ∨ c.toNat = 91 ∨ c.toNat = 93 ∨ c.toNat = 45)) : hostC c = false := by
  rw [hostC, h1, h2]
  simp only [Bool.false_or, Bool.or_eq_false_iff, beq_eq_false_iff_ne, ne_eq, ← UInt8.toNat_inj]
  simp
  omega
theorem host_expr {c : UInt8} (h1 : letterC c = false) (h2 : digitC c = false) : ((c.toNat : Int) != 46 && (c.toNat : Int) != 58 && (c.toNat : Int) != 91 && (c.toNat : Int) != 93 && (c.toNat : Int) != 45) = !(hostC c) := by
  have e : ∀ d : UInt8, ((c.toNat : Int) != (d.toNat : Int)) = !(c == d) := fun d => by rw [bne, u8_beq]
  have e46 := e 46
  have e58 := e 58
  have e91 := e 91
  have e93 := e 93
  have e45 := e 45
  rw [hostC, h1, h2]
  simp only [Bool.false_or, Bool.not_or]
  exact congr (congrArg and (congr (congrArg and (congr (congrArg and (congr (congrArg and e46) e58)) e91)) e93)) e45
set_option maxHeartbeats 16000000 in
set_option maxRecDepth 100000 in
theorem origin1_calls (c : UInt8) (w : World) : Calls Try.prog 103 #[.int .u8 (c.toNat : Int)] w fun e w' => e = .returned (.bool (!(hostC c))) ∧ w = w' := by
  have HU := Lib.hid (show hostC c = (letterC c || digitC c || c == 46 || c == 58 || c == 91 || c == 93 || c == 45) from rfl)
  cases hL : letterC c with
  | true =>
    have HL := Lib.hid hL
    go_enter Try.func103, Try.ntmps103
    go_wp2_with fail
    refine (specLetter_calls c _).mono ?_
    rintro e w1 ⟨rfl, rfl⟩
    go_wp2_with fail
    go_ret
    exact ⟨ret_bool (by rw [HU.out, HL.out]; rfl), rfl⟩
  | false =>
    have HL := Lib.hid hL
    cases hD : digitC c with
    | true =>
      have HD := Lib.hid hD
      go_enter Try.func103, Try.ntmps103
      go_wp2_with fail
      refine (specLetter_calls c _).mono ?_
      rintro e w1 ⟨rfl, rfl⟩
      go_wp2_with fail
      refine (specFigure_calls c _).mono ?_
      rintro e w1 ⟨rfl, rfl⟩
      go_wp2_with fail
      go_ret
      exact ⟨ret_bool (by rw [HU.out, HL.out, HD.out]; rfl), rfl⟩
    | false =>
      have HD := Lib.hid hD
      go_enter Try.func103, Try.ntmps103
      go_wp2_with fail
      refine (specLetter_calls c _).mono ?_
      rintro e w1 ⟨rfl, rfl⟩
      go_wp2_with fail
      refine (specFigure_calls c _).mono ?_
      rintro e w1 ⟨rfl, rfl⟩
      go_wp2_with fail
      all_goals (go_ret; first | exact ⟨ret_bool (by rw [host_true (by omega)]; rfl), rfl⟩ | exact ⟨ret_bool (by rw [host_false HL.out HD.out (by omega)]; rfl), rfl⟩ | exact ⟨ret_bool (host_expr HL.out HD.out), rfl⟩)
theorem origin1_enters : Enters 103 := fun args w => by simp [go_sem, Try.func103]

set_option maxHeartbeats 16000000 in
set_option maxRecDepth 100000 in
theorem until_calls (m : FuncId) (p : UInt8 → Bool) (hcf : Enters m)
    (hm : Hid (∀ (c : UInt8) (w : World), Calls Try.prog m #[.int .u8 (c.toNat : Int)] w fun e w' => e = .returned (.bool (p c)) ∧ Below w.heap.size w w'))
    (s : ByteArray) (a : Nat) (ha : a ≤ s.size) (w : World) (hs : s.size ≤ 2147483647) :
    Calls Try.prog 79 #[.string s, .int .i64 a, .func (.func m) #[] #[]] w fun e w' => e = .returned (.int .i64 ((a + ((s.data.toList.drop a).takeWhile (fun c => !p c)).length : Nat) : Int)) ∧ Below w.heap.size w w' := by
  unfold Enters at hcf
  go_enter Try.func79, Try.ntmps79
  go_wp2
  go_loopg [1] (s.size - a) (fun gk i wr => ∃ k : Nat, gk = s.size - k ∧ k ≤ s.size ∧ a ≤ k ∧ i = .int .i64 k ∧ Hid (a + ((s.data.toList.drop a).takeWhile (fun c => !p c)).length = k + ((s.data.toList.drop k).takeWhile (fun c => !p c)).length) ∧ Hid (Below w.heap.size w wr))
  case atStart => exact ⟨a, rfl, ha, Nat.le_refl _, rfl, by simp [Hid], Below.refl _ _⟩
  case round =>
    obtain ⟨k, hgk, hk, hak, rfl, hL, hB⟩ := hrel
    by_cases hlt : k < s.size
    · have HD := Lib.hid (drop_byte s k hlt)
      have hgk' := Lib.hid hgk
      clear hgk
      cases hp : p s[k] with
      | true =>
        have Hp := Lib.hid hp
        have hfin : Hid (a + ((s.data.toList.drop a).takeWhile (fun c => !p c)).length = k) := by
          rw [Hid, hL.out, HD.out, List.takeWhile_cons, Hp.out]; simp
        go_wp2_with fail
        refine (hm.out s[k] _).mono ?_
        rintro e w1 ⟨rfl, hb⟩
        go_wp2_with fail
        go_ret
        exact ⟨ret_int (by rw [hfin.out]), below_then hB.out hB.out.size hb⟩
      | false =>
        have Hp := Lib.hid hp
        go_wp2_with fail
        refine (hm.out s[k] _).mono ?_
        rintro e w1 ⟨rfl, hb⟩
        have hbw := Lib.hid hb
        clear hb
        go_wp2_with fail
        go_roundg (s.size - (k + 1))
        case measure => rw [hgk'.out]; omega
        case rel =>
          refine ⟨k + 1, rfl, by omega, by omega, by simp, ?_, below_then hB.out hB.out.size hbw.out⟩
          rw [Hid, hL.out, HD.out, List.takeWhile_cons, Hp.out]; simp; omega
    · have hks : k = s.size := by omega
      have hfin : Hid (a + ((s.data.toList.drop a).takeWhile (fun c => !p c)).length = k) := by
        rw [Hid, hL.out, hks, List.drop_of_length_le (by simp)]; simp
      clear hks hgk
      go_wp2_with fail
      go_ret
      exact ⟨ret_int (by rw [hfin.out]), hB.out⟩

set_option maxHeartbeats 16000000 in
set_option maxRecDepth 100000 in
theorem origin_calls (s : ByteArray) (w : World) (hs : s.size ≤ 2147483647) :
    Calls Try.prog 74 #[.string s] w fun e w' => e = .returned (.bool (originL s.data.toList)) ∧ Below w.heap.size w w' := by
  obtain ⟨k, hk⟩ : ∃ k, (s.data.toList.takeWhile hostC).length = k := ⟨_, rfl⟩
  have hks : k ≤ s.size := by
    have := List.takeWhile_prefix hostC (l := s.data.toList) |>.length_le
    rw [hk] at this
    simpa using this
  have HO := Lib.hid (show originL s.data.toList = (decide (0 < k) && ((s.data.toList.drop k).head? == some 47)) by rw [originL, hk])
  have HK := Lib.hid hk
  have hR : (0 + ((s.data.toList.drop 0).takeWhile (fun c => !(!(hostC c)))).length : Nat) = k := by simp [← hk]
  have HR := Lib.hid hR
  clear hk hR
  have hU := Lib.hid (until_calls 103 (fun c => !(hostC c)) origin1_enters (fun c w => of_same (origin1_calls c w)) s 0 (Nat.zero_le _) · hs)
  go_enter Try.func74, Try.ntmps74
  go_wp2_with fail
  refine (hU.out _).mono ?_
  rintro e w1 ⟨rfl, hb⟩
  rw [HR.out]
  by_cases h0 : 0 < k
  · have H0 := Lib.hid h0
    have g0 : decide ((0:Int) < (k : Int)) = true := by simp; omega
    by_cases h1 : k < s.size
    · have g1 : decide ((k:Int) < (s.size : Int)) = true := by simp; omega
      have HH := Lib.hid (show (s.data.toList.drop k).head? = some s[k] by rw [drop_byte s k h1]; rfl)
      have HV := Lib.hid (u8_beq s[k] 47)
      go_wp2_with fail
      go_ret
      exact ⟨ret_bool (by rw [HO.out, HH.out]; simp only [decide_eq_true H0.out, Bool.true_and]; exact HV.out.trans (by simp)), hb⟩
    · have g1 : decide ((k:Int) < (s.size : Int)) = false := by simp; omega
      have HH := Lib.hid (show (s.data.toList.drop k).head? = none by rw [List.drop_of_length_le (by simp; omega)]; rfl)
      go_wp2_with fail
      go_ret
      exact ⟨ret_bool (by rw [HO.out, HH.out]; simp), hb⟩
  · have H0 := Lib.hid h0
    have g0 : decide ((0:Int) < (k : Int)) = false := by simp; omega
    go_wp2_with fail
    go_ret
    exact ⟨ret_bool (by rw [HO.out]; simp [H0.out]), hb⟩

def aboutL : List UInt8 := [97, 98, 111, 117, 116, 58, 98, 108, 97, 110, 107, 35]
def httpsL : List UInt8 := [104, 116, 116, 112, 115, 58, 47, 47]
def rootL (l : List UInt8) : Bool := (l.head? == some 47) && (match l.tail.head? with | some c => !(c == 92) | none => false)
def basedL (l : List UInt8) : Bool :=
  if startsL (lowL l) aboutL then true else if startsL (lowL l) httpsL then originL (l.drop 8) else if startsL l [47, 47] then originL (l.drop 2) else rootL l
theorem root_two (s : ByteArray) (h : 1 < s.size) : rootL s.data.toList = (((s[0].toNat : Int) == 47) && ((s[1].toNat : Int) != 92)) := by
  have h1 := drop_byte s 0 (by omega)
  have h2 := drop_byte s 1 h
  rw [List.drop_zero] at h1
  rw [h1, Nat.zero_add, h2, rootL]
  have e1 : ((s[0].toNat : Int) == 47) = (s[0] == 47) := u8_beq s[0] 47
  have e2 : ((s[1].toNat : Int) == 92) = (s[1] == 92) := u8_beq s[1] 92
  rw [bne, e1, e2]
  simp
theorem root_short (s : ByteArray) (h : ¬ 1 < s.size) : rootL s.data.toList = false := by
  have hl : s.data.toList.length ≤ 1 := by simp; omega
  generalize s.data.toList = l at hl
  rcases l with _ | ⟨a, _ | ⟨b, l⟩⟩
  · rfl
  · simp [rootL]
  · simp at hl
theorem startsB_len {s p : ByteArray} (h : startsB s p = true) : p.size ≤ s.size := by
  by_cases h1 : p.size ≤ s.size
  · exact h1
  · rw [startsB_short (by omega)] at h; cases h

set_option maxHeartbeats 16000000 in
set_option maxRecDepth 100000 in
theorem based_calls (s : ByteArray) (w : World) (hs : s.size ≤ 2147483647) :
    Calls Try.prog 33 #[.string s] w fun e w' => e = .returned (.bool (basedL s.data.toList)) ∧ Below w.heap.size w w' := by
  cases hA : startsB (lowS s) ⟨#[97, 98, 111, 117, 116, 58, 98, 108, 97, 110, 107, 35]⟩ with
  | true =>
    have HA := Lib.hid (show startsL (lowL s.data.toList) aboutL = true from hA)
    go_enter Try.func33, Try.ntmps33
    go_wp2_with fail
    refine (specLower_calls s _ hs).mono ?_
    rintro e w1 ⟨rfl, hb⟩
    go_wp2_with fail
    refine (specStarts_calls _ _ _).mono ?_
    rintro e w2 ⟨rfl, rfl⟩
    go_wp2_with fail
    go_ret
    exact ⟨ret_bool (by rw [basedL, if_pos HA.out]), hb⟩
  | false =>
    have HA := Lib.hid (show ¬ startsL (lowL s.data.toList) aboutL = true from by rw [Bool.not_eq_true]; exact hA)
    cases hH : startsB (lowS s) ⟨#[104, 116, 116, 112, 115, 58, 47, 47]⟩ with
    | true =>
      have HH := Lib.hid (show startsL (lowL s.data.toList) httpsL = true from hH)
      have h8 : 8 ≤ s.size := by have := startsB_len hH; rw [lowS_size] at this; exact this
      have HO := Lib.hid (origin_calls (s.extract 8 s.size) · (by simp [ByteArray.size_extract]; omega))
      have HX := Lib.hid (show (s.data.toList.drop 8).take (s.size - 8) = s.data.toList.drop 8 from List.take_of_length_le (by simp))
      go_enter Try.func33, Try.ntmps33
      go_wp2_with fail
      refine (specLower_calls s _ hs).mono ?_
      rintro e w1 ⟨rfl, hb⟩
      go_wp2_with fail
      refine (specStarts_calls _ _ _).mono ?_
      rintro e w2 ⟨rfl, rfl⟩
      go_wp2_with fail
      refine (specStarts_calls _ _ _).mono ?_
      rintro e w2 ⟨rfl, rfl⟩
      go_wp2_with fail
      refine (HO.out _).mono ?_
      rintro e w2 ⟨rfl, hb2⟩
      go_wp2_with fail
      go_ret
      exact ⟨ret_bool (by rw [basedL, if_neg HA.out, if_pos HH.out, HX.out]), below_then hb hb.size hb2⟩
    | false =>
      have HH := Lib.hid (show ¬ startsL (lowL s.data.toList) httpsL = true from by rw [Bool.not_eq_true]; exact hH)
      cases hS : startsB s ⟨#[47, 47]⟩ with
      | true =>
        have HS := Lib.hid (show startsL s.data.toList [47, 47] = true from hS)
        have h2 : 2 ≤ s.size := startsB_len hS
        have HO := Lib.hid (origin_calls (s.extract 2 s.size) · (by simp [ByteArray.size_extract]; omega))
        have HX := Lib.hid (show (s.data.toList.drop 2).take (s.size - 2) = s.data.toList.drop 2 from List.take_of_length_le (by simp))
        go_enter Try.func33, Try.ntmps33
        go_wp2_with fail
        refine (specLower_calls s _ hs).mono ?_
        rintro e w1 ⟨rfl, hb⟩
        go_wp2_with fail
        refine (specStarts_calls _ _ _).mono ?_
        rintro e w2 ⟨rfl, rfl⟩
        go_wp2_with fail
        refine (specStarts_calls _ _ _).mono ?_
        rintro e w2 ⟨rfl, rfl⟩
        go_wp2_with fail
        refine (specStarts_calls _ _ _).mono ?_
        rintro e w2 ⟨rfl, rfl⟩
        go_wp2_with fail
        refine (HO.out _).mono ?_
        rintro e w2 ⟨rfl, hb2⟩
        go_wp2_with fail
        go_ret
        exact ⟨ret_bool (by rw [basedL, if_neg HA.out, if_neg HH.out, if_pos HS.out, HX.out]), below_then hb hb.size hb2⟩
      | false =>
        have HS := Lib.hid (show ¬ startsL s.data.toList [47, 47] = true from by rw [Bool.not_eq_true]; exact hS)
        have HR := Lib.hid (show basedL s.data.toList = rootL s.data.toList by rw [basedL, if_neg HA.out, if_neg HH.out, if_neg HS.out])
        by_cases h1 : 1 < s.size
        · have g1 : decide ((1:Int) < (s.size : Int)) = true := by simp; omega
          have HQ := Lib.hid (root_two s h1)
          cases g47 : ((s[0].toNat : Int) == 47) with
          | true =>
            have G47 := Lib.hid g47
            go_enter Try.func33, Try.ntmps33
            go_wp2_with fail
            refine (specLower_calls s _ hs).mono ?_
            rintro e w1 ⟨rfl, hb⟩
            go_wp2_with fail
            refine (specStarts_calls _ _ _).mono ?_
            rintro e w2 ⟨rfl, rfl⟩
            go_wp2_with fail
            refine (specStarts_calls _ _ _).mono ?_
            rintro e w2 ⟨rfl, rfl⟩
            go_wp2_with fail
            refine (specStarts_calls _ _ _).mono ?_
            rintro e w2 ⟨rfl, rfl⟩
            go_wp2_with fail
            go_ret
            exact ⟨ret_bool (by rw [HR.out, HQ.out, G47.out]; rfl), hb⟩
          | false =>
            have G47 := Lib.hid g47
            go_enter Try.func33, Try.ntmps33
            go_wp2_with fail
            refine (specLower_calls s _ hs).mono ?_
            rintro e w1 ⟨rfl, hb⟩
            go_wp2_with fail
            refine (specStarts_calls _ _ _).mono ?_
            rintro e w2 ⟨rfl, rfl⟩
            go_wp2_with fail
            refine (specStarts_calls _ _ _).mono ?_
            rintro e w2 ⟨rfl, rfl⟩
            go_wp2_with fail
            refine (specStarts_calls _ _ _).mono ?_
            rintro e w2 ⟨rfl, rfl⟩
            go_wp2_with fail
            go_ret
            exact ⟨ret_bool (by rw [HR.out, HQ.out, G47.out]; rfl), hb⟩
        · have HQ := Lib.hid (root_short s h1)
          have g1 : decide ((1:Int) < (s.size : Int)) = false := by simp; omega
          go_enter Try.func33, Try.ntmps33
          go_wp2_with fail
          refine (specLower_calls s _ hs).mono ?_
          rintro e w1 ⟨rfl, hb⟩
          go_wp2_with fail
          refine (specStarts_calls _ _ _).mono ?_
          rintro e w2 ⟨rfl, rfl⟩
          go_wp2_with fail
          refine (specStarts_calls _ _ _).mono ?_
          rintro e w2 ⟨rfl, rfl⟩
          go_wp2_with fail
          refine (specStarts_calls _ _ _).mono ?_
          rintro e w2 ⟨rfl, rfl⟩
          go_wp2_with fail
          go_ret
          exact ⟨ret_bool (by rw [HR.out, HQ.out]), hb⟩
end Go.Proofs.Ytmgkolcpomaceaa
