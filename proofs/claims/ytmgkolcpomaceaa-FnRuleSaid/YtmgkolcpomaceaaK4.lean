/- The pattern of values, and what it has to do with spec.value. -/
import Derived.Test.YtmgkolcpomaceaaK3
namespace Go.Proofs.Ytmgkolcpomaceaa
open Go.RowKit
set_option linter.unusedVariables false
set_option linter.unusedSimpArgs false

def patC (c : UInt8) : Bool := cssC c || c == 44
def starC (c : UInt8) : Bool := c == 42 || c == 47
def regL : List UInt8 → Bool
  | [] => true
  | [c] => starC c || patC c
  | c :: d :: r => if starC c = true then patC d && regL r else patC c && regL (d :: r)
theorem regL_plain {c : UInt8} {r : List UInt8} (h : starC c = false) : regL (c :: r) = (patC c && regL r) := by
  cases r with
  | nil => simp [regL, h]
  | cons d r => rw [regL]; simp [h]
theorem regL_star {c d : UInt8} {r : List UInt8} (h : starC c = true) : regL (c :: d :: r) = (patC d && regL r) := by
  rw [regL]; simp [h]
theorem patC_iff {c : UInt8} (h1 : letterC c = false) (h2 : digitC c = false) : patC c = true ↔ ((43 ≤ c.toNat ∧ c.toNat ≤ 46) ∨ c.toNat = 33 ∨ c.toNat = 35 ∨ c.toNat = 37 ∨ c.toNat = 95 ∨ c.toNat = 32 ∨ c.toNat = 9) := by
  simp only [patC, cssC, h1, h2, Bool.false_or, Bool.or_eq_true, beq_iff_eq, ← UInt8.toNat_inj]
  simp
  omega
theorem patC_true {c : UInt8} (h1 : letterC c = false) (h2 : digitC c = false) (h : (43 ≤ c.toNat ∧ c.toNat ≤ 46) ∨ c.toNat = 33 ∨ c.toNat = 35 ∨ c.toNat = 37 ∨ c.toNat = 95 ∨ c.toNat = 32 ∨ c.toNat = 9) : patC c = true := (patC_iff h1 h2).2 h
theorem patC_false {c : UInt8} (h1 : letterC c = false) (h2 : digitC c = false) (h : ¬ ((43 ≤ c.toNat ∧ c.toNat ≤ 46) ∨ c.toNat = 33 ∨ c.toNat = 35 ∨ c.toNat = 37 ∨ c.toNat = 95 ∨ c.toNat = 32 ∨ c.toNat = 9)) : patC c = false := by
  rw [Bool.eq_false_iff]; exact fun h' => h ((patC_iff h1 h2).1 h')
theorem patC_digit {c : UInt8} (h : digitC c = true) : patC c = true := by simp [patC, cssC, h]
theorem patC_letter {c : UInt8} (h : letterC c = true) : patC c = true := by simp [patC, cssC, h]

set_option maxHeartbeats 8000000 in
set_option maxRecDepth 100000 in
theorem regular_calls (s : ByteArray) (w : World) (hs : s.size ≤ 2147483647) :
    Calls Try.prog 137 #[.string s] w fun e w' => e = .returned (.bool (regL s.data.toList)) ∧ Below w.heap.size w w' := by
  go_enter Try.func137, Try.ntmps137
  go_wp2_with fail
  go_loopg [3] s.size (fun gk i wr => ∃ k : Nat, gk = s.size - k ∧ k ≤ s.size ∧ i = .int .i64 k ∧ Hid (regL s.data.toList = regL (s.data.toList.drop k)) ∧ Hid (Below w.heap.size w wr))
  case atStart => exact ⟨0, rfl, Nat.zero_le _, rfl, by simp [Hid], Below.refl _ _⟩
  case round =>
    obtain ⟨k, hgk, hk, rfl, ha, hB⟩ := hrel
    have HG := Lib.hid hgk
    clear hgk
    by_cases hlt : k < s.size
    · have HDk := Lib.hid (drop_byte s k hlt)
      have HSt := Lib.hid (show starC s[k] = (((s[k].toNat : Int) == 42) || ((s[k].toNat : Int) == 47)) by
        rw [show ((42:Int)) = ((42 : UInt8).toNat : Int) from rfl, show ((47:Int)) = ((47 : UInt8).toNat : Int) from rfl, u8_beq, u8_beq]; rfl)
      go_upto_region 4 with fail
      go_cut [20] (fun v wx => v = .bool (starC s[k]) ∧ Hid (Below w.heap.size w wx))
      case first =>
        cases m42 : ((s[k].toNat : Int) == 42) with
        | true =>
          have M42 := Lib.hid m42
          go_wp2_with fail
          go_meet
          exact ⟨by rw [HSt.out, M42.out]; rfl, hB⟩
        | false =>
          have M42 := Lib.hid m42
          go_wp2_with fail
          go_meet
          exact ⟨by rw [HSt.out, M42.out]; rfl, hB⟩
      case rest =>
        obtain ⟨rfl, hB⟩ := hcut
        go_upto_if 20 with fail
        go_cut [3] (fun v wx => ∃ j : Nat, v = .int .i64 j ∧ j < s.size ∧ k ≤ j ∧ Hid (regL s.data.toList = (patC (s.data.toList.getD j 0) && regL (s.data.toList.drop (j + 1)))) ∧ Hid (Below w.heap.size w wx))
        case first =>
          cases hst : starC s[k] with
          | true =>
            have Hst := Lib.hid hst
            clear hst
            by_cases hk1 : k + 1 < s.size
            · have HDk1 := Lib.hid (drop_byte s (k + 1) hk1)
              have HE := Lib.hid (show regL s.data.toList = (patC (s.data.toList.getD (k + 1) 0) && regL (s.data.toList.drop (k + 1 + 1))) by rw [ha.out, HDk.out, HDk1.out, regL_star Hst.out, getD_at s (k + 1) hk1])
              have gne : ((k:Int) + 1 == (s.size : Int)) = false := by simp; omega
              have gnd : decide ((k:Int) + 1 = (s.size : Int)) = false := by simp; omega
              go_wp2_with fail
              go_meet
              exact ⟨k + 1, by simp, hk1, by omega, HE, hB⟩
            · have gne : ((k:Int) + 1 == (s.size : Int)) = true := by simp; omega
              have gnd : decide ((k:Int) + 1 = (s.size : Int)) = true := by simp; omega
              have HE := Lib.hid (show regL s.data.toList = true by
                rw [ha.out, HDk.out, List.drop_of_length_le (by simp; omega), regL, Hst.out]; rfl)
              go_wp2_with fail
              go_ret
              exact ⟨ret_bool HE.out.symm, hB.out⟩
          | false =>
            have Hst := Lib.hid hst
            clear hst
            have HE := Lib.hid (show regL s.data.toList = (patC (s.data.toList.getD k 0) && regL (s.data.toList.drop (k + 1))) by rw [ha.out, HDk.out, regL_plain Hst.out, getD_at s k hlt])
            go_wp2_with fail
            go_meet
            exact ⟨k, rfl, hlt, Nat.le_refl _, HE, hB⟩
        case rest =>
          obtain ⟨j, rfl, hj, hkj, hE, hB⟩ := hcut
          have HE := Lib.hid (show regL s.data.toList = (patC s[j] && regL (s.data.toList.drop (j + 1))) by rw [← getD_at s j hj]; exact hE.out)
          clear hE
          go_upto_region 9 with fail
          go_cut [69] (fun v wx => v = .bool (!(patC s[j])) ∧ Hid (Below w.heap.size w wx))
          case first =>
            cases hdi : digitC s[j] with
            | true =>
              have HDi := Lib.hid (patC_digit hdi)
              go_wp2_with fail
              refine (zzDigit_calls s[j] _).mono ?_
              rintro e w3 ⟨rfl, rfl⟩
              go_wp2_with fail
              go_meet
              exact ⟨by rw [HDi.out]; rfl, hB⟩
            | false =>
              have HDi := Lib.hid hdi
              cases hle : letterC s[j] with
              | true =>
                have HLe := Lib.hid (patC_letter hle)
                go_wp2_with fail
                refine (zzDigit_calls s[j] _).mono ?_
                rintro e w3 ⟨rfl, rfl⟩
                go_wp2_with fail
                refine (zzLetter_calls s[j] _).mono ?_
                rintro e w3 ⟨rfl, rfl⟩
                go_wp2_with fail
                go_meet
                exact ⟨by rw [HLe.out]; rfl, hB⟩
              | false =>
                have HLe := Lib.hid hle
                have h256 := toNat_lt_256 s[j]
                rcases (show (0 ≤ s[j].toNat ∧ s[j].toNat ≤ 8) ∨ (9 ≤ s[j].toNat ∧ s[j].toNat ≤ 9) ∨ (10 ≤ s[j].toNat ∧ s[j].toNat ≤ 31) ∨ (32 ≤ s[j].toNat ∧ s[j].toNat ≤ 32) ∨ (33 ≤ s[j].toNat ∧ s[j].toNat ≤ 33) ∨ (34 ≤ s[j].toNat ∧ s[j].toNat ≤ 34) ∨ (35 ≤ s[j].toNat ∧ s[j].toNat ≤ 35) ∨ (36 ≤ s[j].toNat ∧ s[j].toNat ≤ 36) ∨ (37 ≤ s[j].toNat ∧ s[j].toNat ≤ 37) ∨ (38 ≤ s[j].toNat ∧ s[j].toNat ≤ 42) ∨ (43 ≤ s[j].toNat ∧ s[j].toNat ≤ 46) ∨ (47 ≤ s[j].toNat ∧ s[j].toNat ≤ 94) ∨ (95 ≤ s[j].toNat ∧ s[j].toNat ≤ 95) ∨ (96 ≤ s[j].toNat ∧ s[j].toNat ≤ 255) by omega) with h | h | h | h | h | h | h | h | h | h | h | h | h | h
                · have H := Lib.hid h
                  have gl : decide ((s[j].toNat : Int) < 43) = true := by simp; omega
                  have gg : decide (46 < (s[j].toNat : Int)) = false := by simp; omega
                  have n33 : ((s[j].toNat : Int) != 33) = true := by simp; omega
                  have n35 : ((s[j].toNat : Int) != 35) = true := by simp; omega
                  have n37 : ((s[j].toNat : Int) != 37) = true := by simp; omega
                  have n95 : ((s[j].toNat : Int) != 95) = true := by simp; omega
                  have n32 : ((s[j].toNat : Int) != 32) = true := by simp; omega
                  have n9 : ((s[j].toNat : Int) != 9) = true := by simp; omega
                  have HPt := Lib.hid (patC_false HLe.out HDi.out (by omega))
                  clear h
                  go_wp2_with fail
                  refine (zzDigit_calls s[j] _).mono ?_
                  rintro e w3 ⟨rfl, rfl⟩
                  go_wp2_with fail
                  refine (zzLetter_calls s[j] _).mono ?_
                  rintro e w3 ⟨rfl, rfl⟩
                  go_wp2_with fail
                  go_meet
                  exact ⟨by rw [HPt.out]; rfl, hB⟩
                · have H := Lib.hid h
                  have gl : decide ((s[j].toNat : Int) < 43) = true := by simp; omega
                  have gg : decide (46 < (s[j].toNat : Int)) = false := by simp; omega
                  have n33 : ((s[j].toNat : Int) != 33) = true := by simp; omega
                  have n35 : ((s[j].toNat : Int) != 35) = true := by simp; omega
                  have n37 : ((s[j].toNat : Int) != 37) = true := by simp; omega
                  have n95 : ((s[j].toNat : Int) != 95) = true := by simp; omega
                  have n32 : ((s[j].toNat : Int) != 32) = true := by simp; omega
                  have n9 : ((s[j].toNat : Int) != 9) = false := by simp; omega
                  have HPt := Lib.hid (patC_true HLe.out HDi.out (by omega))
                  clear h
                  go_wp2_with fail
                  refine (zzDigit_calls s[j] _).mono ?_
                  rintro e w3 ⟨rfl, rfl⟩
                  go_wp2_with fail
                  refine (zzLetter_calls s[j] _).mono ?_
                  rintro e w3 ⟨rfl, rfl⟩
                  go_wp2_with fail
                  go_meet
                  exact ⟨by rw [HPt.out]; rfl, hB⟩
                · have H := Lib.hid h
                  have gl : decide ((s[j].toNat : Int) < 43) = true := by simp; omega
                  have gg : decide (46 < (s[j].toNat : Int)) = false := by simp; omega
                  have n33 : ((s[j].toNat : Int) != 33) = true := by simp; omega
                  have n35 : ((s[j].toNat : Int) != 35) = true := by simp; omega
                  have n37 : ((s[j].toNat : Int) != 37) = true := by simp; omega
                  have n95 : ((s[j].toNat : Int) != 95) = true := by simp; omega
                  have n32 : ((s[j].toNat : Int) != 32) = true := by simp; omega
                  have n9 : ((s[j].toNat : Int) != 9) = true := by simp; omega
                  have HPt := Lib.hid (patC_false HLe.out HDi.out (by omega))
                  clear h
                  go_wp2_with fail
                  refine (zzDigit_calls s[j] _).mono ?_
                  rintro e w3 ⟨rfl, rfl⟩
                  go_wp2_with fail
                  refine (zzLetter_calls s[j] _).mono ?_
                  rintro e w3 ⟨rfl, rfl⟩
                  go_wp2_with fail
                  go_meet
                  exact ⟨by rw [HPt.out]; rfl, hB⟩
                · have H := Lib.hid h
                  have gl : decide ((s[j].toNat : Int) < 43) = true := by simp; omega
                  have gg : decide (46 < (s[j].toNat : Int)) = false := by simp; omega
                  have n33 : ((s[j].toNat : Int) != 33) = true := by simp; omega
                  have n35 : ((s[j].toNat : Int) != 35) = true := by simp; omega
                  have n37 : ((s[j].toNat : Int) != 37) = true := by simp; omega
                  have n95 : ((s[j].toNat : Int) != 95) = true := by simp; omega
                  have n32 : ((s[j].toNat : Int) != 32) = false := by simp; omega
                  have n9 : ((s[j].toNat : Int) != 9) = true := by simp; omega
                  have HPt := Lib.hid (patC_true HLe.out HDi.out (by omega))
                  clear h
                  go_wp2_with fail
                  refine (zzDigit_calls s[j] _).mono ?_
                  rintro e w3 ⟨rfl, rfl⟩
                  go_wp2_with fail
                  refine (zzLetter_calls s[j] _).mono ?_
                  rintro e w3 ⟨rfl, rfl⟩
                  go_wp2_with fail
                  go_meet
                  exact ⟨by rw [HPt.out]; rfl, hB⟩
                · have H := Lib.hid h
                  have gl : decide ((s[j].toNat : Int) < 43) = true := by simp; omega
                  have gg : decide (46 < (s[j].toNat : Int)) = false := by simp; omega
                  have n33 : ((s[j].toNat : Int) != 33) = false := by simp; omega
                  have n35 : ((s[j].toNat : Int) != 35) = true := by simp; omega
                  have n37 : ((s[j].toNat : Int) != 37) = true := by simp; omega
                  have n95 : ((s[j].toNat : Int) != 95) = true := by simp; omega
                  have n32 : ((s[j].toNat : Int) != 32) = true := by simp; omega
                  have n9 : ((s[j].toNat : Int) != 9) = true := by simp; omega
                  have HPt := Lib.hid (patC_true HLe.out HDi.out (by omega))
                  clear h
                  go_wp2_with fail
                  refine (zzDigit_calls s[j] _).mono ?_
                  rintro e w3 ⟨rfl, rfl⟩
                  go_wp2_with fail
                  refine (zzLetter_calls s[j] _).mono ?_
                  rintro e w3 ⟨rfl, rfl⟩
                  go_wp2_with fail
                  go_meet
                  exact ⟨by rw [HPt.out]; rfl, hB⟩
                · have H := Lib.hid h
                  have gl : decide ((s[j].toNat : Int) < 43) = true := by simp; omega
                  have gg : decide (46 < (s[j].toNat : Int)) = false := by simp; omega
                  have n33 : ((s[j].toNat : Int) != 33) = true := by simp; omega
                  have n35 : ((s[j].toNat : Int) != 35) = true := by simp; omega
                  have n37 : ((s[j].toNat : Int) != 37) = true := by simp; omega
                  have n95 : ((s[j].toNat : Int) != 95) = true := by simp; omega
                  have n32 : ((s[j].toNat : Int) != 32) = true := by simp; omega
                  have n9 : ((s[j].toNat : Int) != 9) = true := by simp; omega
                  have HPt := Lib.hid (patC_false HLe.out HDi.out (by omega))
                  clear h
                  go_wp2_with fail
                  refine (zzDigit_calls s[j] _).mono ?_
                  rintro e w3 ⟨rfl, rfl⟩
                  go_wp2_with fail
                  refine (zzLetter_calls s[j] _).mono ?_
                  rintro e w3 ⟨rfl, rfl⟩
                  go_wp2_with fail
                  go_meet
                  exact ⟨by rw [HPt.out]; rfl, hB⟩
                · have H := Lib.hid h
                  have gl : decide ((s[j].toNat : Int) < 43) = true := by simp; omega
                  have gg : decide (46 < (s[j].toNat : Int)) = false := by simp; omega
                  have n33 : ((s[j].toNat : Int) != 33) = true := by simp; omega
                  have n35 : ((s[j].toNat : Int) != 35) = false := by simp; omega
                  have n37 : ((s[j].toNat : Int) != 37) = true := by simp; omega
                  have n95 : ((s[j].toNat : Int) != 95) = true := by simp; omega
                  have n32 : ((s[j].toNat : Int) != 32) = true := by simp; omega
                  have n9 : ((s[j].toNat : Int) != 9) = true := by simp; omega
                  have HPt := Lib.hid (patC_true HLe.out HDi.out (by omega))
                  clear h
                  go_wp2_with fail
                  refine (zzDigit_calls s[j] _).mono ?_
                  rintro e w3 ⟨rfl, rfl⟩
                  go_wp2_with fail
                  refine (zzLetter_calls s[j] _).mono ?_
                  rintro e w3 ⟨rfl, rfl⟩
                  go_wp2_with fail
                  go_meet
                  exact ⟨by rw [HPt.out]; rfl, hB⟩
                · have H := Lib.hid h
                  have gl : decide ((s[j].toNat : Int) < 43) = true := by simp; omega
                  have gg : decide (46 < (s[j].toNat : Int)) = false := by simp; omega
                  have n33 : ((s[j].toNat : Int) != 33) = true := by simp; omega
                  have n35 : ((s[j].toNat : Int) != 35) = true := by simp; omega
                  have n37 : ((s[j].toNat : Int) != 37) = true := by simp; omega
                  have n95 : ((s[j].toNat : Int) != 95) = true := by simp; omega
                  have n32 : ((s[j].toNat : Int) != 32) = true := by simp; omega
                  have n9 : ((s[j].toNat : Int) != 9) = true := by simp; omega
                  have HPt := Lib.hid (patC_false HLe.out HDi.out (by omega))
                  clear h
                  go_wp2_with fail
                  refine (zzDigit_calls s[j] _).mono ?_
                  rintro e w3 ⟨rfl, rfl⟩
                  go_wp2_with fail
                  refine (zzLetter_calls s[j] _).mono ?_
                  rintro e w3 ⟨rfl, rfl⟩
                  go_wp2_with fail
                  go_meet
                  exact ⟨by rw [HPt.out]; rfl, hB⟩
                · have H := Lib.hid h
                  have gl : decide ((s[j].toNat : Int) < 43) = true := by simp; omega
                  have gg : decide (46 < (s[j].toNat : Int)) = false := by simp; omega
                  have n33 : ((s[j].toNat : Int) != 33) = true := by simp; omega
                  have n35 : ((s[j].toNat : Int) != 35) = true := by simp; omega
                  have n37 : ((s[j].toNat : Int) != 37) = false := by simp; omega
                  have n95 : ((s[j].toNat : Int) != 95) = true := by simp; omega
                  have n32 : ((s[j].toNat : Int) != 32) = true := by simp; omega
                  have n9 : ((s[j].toNat : Int) != 9) = true := by simp; omega
                  have HPt := Lib.hid (patC_true HLe.out HDi.out (by omega))
                  clear h
                  go_wp2_with fail
                  refine (zzDigit_calls s[j] _).mono ?_
                  rintro e w3 ⟨rfl, rfl⟩
                  go_wp2_with fail
                  refine (zzLetter_calls s[j] _).mono ?_
                  rintro e w3 ⟨rfl, rfl⟩
                  go_wp2_with fail
                  go_meet
                  exact ⟨by rw [HPt.out]; rfl, hB⟩
                · have H := Lib.hid h
                  have gl : decide ((s[j].toNat : Int) < 43) = true := by simp; omega
                  have gg : decide (46 < (s[j].toNat : Int)) = false := by simp; omega
                  have n33 : ((s[j].toNat : Int) != 33) = true := by simp; omega
                  have n35 : ((s[j].toNat : Int) != 35) = true := by simp; omega
                  have n37 : ((s[j].toNat : Int) != 37) = true := by simp; omega
                  have n95 : ((s[j].toNat : Int) != 95) = true := by simp; omega
                  have n32 : ((s[j].toNat : Int) != 32) = true := by simp; omega
                  have n9 : ((s[j].toNat : Int) != 9) = true := by simp; omega
                  have HPt := Lib.hid (patC_false HLe.out HDi.out (by omega))
                  clear h
                  go_wp2_with fail
                  refine (zzDigit_calls s[j] _).mono ?_
                  rintro e w3 ⟨rfl, rfl⟩
                  go_wp2_with fail
                  refine (zzLetter_calls s[j] _).mono ?_
                  rintro e w3 ⟨rfl, rfl⟩
                  go_wp2_with fail
                  go_meet
                  exact ⟨by rw [HPt.out]; rfl, hB⟩
                · have H := Lib.hid h
                  have gl : decide ((s[j].toNat : Int) < 43) = false := by simp; omega
                  have gg : decide (46 < (s[j].toNat : Int)) = false := by simp; omega
                  have n33 : ((s[j].toNat : Int) != 33) = true := by simp; omega
                  have n35 : ((s[j].toNat : Int) != 35) = true := by simp; omega
                  have n37 : ((s[j].toNat : Int) != 37) = true := by simp; omega
                  have n95 : ((s[j].toNat : Int) != 95) = true := by simp; omega
                  have n32 : ((s[j].toNat : Int) != 32) = true := by simp; omega
                  have n9 : ((s[j].toNat : Int) != 9) = true := by simp; omega
                  have HPt := Lib.hid (patC_true HLe.out HDi.out (by omega))
                  clear h
                  go_wp2_with fail
                  refine (zzDigit_calls s[j] _).mono ?_
                  rintro e w3 ⟨rfl, rfl⟩
                  go_wp2_with fail
                  refine (zzLetter_calls s[j] _).mono ?_
                  rintro e w3 ⟨rfl, rfl⟩
                  go_wp2_with fail
                  go_meet
                  exact ⟨by rw [HPt.out]; rfl, hB⟩
                · have H := Lib.hid h
                  have gl : decide ((s[j].toNat : Int) < 43) = false := by simp; omega
                  have gg : decide (46 < (s[j].toNat : Int)) = true := by simp; omega
                  have n33 : ((s[j].toNat : Int) != 33) = true := by simp; omega
                  have n35 : ((s[j].toNat : Int) != 35) = true := by simp; omega
                  have n37 : ((s[j].toNat : Int) != 37) = true := by simp; omega
                  have n95 : ((s[j].toNat : Int) != 95) = true := by simp; omega
                  have n32 : ((s[j].toNat : Int) != 32) = true := by simp; omega
                  have n9 : ((s[j].toNat : Int) != 9) = true := by simp; omega
                  have HPt := Lib.hid (patC_false HLe.out HDi.out (by omega))
                  clear h
                  go_wp2_with fail
                  refine (zzDigit_calls s[j] _).mono ?_
                  rintro e w3 ⟨rfl, rfl⟩
                  go_wp2_with fail
                  refine (zzLetter_calls s[j] _).mono ?_
                  rintro e w3 ⟨rfl, rfl⟩
                  go_wp2_with fail
                  go_meet
                  exact ⟨by rw [HPt.out]; rfl, hB⟩
                · have H := Lib.hid h
                  have gl : decide ((s[j].toNat : Int) < 43) = false := by simp; omega
                  have gg : decide (46 < (s[j].toNat : Int)) = true := by simp; omega
                  have n33 : ((s[j].toNat : Int) != 33) = true := by simp; omega
                  have n35 : ((s[j].toNat : Int) != 35) = true := by simp; omega
                  have n37 : ((s[j].toNat : Int) != 37) = true := by simp; omega
                  have n95 : ((s[j].toNat : Int) != 95) = false := by simp; omega
                  have n32 : ((s[j].toNat : Int) != 32) = true := by simp; omega
                  have n9 : ((s[j].toNat : Int) != 9) = true := by simp; omega
                  have HPt := Lib.hid (patC_true HLe.out HDi.out (by omega))
                  clear h
                  go_wp2_with fail
                  refine (zzDigit_calls s[j] _).mono ?_
                  rintro e w3 ⟨rfl, rfl⟩
                  go_wp2_with fail
                  refine (zzLetter_calls s[j] _).mono ?_
                  rintro e w3 ⟨rfl, rfl⟩
                  go_wp2_with fail
                  go_meet
                  exact ⟨by rw [HPt.out]; rfl, hB⟩
                · have H := Lib.hid h
                  have gl : decide ((s[j].toNat : Int) < 43) = false := by simp; omega
                  have gg : decide (46 < (s[j].toNat : Int)) = true := by simp; omega
                  have n33 : ((s[j].toNat : Int) != 33) = true := by simp; omega
                  have n35 : ((s[j].toNat : Int) != 35) = true := by simp; omega
                  have n37 : ((s[j].toNat : Int) != 37) = true := by simp; omega
                  have n95 : ((s[j].toNat : Int) != 95) = true := by simp; omega
                  have n32 : ((s[j].toNat : Int) != 32) = true := by simp; omega
                  have n9 : ((s[j].toNat : Int) != 9) = true := by simp; omega
                  have HPt := Lib.hid (patC_false HLe.out HDi.out (by omega))
                  clear h
                  go_wp2_with fail
                  refine (zzDigit_calls s[j] _).mono ?_
                  rintro e w3 ⟨rfl, rfl⟩
                  go_wp2_with fail
                  refine (zzLetter_calls s[j] _).mono ?_
                  rintro e w3 ⟨rfl, rfl⟩
                  go_wp2_with fail
                  go_meet
                  exact ⟨by rw [HPt.out]; rfl, hB⟩
          case rest =>
            obtain ⟨rfl, hB⟩ := hcut
            cases hpc : patC s[j] with
            | true =>
              have HZ := Lib.hid (show regL s.data.toList = regL (s.data.toList.drop (j + 1)) by rw [HE.out, hpc]; rfl)
              go_wp2_with fail
              go_roundg (s.size - (j + 1))
              case measure => rw [HG.out]; omega
              case rel => exact ⟨j + 1, rfl, by omega, by simp, HZ, hB⟩
            | false =>
              have HZ := Lib.hid (show regL s.data.toList = false by rw [HE.out, hpc]; rfl)
              go_wp2_with fail
              go_ret
              exact ⟨ret_bool HZ.out.symm, hB.out⟩
    · have hks : k = s.size := by omega
      have HT := Lib.hid (show regL s.data.toList = true by rw [ha.out, hks, List.drop_of_length_le (by simp)]; rfl)
      clear hks HG
      go_wp2_with fail
      go_ret
      exact ⟨ret_bool (by rw [HT.out]), hB.out⟩
end Go.Proofs.Ytmgkolcpomaceaa
