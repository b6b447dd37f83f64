/- spec.quoted. -/
import Derived.Test.YtmgkolcpomaceaaK4
import Derived.Test.YtmgkolcpomaceaaH2
namespace Go.Proofs.Ytmgkolcpomaceaa
open Go.RowKit
set_option linter.unusedVariables false
set_option linter.unusedSimpArgs false

def hexUp : List UInt8 := [48, 49, 50, 51, 52, 53, 54, 55, 56, 57, 65, 66, 67, 68, 69, 70]
def ctlC (c : UInt8) : Bool := decide (c.toNat < 32) || c == 127 || c == 60 || c == 34 || c == 92
def quoC (c : UInt8) : List UInt8 := if c == 0 then [239, 191, 189] else if ctlC c then 92 :: hexL hexUp 6 c.toNat else [c]
def quoL (l : List UInt8) : List UInt8 := l.flatMap quoC
def quoS (s : ByteArray) : ByteArray := ⟨(34 :: (quoL s.data.toList ++ [34])).toArray⟩
theorem quoL_snoc (l : List UInt8) (c : UInt8) : quoL (l ++ [c]) = quoL l ++ quoC c := by simp [quoL]
theorem quoC_len (c : UInt8) : (quoC c).length ≤ 7 := by
  unfold quoC
  split
  · simp
  · split <;> simp [hexL_len]
theorem quoL_len (l : List UInt8) : (quoL l).length ≤ 7 * l.length := by
  induction l with
  | nil => simp [quoL]
  | cons c l ih => have := quoC_len c; simp only [quoL, List.flatMap_cons, List.length_append, List.length_cons] at ih ⊢; omega

set_option maxHeartbeats 16000000 in
set_option maxRecDepth 100000 in
theorem quoted_calls (s : ByteArray) (w : World) (hs : s.size ≤ 2147483647) :
    Calls Try.prog 113 #[.string s] w fun e w' => e = .returned (.string (quoS s)) ∧ Below w.heap.size w w' := by
  go_enter Try.func113, Try.ntmps113
  go_wp2
  go_loopg [3, 4] s.size (fun gk v i wr => ∃ (k : Nat) (A : ByteArray), gk = s.size - k ∧ k ≤ s.size ∧ i = .int .i64 k ∧ v = .string A ∧ Hid (A.data.toList = 34 :: quoL (s.data.toList.take k)) ∧ Hid (Below w.heap.size w wr))
  case atStart => exact ⟨0, ⟨#[34]⟩, rfl, Nat.zero_le _, rfl, rfl, by simp [Hid, quoL], Below.refl _ _⟩
  case round =>
    obtain ⟨k, A, hgk, hk, rfl, rfl, hA, hB⟩ := hrel
    have hAl : A.size ≤ 15032385530 := by
      have h1 := congrArg List.length hA.out
      have h2 := quoL_len (s.data.toList.take k)
      simp at h1 h2
      omega
    have HG := Lib.hid hgk
    clear hgk
    by_cases hlt : k < s.size
    · have HT := Lib.hid (take_succ_byte s k hlt)
      have h256 := toNat_lt_256 s[k]
      have h0v := u8_beq s[k] 0
      cases m0 : ((s[k].toNat : Int) == 0) with
      | true =>
        have HC := Lib.hid (show quoC s[k] = [239, 191, 189] by
          rw [show ((0:UInt8).toNat : Int) = 0 from rfl, m0] at h0v
          rw [quoC, if_pos h0v.symm])
        clear h0v
        have hadd : A.size + (ByteArray.mk #[239, 191, 189]).size ≤ 9223372036854775807 := by rw [show (ByteArray.mk #[239, 191, 189]).size = 3 from rfl]; omega
        go_wp2_with fail
        go_roundg (s.size - (k + 1))
        case measure => rw [HG.out]; omega
        case rel =>
          refine ⟨k + 1, A ++ ⟨#[239, 191, 189]⟩, rfl, by omega, by simp, rfl, ?_, hB⟩
          rw [Hid, HT.out, quoL_snoc, HC.out, bytes_append, hA.out]; rfl
      | false =>
        have HN0 := Lib.hid (show ¬ (s[k] == 0) = true by
          rw [show ((0:UInt8).toNat : Int) = 0 from rfl, m0] at h0v
          rw [← h0v]; simp)
        clear h0v
        go_upto_region 9 with fail
        go_cut [27] (fun v wx => v = .bool (ctlC s[k]) ∧ Hid (Below w.heap.size w wx))
        case first =>
          have HE := Lib.hid (show ctlC s[k] = (decide ((s[k].toNat : Int) < 32) || ((s[k].toNat : Int) == 127) || ((s[k].toNat : Int) == 60) || ((s[k].toNat : Int) == 34) || ((s[k].toNat : Int) == 92)) by
            rw [show ((127:Int)) = ((127 : UInt8).toNat : Int) from rfl, show ((60:Int)) = ((60 : UInt8).toNat : Int) from rfl, show ((34:Int)) = ((34 : UInt8).toNat : Int) from rfl, show ((92:Int)) = ((92 : UInt8).toNat : Int) from rfl, u8_beq, u8_beq, u8_beq, u8_beq, ctlC]
            congr 4
            rw [decide_eq_decide]; omega)
          cases m32 : decide ((s[k].toNat : Int) < 32) with
          | true =>
            have M32 := Lib.hid m32
            go_wp2_with fail
            go_meet
            exact ⟨by rw [HE.out, M32.out]; rfl, hB⟩
          | false =>
            have M32 := Lib.hid m32
            cases m127 : ((s[k].toNat : Int) == 127) with
            | true =>
              have M127 := Lib.hid m127
              go_wp2_with fail
              go_meet
              exact ⟨by rw [HE.out, M32.out, M127.out]; rfl, hB⟩
            | false =>
              have M127 := Lib.hid m127
              cases m60 : ((s[k].toNat : Int) == 60) with
              | true =>
                have M60 := Lib.hid m60
                go_wp2_with fail
                go_meet
                exact ⟨by rw [HE.out, M32.out, M127.out, M60.out]; rfl, hB⟩
              | false =>
                have M60 := Lib.hid m60
                cases m34 : ((s[k].toNat : Int) == 34) with
                | true =>
                  have M34 := Lib.hid m34
                  go_wp2_with fail
                  go_meet
                  exact ⟨by rw [HE.out, M32.out, M127.out, M60.out, M34.out]; rfl, hB⟩
                | false =>
                  have M34 := Lib.hid m34
                  go_wp2_with fail
                  go_meet
                  exact ⟨by rw [HE.out, M32.out, M127.out, M60.out, M34.out]; rfl, hB⟩
        case rest =>
          obtain ⟨rfl, hB⟩ := hcut
          cases hE : ctlC s[k] with
          | true =>
            have HC := Lib.hid (show quoC s[k] = 92 :: hexL hexUp 6 s[k].toNat by rw [quoC, if_neg HN0.out, hE]; rfl)
            clear hE
            go_wp2_with fail
            refine (hex_calls ⟨#[48, 49, 50, 51, 52, 53, 54, 55, 56, 57, 65, 66, 67, 68, 69, 70]⟩ rfl s[k].toNat 6 (by omega) (by omega) (by omega) _).mono ?_
            rintro e w1 ⟨rfl, hb⟩
            generalize hX : (⟨(hexL (ByteArray.mk #[48, 49, 50, 51, 52, 53, 54, 55, 56, 57, 65, 66, 67, 68, 69, 70]).data.toList 6 s[k].toNat).toArray⟩ : ByteArray) = X
            have HX : Hid (X.data.toList = hexL hexUp 6 s[k].toNat) := by rw [Hid, ← hX]; rfl
            have hXs : X.size = 6 := by
              have h1 : X.data.toList.length = 6 := by rw [HX.out, hexL_len]
              simpa using h1
            have hbw := Lib.hid hb
            clear hX hb
            have hadd0 : (ByteArray.mk #[92]).size + X.size ≤ 9223372036854775807 := by rw [hXs]; decide
            have hXsz : ((ByteArray.mk #[92]) ++ X).size = 7 := by rw [ByteArray.size_append, hXs]; rfl
            have hadd : A.size + ((ByteArray.mk #[92]) ++ X).size ≤ 9223372036854775807 := by rw [hXsz]; omega
            go_wp2_with fail
            go_roundg (s.size - (k + 1))
            case measure => rw [HG.out]; omega
            case rel =>
              refine ⟨k + 1, A ++ ((ByteArray.mk #[92]) ++ X), rfl, by omega, by simp, rfl, ?_, below_then hB.out hB.out.size hbw.out⟩
              rw [Hid, HT.out, quoL_snoc, HC.out, bytes_append, bytes_append, HX.out, hA.out]
              rfl
          | false =>
            have HC := Lib.hid (show quoC s[k] = [s[k]] by rw [quoC, if_neg HN0.out, hE]; rfl)
            clear hE
            have hadd : A.size + (s.extract k (k + 1)).size ≤ 9223372036854775807 := by simp [ByteArray.size_extract]; omega
            go_wp2_with fail
            go_roundg (s.size - (k + 1))
            case measure => rw [HG.out]; omega
            case rel =>
              refine ⟨k + 1, A ++ s.extract k (k + 1), rfl, by omega, by simp, rfl, ?_, hB⟩
              have h1 := drop_take_succ s k k (Nat.le_refl _) hlt
              simp only [Nat.sub_self, List.take_zero, List.nil_append] at h1
              rw [Hid, HT.out, quoL_snoc, HC.out, bytes_append, Lib.extract_data, h1, hA.out]
              rfl
    · have hks : k = s.size := by omega
      have hfin : Hid (A ++ ⟨#[34]⟩ = quoS s) := by
        have h1 := hA.out
        rw [hks, List.take_of_length_le (by simp)] at h1
        apply WideShapes.bytes_inj
        rw [bytes_append, h1]; rfl
      have hadd : A.size + (ByteArray.mk #[34]).size ≤ 9223372036854775807 := by rw [show (ByteArray.mk #[34]).size = 1 from rfl]; omega
      clear hks HG
      go_wp2_with fail
      go_ret
      exact ⟨ret_string hfin.out, hB.out⟩
end Go.Proofs.Ytmgkolcpomaceaa
