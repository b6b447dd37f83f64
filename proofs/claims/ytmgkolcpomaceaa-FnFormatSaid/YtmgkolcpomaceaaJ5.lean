/- spec.Format. -/
import Derived.Test.YtmgkolcpomaceaaJ4
namespace Go.Proofs.Ytmgkolcpomaceaa
open Go.RowKit
set_option linter.unusedVariables false
set_option linter.unusedSimpArgs false

theorem enters80 : Enters 80 := fun args w => by simp [go_sem, Try.func80]
theorem label_not {c : UInt8} (h1 : letterC c = false) (h2 : digitC c = false) : ((c.toNat : Int) != 95) = !(labelC c) := by
  rw [bne, show ((95:Int)) = ((95 : UInt8).toNat : Int) from rfl, u8_beq, labelC, h1, h2]; rfl

set_option maxHeartbeats 4000000 in
set_option maxRecDepth 100000 in
theorem format1_calls (c : UInt8) (w : World) : Calls Try.prog 80 #[.int .u8 (c.toNat : Int)] w fun e w' => e = .returned (.bool (!(labelC c))) ∧ w = w' := by
  cases hL : letterC c with
  | true =>
    have HL := Lib.hid hL
    go_enter Try.func80, Try.ntmps80
    go_wp2_with fail
    refine (specLetter_calls c _).mono ?_
    rintro e w1 ⟨rfl, rfl⟩
    go_wp2_with fail
    go_ret
    exact ⟨ret_bool (by rw [labelC, HL.out]; rfl), rfl⟩
  | false =>
    have HL := Lib.hid hL
    cases hD : digitC c with
    | true =>
      have HD := Lib.hid hD
      go_enter Try.func80, Try.ntmps80
      go_wp2_with fail
      refine (specLetter_calls c _).mono ?_
      rintro e w1 ⟨rfl, rfl⟩
      go_wp2_with fail
      refine (specFigure_calls c _).mono ?_
      rintro e w1 ⟨rfl, rfl⟩
      go_wp2_with fail
      go_ret
      exact ⟨ret_bool (by rw [labelC, HL.out, HD.out]; rfl), rfl⟩
    | false =>
      have HD := Lib.hid hD
      go_enter Try.func80, Try.ntmps80
      go_wp2_with fail
      refine (specLetter_calls c _).mono ?_
      rintro e w1 ⟨rfl, rfl⟩
      go_wp2_with fail
      refine (specFigure_calls c _).mono ?_
      rintro e w1 ⟨rfl, rfl⟩
      go_wp2_with fail
      go_ret
      exact ⟨ret_bool (label_not HL.out HD.out), rfl⟩

def resS (r : Option (List UInt8)) : ByteArray := match r with | some o => ⟨o.toArray⟩ | none => ⟨#[]⟩
def formatR (l : List Pr) (f : List UInt8) : Option (List UInt8) := if basedL f = true then fmt (valOf l) f else none

theorem markOf_no1 {l : List UInt8} (h : startsL l [37, 123] = false) : markOf l = none := by rw [markOf, h]; simp
theorem markOf_no2 {l : List UInt8} (h : ((l.drop 2).takeWhile labelC).length = 0) : markOf l = none := by rw [markOf, h]; simp
theorem markOf_no3 {l : List UInt8} (h : ((l.drop (2 + ((l.drop 2).takeWhile labelC).length)).head? == some 125) = false) : markOf l = none := by rw [markOf, h]; simp
theorem markOf_yes {l : List UInt8} (h1 : startsL l [37, 123] = true) (h2 : 0 < ((l.drop 2).takeWhile labelC).length) (h3 : ((l.drop (2 + ((l.drop 2).takeWhile labelC).length)).head? == some 125) = true) : markOf l = some ((l.drop 2).takeWhile labelC) := by
  rw [markOf, h1, h3]; simp [h2]
theorem step_plain {V : List UInt8 → Option (List UInt8)} {s A : ByteArray} {k : Nat} (hk : k < s.size) (hm : markOf (s.data.toList.drop k) = none) {T : Option (List UInt8)}
    (h : T = (fmt V (s.data.toList.drop k)).map (A.data.toList ++ ·)) : T = (fmt V (s.data.toList.drop (k + 1))).map ((A ++ s.extract k (k + 1)).data.toList ++ ·) := by
  rw [h, drop_byte s k hk, fmt_plain (by rw [← drop_byte s k hk]; exact hm)]
  have h1 := drop_take_succ s k k (Nat.le_refl _) hk
  simp only [Nat.sub_self, List.take_zero, List.nil_append] at h1
  rw [bytes_append, Lib.extract_data, h1]
  cases fmt V (s.data.toList.drop (k + 1)) <;> simp
theorem step_val {V : List UInt8 → Option (List UInt8)} {s A X : ByteArray} {k : Nat} {lab v : List UInt8} (hm : markOf (s.data.toList.drop k) = some lab) (hv : V lab = some v) (hX : X.data.toList = v) {T : Option (List UInt8)}
    (h : T = (fmt V (s.data.toList.drop k)).map (A.data.toList ++ ·)) : T = (fmt V (s.data.toList.drop (k + 2 + lab.length + 1))).map ((A ++ X).data.toList ++ ·) := by
  rw [h, fmt_val hm hv, List.drop_drop, bytes_append, hX, show k + (lab.length + 3) = k + 2 + lab.length + 1 by omega]
  cases fmt V (s.data.toList.drop (k + 2 + lab.length + 1)) <;> simp
theorem mark_facts (l : List UInt8) (k : Nat) (hst : startsL (l.drop k) [37, 123] = true) :
    (((l.drop (k + 2)).takeWhile labelC).length = 0 → markOf (l.drop k) = none) ∧
    (((l.drop (k + 2 + ((l.drop (k + 2)).takeWhile labelC).length)).head? == some 125) = false → markOf (l.drop k) = none) ∧
    (0 < ((l.drop (k + 2)).takeWhile labelC).length → ((l.drop (k + 2 + ((l.drop (k + 2)).takeWhile labelC).length)).head? == some 125) = true → markOf (l.drop k) = some ((l.drop (k + 2)).takeWhile labelC)) := by
  have e1 : (l.drop k).drop 2 = l.drop (k + 2) := List.drop_drop
  have e2 : ∀ m, (l.drop k).drop (2 + m) = l.drop (k + 2 + m) := fun m => by rw [List.drop_drop]; congr 1; omega
  have h2 := markOf_no2 (l := l.drop k)
  have h3 := markOf_no3 (l := l.drop k)
  have h4 := markOf_yes (l := l.drop k) hst
  simp only [e1, e2] at h2 h3 h4
  exact ⟨h2, h3, h4⟩
theorem takeWhile_le (s : ByteArray) (j : Nat) (hj : j ≤ s.size) : j + ((s.data.toList.drop j).takeWhile labelC).length ≤ s.size := by
  have := (List.takeWhile_prefix labelC (l := s.data.toList.drop j)).length_le
  simp at this
  omega
theorem label_bytes (s : ByteArray) (j : Nat) : (s.extract j (j + ((s.data.toList.drop j).takeWhile labelC).length)) = ⟨((s.data.toList.drop j).takeWhile labelC).toArray⟩ := by
  apply WideShapes.bytes_inj
  rw [Lib.extract_data, Nat.add_sub_cancel_left]
  exact List.prefix_iff_eq_take.1 (List.takeWhile_prefix labelC) |>.symm

set_option maxHeartbeats 16000000 in
set_option maxRecDepth 100000 in
theorem specFormat_calls (s : ByteArray) (l : List Pr) (c : Value) (w : World) (hs : s.size ≤ 200) (hok : pairsOkB l = true)
    (hv : Hid (∀ (n : ByteArray) (w' : World), Below w.heap.size w w' → Calls Try.prog 37 #[.string n, c] w' fun e w'' => e = .returned (.tuple #[.string (nameV (findN l n)), .bool (findN l n).isSome]) ∧ Below w'.heap.size w' w'')) :
    Calls Try.prog 36 #[.string s, .func (.func 37) #[] #[c]] w fun e w' => e = .returned (.tuple #[.string (resS (formatR l s.data.toList)), .bool (formatR l s.data.toList).isSome]) ∧ Below w.heap.size w w' := by
  have hcf := enters37
  unfold Enters at hcf
  have HOk := Lib.hid (okP_of_ok hok)
  clear hok
  cases hbd : basedL s.data.toList with
  | false =>
    have HR := Lib.hid (show formatR l s.data.toList = none by rw [formatR, hbd]; simp)
    have Hbd := Lib.hid hbd
    clear hbd
    go_enter Try.func36, Try.ntmps36
    go_wp2_with fail
    refine (based_calls s _ (by omega)).mono ?_
    rw [Hbd.out]
    rintro e w1 ⟨rfl, hb⟩
    go_wp2_with fail
    go_ret2
    exact ⟨by rw [HR.out]; rfl, hb⟩
  | true =>
    have HR := Lib.hid (show formatR l s.data.toList = fmt (valOf l) s.data.toList by rw [formatR, hbd]; simp)
    have Hbd := Lib.hid hbd
    clear hbd
    go_enter Try.func36, Try.ntmps36
    go_wp2_with fail
    refine (based_calls s _ (by omega)).mono ?_
    rw [Hbd.out]
    rintro e w1 ⟨rfl, hb⟩
    have hB1 := Lib.hid hb
    clear hb
    go_wp2_with fail
    go_loopg [6, 7] s.size (fun gk v i wr => ∃ (k : Nat) (A : ByteArray), gk = s.size - k ∧ k ≤ s.size ∧ i = .int .i64 k ∧ v = .string A ∧ A.size ≤ 600 * k ∧ Hid (fmt (valOf l) s.data.toList = (fmt (valOf l) (s.data.toList.drop k)).map (A.data.toList ++ ·)) ∧ Hid (Below w.heap.size w wr))
    case atStart => exact ⟨0, ⟨#[]⟩, rfl, Nat.zero_le _, rfl, rfl, by decide, by simp [Hid], hB1⟩
    case round =>
      obtain ⟨k, A, hgk, hk, rfl, rfl, hAs, hT, hB⟩ := hrel
      have HG := Lib.hid hgk
      clear hgk
      by_cases hlt : k < s.size
      · have hadd : A.size + (s.extract k (k + 1)).size ≤ 9223372036854775807 := by simp [ByteArray.size_extract]; omega
        have hsz1 : (A ++ s.extract k (k + 1)).size ≤ 600 * (k + 1) := by rw [ByteArray.size_append]; simp [ByteArray.size_extract]; omega
        have HX := Lib.hid (extract_from s k)
        cases hst : startsB (s.extract k s.size) ⟨#[37, 123]⟩ with
        | false =>
          have HM := Lib.hid (markOf_no1 (show startsL (s.data.toList.drop k) [37, 123] = false by rw [← HX.out]; exact hst))
          go_wp2_with fail
          refine (specStarts_calls _ _ _).mono ?_
          rintro e w2 ⟨rfl, rfl⟩
          go_wp2_with fail
          go_roundg (s.size - (k + 1))
          case measure => rw [HG.out]; omega
          case rel => exact ⟨k + 1, _, rfl, by omega, by simp, rfl, hsz1, step_plain hlt HM.out hT.out, hB⟩
        | true =>
          have HST := Lib.hid (show startsL (s.data.toList.drop k) [37, 123] = true by rw [← HX.out]; exact hst)
          have hk2 : k + 2 ≤ s.size := by have := startsB_len hst; simp [ByteArray.size_extract] at this; rw [show (ByteArray.mk #[37, 123]).size = 2 from rfl] at this; omega
          have hul := Lib.hid (fun w => until_calls 80 (fun c => !(labelC c)) enters80 (fun c w => of_same (format1_calls c w)) s (k + 2) hk2 w (by omega))
          simp only [Bool.not_not] at hul
          have hle := takeWhile_le s (k + 2) hk2
          have HLB := Lib.hid (label_bytes s (k + 2))
          have HMF := Lib.hid (mark_facts s.data.toList k HST.out)
          generalize (s.data.toList.drop (k + 2)).takeWhile labelC = lab at hul hle HLB HMF
          obtain ⟨n, hn⟩ : ∃ n, k + 2 + lab.length = n := ⟨_, rfl⟩
          rw [hn] at hul HLB HMF hle
          by_cases hn0 : lab.length = 0
          · have HM := Lib.hid (HMF.out.1 hn0)
            have gE : decide ((k:Int) + 2 < (n:Int)) = false := by simp; omega
            have gE2 : decide (k + 2 < n) = false := by simp; omega
            have Hn := Lib.hid hn
            clear hn hn0
            go_wp2_with fail
            refine (specStarts_calls _ _ _).mono ?_
            rintro e w2 ⟨rfl, rfl⟩
            go_wp2_with fail
            refine (hul.out _).mono ?_
            rintro e w2 ⟨rfl, hb2⟩
            have hB2 := Lib.hid (below_then hB.out hB.out.size hb2)
            clear hb2
            go_wp2_with fail
            go_roundg (s.size - (k + 1))
            case measure => rw [HG.out]; omega
            case rel => exact ⟨k + 1, _, rfl, by omega, by simp, rfl, hsz1, step_plain hlt HM.out hT.out, hB2.out⟩
          · have gE : decide ((k:Int) + 2 < (n:Int)) = true := by simp; omega
            have gE2 : decide (k + 2 < n) = true := by simp; omega
            by_cases hns : n < s.size
            · have gN : decide ((n:Int) < (s.size:Int)) = true := by simp; omega
              have gN2 : decide (n < s.size) = true := by simp; omega
              have HH := Lib.hid (show (s.data.toList.drop n).head? = some s[n] by rw [drop_byte s n hns]; rfl)
              have HV := Lib.hid (u8_beq s[n] 125)
              cases h125 : ((s[n].toNat : Int) == 125) with
              | false =>
                have HM := Lib.hid (HMF.out.2.1 (by rw [HH.out]; have := HV.out; rw [show ((125:UInt8).toNat : Int) = 125 from rfl, h125] at this; simpa using this.symm))
                have Hn := Lib.hid hn
                clear hn hn0
                go_wp2_with fail
                refine (specStarts_calls _ _ _).mono ?_
                rintro e w2 ⟨rfl, rfl⟩
                go_wp2_with fail
                refine (hul.out _).mono ?_
                rintro e w2 ⟨rfl, hb2⟩
                have hB2 := Lib.hid (below_then hB.out hB.out.size hb2)
                clear hb2
                go_wp2_with fail
                go_roundg (s.size - (k + 1))
                case measure => rw [HG.out]; omega
                case rel => exact ⟨k + 1, _, rfl, by omega, by simp, rfl, hsz1, step_plain hlt HM.out hT.out, hB2.out⟩
              | true =>
                have HM := Lib.hid (HMF.out.2.2 (by omega) (by rw [HH.out]; have := HV.out; rw [show ((125:UInt8).toNat : Int) = 125 from rfl, h125] at this; simpa using this.symm))
                have Hn := Lib.hid hn
                have hnk : k + 2 ≤ n := by omega
                clear hn hn0
                go_wp2_with fail
                refine (specStarts_calls _ _ _).mono ?_
                rintro e w2 ⟨rfl, rfl⟩
                go_wp2_with fail
                refine (hul.out _).mono ?_
                rintro e w2 ⟨rfl, hb2⟩
                have hB2 := Lib.hid (below_then hB.out hB.out.size hb2)
                clear hb2
                go_wp2_with fail
                refine (hv.out _ _ hB2.out).mono ?_
                rw [HLB.out]
                cases hfn : findN l ⟨lab.toArray⟩ with
                | none =>
                  have HZ := Lib.hid (show formatR l s.data.toList = none by rw [HR.out, hT.out, fmt_none HM.out (by rw [valOf, hfn])]; rfl)
                  rintro e w3 ⟨rfl, hb3⟩
                  have hB3 := Lib.hid (below_then hB2.out hB2.out.size hb3)
                  clear hb3
                  go_wp2_with fail
                  go_ret2
                  exact ⟨by rw [HZ.out]; rfl, hB3.out⟩
                | some q =>
                  have hq : okP q = true := HOk.out q (List.mem_of_find?_eq_some hfn)
                  have hqs : q.2.size ≤ 200 := by simp [okP, smallB] at hq; omega
                  have HFn := Lib.hid hfn
                  clear hq hfn
                  rintro e w3 ⟨rfl, hb3⟩
                  have hB3 := Lib.hid (below_then hB2.out hB2.out.size hb3)
                  clear hb3
                  cases hup : upwardsL q.2.data.toList with
                  | true =>
                    have HUp := Lib.hid hup
                    have HZ := Lib.hid (show formatR l s.data.toList = none by rw [HR.out, hT.out, fmt_none HM.out (by rw [valOf, HFn.out]; simp [hup])]; rfl)
                    clear hup
                    go_wp2_with fail
                    refine (upwards_calls q.2 _ (by omega)).mono ?_
                    rw [HUp.out]
                    rintro e w4 ⟨rfl, hb4⟩
                    have hB4 := Lib.hid (below_then hB3.out hB3.out.size hb4)
                    clear hb4
                    go_wp2_with fail
                    go_ret2
                    exact ⟨by rw [HZ.out]; rfl, hB4.out⟩
                  | false =>
                    have HUp := Lib.hid hup
                    have HVal := Lib.hid (show valOf l lab = some (pctL q.2.data.toList) by rw [valOf, HFn.out]; simp [hup])
                    clear hup
                    have hpl := pctL_len q.2.data.toList
                    have hXs : (ByteArray.mk (pctL q.2.data.toList).toArray).size ≤ 600 := by
                      have e : (ByteArray.mk (pctL q.2.data.toList).toArray).size = (pctL q.2.data.toList).length := by show (pctL q.2.data.toList).toArray.size = _; simp
                      simp at hpl
                      rw [e]; omega
                    clear hpl
                    have HPc := Lib.hid (fun w => percent_calls q.2 w (by omega))
                    have HXd := Lib.hid (show (ByteArray.mk (pctL q.2.data.toList).toArray).data.toList = pctL q.2.data.toList from rfl)
                    generalize (ByteArray.mk (pctL q.2.data.toList).toArray) = X at hXs HPc HXd
                    have haddX : A.size + X.size ≤ 9223372036854775807 := by omega
                    go_wp2_with fail
                    refine (upwards_calls q.2 _ (by omega)).mono ?_
                    rw [HUp.out]
                    rintro e w4 ⟨rfl, hb4⟩
                    have hB4 := Lib.hid (below_then hB3.out hB3.out.size hb4)
                    clear hb4
                    go_wp2_with fail
                    refine (HPc.out _).mono ?_
                    rintro e w5 ⟨rfl, hb5⟩
                    have hB5 := Lib.hid (below_then hB4.out hB4.out.size hb5)
                    clear hb5
                    go_wp2_with fail
                    go_roundg (s.size - (n + 1))
                    case measure => rw [HG.out]; omega
                    case rel =>
                      refine ⟨n + 1, A ++ X, rfl, by omega, by simp, rfl, by rw [ByteArray.size_append]; omega, ?_, hB5⟩
                      have := step_val HM.out HVal.out HXd.out hT.out
                      rw [Hn.out] at this
                      exact this
            · have gN : decide ((n:Int) < (s.size:Int)) = false := by simp; omega
              have gN2 : decide (n < s.size) = false := by simp; omega
              have HM := Lib.hid (HMF.out.2.1 (by rw [List.drop_of_length_le (by simp; omega)]; rfl))
              have Hn := Lib.hid hn
              clear hn hn0
              go_wp2_with fail
              refine (specStarts_calls _ _ _).mono ?_
              rintro e w2 ⟨rfl, rfl⟩
              go_wp2_with fail
              refine (hul.out _).mono ?_
              rintro e w2 ⟨rfl, hb2⟩
              have hB2 := Lib.hid (below_then hB.out hB.out.size hb2)
              clear hb2
              go_wp2_with fail
              go_roundg (s.size - (k + 1))
              case measure => rw [HG.out]; omega
              case rel => exact ⟨k + 1, _, rfl, by omega, by simp, rfl, hsz1, step_plain hlt HM.out hT.out, hB2.out⟩
      · have hks : k = s.size := by omega
        have HZ := Lib.hid (show formatR l s.data.toList = some A.data.toList by
          rw [HR.out, hT.out, hks, List.drop_of_length_le (by simp), fmt_nil]; simp)
        clear hks HG
        go_wp2_with fail
        go_ret2
        exact ⟨by rw [HZ.out]; rfl, hB.out⟩
end Go.Proofs.Ytmgkolcpomaceaa
