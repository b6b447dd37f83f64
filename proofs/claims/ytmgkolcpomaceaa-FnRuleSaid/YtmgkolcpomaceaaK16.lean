/- spec.Declared. -/
import Derived.Test.YtmgkolcpomaceaaK15
import Derived.Test.YtmgkolcpomaceaaK10
namespace Go.Proofs.Ytmgkolcpomaceaa
open Go.RowKit
set_option linter.unusedVariables false
set_option linter.unusedSimpArgs false

def declS (n s : ByteArray) : ByteArray :=
  if (n.toList == [68, 105, 115, 112, 108, 97, 121]) = true then shownS s else if (n.toList == [70, 111, 110, 116, 70, 97, 109, 105, 108, 121]) = true then mkB (joinD true (linesB s)) else if (n.toList == [66, 97, 99, 107, 103, 114, 111, 117, 110, 100, 73, 109, 97, 103, 101, 85, 82, 76, 115]) = true then mkB (joinD false (linesB s)) else valueS s
def declB (n s : ByteArray) : Bool :=
  if (n.toList == [68, 105, 115, 112, 108, 97, 121]) = true then true else if (n.toList == [70, 111, 110, 116, 70, 97, 109, 105, 108, 121]) = true then true else if (n.toList == [66, 97, 99, 107, 103, 114, 111, 117, 110, 100, 73, 109, 97, 103, 101, 85, 82, 76, 115]) = true then (linesB s).all (fun x => (specSafe x).2) else saidL s.data.toList
theorem quoS_size (s : ByteArray) : (quoS s).size ≤ 7 * s.size + 2 := by
  have h1 := quoL_len s.data.toList
  have e1 : (quoS s).size = (quoL s.data.toList).length + 2 := by
    show (34 :: (quoL s.data.toList ++ [34])).toArray.size = _
    simp
  have e2 : s.data.toList.length = s.size := by simp
  omega
theorem famS_size (s : ByteArray) : (famS s).size ≤ 7 * s.size + 2 := by
  unfold famS
  split
  · omega
  · have h1 := quoS_size (innerS s)
    have h2 := innerS_size s
    omega
theorem sanS_size (s : ByteArray) : (sanS s).size ≤ s.size + 30 := by
  unfold sanS
  split
  · omega
  · have : innoc.size ≤ 30 := by decide
    omega
theorem lsAll_false {α : Type} {p : α → Bool} (l : List α) (k : Nat) (h : k < l.length) : (l.take (k + 1)).all p = ((l.take k).all p && p l[k]) := by
  rw [List.take_succ_eq_append_getElem h, List.all_append]; simp

set_option maxHeartbeats 16000000 in
set_option maxRecDepth 100000 in
theorem declared_calls (n s : ByteArray) (w : World) (hs : s.size ≤ 200) :
    Calls Try.prog 86 #[.string n, .string s] w fun e w' => e = .returned (.tuple #[.string (declS n s), .bool (declB n s)]) ∧ Below w.heap.size w w' := by
  have HS := Lib.hid (show declS n s = _ from by rw [declS])
  have HB := Lib.hid (show declB n s = _ from by rw [declB])
  cases h0 : (n.toList == [68, 105, 115, 112, 108, 97, 121]) with
  | true =>
    have G0 := Lib.hid h0
    go_enter Try.func86, Try.ntmps86
    go_wp2_with fail
    refine (shown_calls s _ (by omega)).mono ?_
    rintro e w1 ⟨rfl, hb⟩
    go_wp2_with fail
    go_ret2
    exact ⟨by rw [HS.out, HB.out, G0.out]; rfl, hb⟩
  | false =>
    have G0 := Lib.hid h0
    cases h1 : (n.toList == [70, 111, 110, 116, 70, 97, 109, 105, 108, 121]) with
    | true =>
      have G1 := Lib.hid h1
      have HS2 := Lib.hid (show declS n s = mkB (joinD true (linesB s)) by rw [HS.out, G0.out, G1.out]; rfl)
      have HB2 := Lib.hid (show declB n s = true by rw [HB.out, G0.out, G1.out]; rfl)
      have HLn := Lib.hid (linesL_len s.data.toList)
      have HMem := Lib.hid (fun x hx => (linesB_mem (s := s) (x := x) hx).1)
      have hll : (linesB s).length ≤ 201 := by
        have h3 : (linesB s).length = (linesL s.data.toList).length := by simp [linesB]
        have h4 : s.data.toList.length = s.size := by simp
        have := HLn.out.1
        omega
      go_enter Try.func86, Try.ntmps86
      go_wp2_with fail
      refine (specLines_calls s _ (by omega)).mono ?_
      rintro e w1 ⟨A, cap, rfl, hA, hb⟩
      have HA := Lib.hid hA
      have HB1 := Lib.hid hb
      clear hA hb
      generalize linesB s = ls at HS2 HMem hll HA
      go_wp2_with fail
      go_loopg [6, 7, 23] ls.length (fun gk v v7 i wr => ∃ (k : Nat) (T : ByteArray), v7 = .bool true ∧ gk = ls.length - k ∧ k ≤ ls.length ∧ i = .int .i64 k ∧ v = .string T ∧ T.size ≤ 2000 * k ∧ Hid (T.data.toList = joinD true (ls.take k)) ∧ Hid (Below w1.heap.size w1 wr) ∧ Hid (Below w.heap.size w wr))
      case atStart => exact ⟨0, ⟨#[]⟩, rfl, rfl, Nat.zero_le _, rfl, rfl, by decide, by simp [Hid, joinD], Below.refl _ _, HB1⟩
      case round =>
        obtain ⟨k, T, rfl, hgk, hk, rfl, rfl, hTs, hT, hBa, hB⟩ := hrel
        have HG := Lib.hid hgk
        clear hgk
        by_cases hlt : k < ls.length
        · obtain ⟨ad, rfl, hblk, hc⟩ := (HA.out.below hBa.out) k hlt
          have hxs : ls[k].size ≤ 200 := by have := HMem.out ls[k] (List.getElem_mem _); omega
          have hfs := famS_size ls[k]
          have HTk := Lib.hid (show ls.take (k + 1) = ls.take k ++ [ls[k]] from List.take_succ_eq_append_getElem hlt)
          by_cases hk0 : 0 < k
          · have g0 : decide ((0:Int) < (k : Int)) = true := by simp; omega
            have HJ := Lib.hid (show joinD true (ls.take (k + 1)) = joinD true (ls.take k) ++ [44, 32] ++ (famS ls[k]).data.toList by
              have hlk : (ls.take k).length = k := by simp; omega
              have hne : ls.take k ≠ [] := by intro h; rw [h] at hlk; simp at hlk; omega
              rw [HTk.out, joinD_snoc, if_neg hne]; rfl)
            have hs2 : (ByteArray.mk #[44, 32]).size = 2 := rfl
            have hadd1 : T.size + (ByteArray.mk #[44, 32]).size ≤ 9223372036854775807 := by rw [hs2]; omega
            have hadd2 : (T ++ ByteArray.mk #[44, 32]).size + (famS ls[k]).size ≤ 9223372036854775807 := by rw [ByteArray.size_append, hs2]; omega
            have hsz : (T ++ ByteArray.mk #[44, 32] ++ famS ls[k]).size ≤ 2000 * (k + 1) := by rw [ByteArray.size_append, ByteArray.size_append, hs2]; omega
            clear hs2
            go_wp2_with fail
            refine (family_calls ls[k] _ (by omega)).mono ?_
            rintro e w2 ⟨rfl, hb⟩
            have hBa2 := Lib.hid (below_then hBa.out hBa.out.size hb)
            have hB2 := Lib.hid (below_then hB.out hB.out.size hb)
            clear hb
            go_wp2_with fail
            go_roundg (ls.length - (k + 1))
            case measure => rw [HG.out]; omega
            case rel => exact ⟨k + 1, _, rfl, rfl, by omega, by simp, rfl, hsz, by rw [Hid, HJ.out, ← hT.out, bytes_append, bytes_append], hBa2, hB2⟩
          · have g0 : decide ((0:Int) < (k : Int)) = false := by simp; omega
            have HJ := Lib.hid (show joinD true (ls.take (k + 1)) = (famS ls[k]).data.toList by
              have hz : ls.take k = [] := by rw [show k = 0 by omega]; rfl
              rw [HTk.out, joinD_snoc, hz, if_pos rfl]; rfl)
            have HT0 := Lib.hid (show T.data.toList = [] by rw [hT.out, show k = 0 by omega]; rfl)
            have hadd2 : T.size + (famS ls[k]).size ≤ 9223372036854775807 := by omega
            have hsz : (T ++ famS ls[k]).size ≤ 2000 * (k + 1) := by rw [ByteArray.size_append]; omega
            go_wp2_with fail
            refine (family_calls ls[k] _ (by omega)).mono ?_
            rintro e w2 ⟨rfl, hb⟩
            have hBa2 := Lib.hid (below_then hBa.out hBa.out.size hb)
            have hB2 := Lib.hid (below_then hB.out hB.out.size hb)
            clear hb
            go_wp2_with fail
            go_roundg (ls.length - (k + 1))
            case measure => rw [HG.out]; omega
            case rel => exact ⟨k + 1, _, rfl, rfl, by omega, by simp, rfl, hsz, by rw [Hid, HJ.out, bytes_append, HT0.out]; rfl, hBa2, hB2⟩
        · have hkk : k = ls.length := by omega
          have HF := Lib.hid (show T = mkB (joinD true ls) by
            apply WideShapes.bytes_inj
            rw [hT.out, hkk, List.take_of_length_le (Nat.le_refl _)]; rfl)
          clear hkk HG
          go_wp2_with fail
          go_ret2
          exact ⟨by rw [HS2.out, HB2.out, ← HF.out]; rfl, hB.out⟩
    | false =>
      have G1 := Lib.hid h1
      cases h2 : (n.toList == [66, 97, 99, 107, 103, 114, 111, 117, 110, 100, 73, 109, 97, 103, 101, 85, 82, 76, 115]) with
      | true =>
        have G2 := Lib.hid h2
        have HS2 := Lib.hid (show declS n s = mkB (joinD false (linesB s)) by rw [HS.out, G0.out, G1.out, G2.out]; rfl)
        have HB2 := Lib.hid (show declB n s = (linesB s).all (fun x => (specSafe x).2) by rw [HB.out, G0.out, G1.out, G2.out]; rfl)
        have HLn := Lib.hid (linesL_len s.data.toList)
        have HMem := Lib.hid (fun x hx => (linesB_mem (s := s) (x := x) hx).1)
        have hll : (linesB s).length ≤ 201 := by
          have h3 : (linesB s).length = (linesL s.data.toList).length := by simp [linesB]
          have h4 : s.data.toList.length = s.size := by simp
          have := HLn.out.1
          omega
        go_enter Try.func86, Try.ntmps86
        go_wp2_with fail
        refine (specLines_calls s _ (by omega)).mono ?_
        rintro e w1 ⟨A, cap, rfl, hA, hb⟩
        have HA := Lib.hid hA
        have HB1 := Lib.hid hb
        clear hA hb
        generalize linesB s = ls at HS2 HB2 HMem hll HA
        go_wp2_with fail
        go_loopg [6, 7, 23] ls.length (fun gk v v7 i wr => ∃ (k : Nat) (T : ByteArray), v7 = .bool ((ls.take k).all fun x => (specSafe x).2) ∧ gk = ls.length - k ∧ k ≤ ls.length ∧ i = .int .i64 k ∧ v = .string T ∧ T.size ≤ 2000 * k ∧ Hid (T.data.toList = joinD false (ls.take k)) ∧ Hid (Below w1.heap.size w1 wr) ∧ Hid (Below w.heap.size w wr))
        case atStart => exact ⟨0, ⟨#[]⟩, rfl, rfl, Nat.zero_le _, rfl, rfl, by decide, by simp [Hid, joinD], Below.refl _ _, HB1⟩
        case round =>
          obtain ⟨k, T, rfl, hgk, hk, rfl, rfl, hTs, hT, hBa, hB⟩ := hrel
          have HG := Lib.hid hgk
          clear hgk
          by_cases hlt : k < ls.length
          · obtain ⟨ad, rfl, hblk, hc⟩ := (HA.out.below hBa.out) k hlt
            have hxs : ls[k].size ≤ 200 := by have := HMem.out ls[k] (List.getElem_mem _); omega
            have hfs := famS_size ls[k]
            have HTk := Lib.hid (show ls.take (k + 1) = ls.take k ++ [ls[k]] from List.take_succ_eq_append_getElem hlt)
            have hqs := quoS_size (sanS ls[k])
            have hss := sanS_size ls[k]
            have HAll := Lib.hid (lsAll_false (p := fun x => (specSafe x).2) ls k hlt)
            have HSan := Lib.hid (fun w => sanitized_calls ls[k] w (by omega))
            have HSd := Lib.hid (show (if (specSafe ls[k]).1 = true then ls[k] else innoc) = sanS ls[k] from rfl)
            have HQu := Lib.hid (fun w => quoted_calls (sanS ls[k]) w (by omega))
            obtain ⟨U, hU⟩ : ∃ U, sanS ls[k] = U := ⟨_, rfl⟩
            obtain ⟨X, hX⟩ : ∃ X, quoS U = X := ⟨_, rfl⟩
            rw [hU] at HSd HQu hqs hss
            rw [hX] at HQu hqs
            have HLT := Lib.hid (show lineT false ls[k] = [117, 114, 108, 40] ++ X.data.toList ++ [41] by rw [← hX, ← hU]; rfl)
            clear hU hX
            obtain ⟨kn, hkn⟩ : ∃ kn, (specSafe ls[k]).2 = kn := ⟨_, rfl⟩
            have Hkn := Lib.hid hkn
            clear hkn
            obtain ⟨sy, hsy⟩ : ∃ sy, ((ls.take k).all fun x => (specSafe x).2) = sy := ⟨_, rfl⟩
            have Hsy := Lib.hid (show ((ls.take (k + 1)).all fun x => (specSafe x).2) = (sy && kn) by rw [HAll.out, hsy, Hkn.out])
            rw [hsy]
            clear hsy
            have hu4 : (ByteArray.mk #[117, 114, 108, 40]).size = 4 := rfl
            have hu1 : (ByteArray.mk #[41]).size = 1 := rfl
            have hs2 : (ByteArray.mk #[44, 32]).size = 2 := rfl
            by_cases hk0 : 0 < k
            · have g0 : decide ((0:Int) < (k : Int)) = true := by simp; omega
              have HJ := Lib.hid (show joinD false (ls.take (k + 1)) = joinD false (ls.take k) ++ [44, 32] ++ lineT false ls[k] by
                have hlk : (ls.take k).length = k := by simp; omega
                have hne : ls.take k ≠ [] := by intro h; rw [h] at hlk; simp at hlk; omega
                rw [HTk.out, joinD_snoc, if_neg hne])
              have haddc : T.size + (ByteArray.mk #[44, 32]).size ≤ 9223372036854775807 := by rw [hs2]; omega
              have hadd1 : (T ++ ByteArray.mk #[44, 32]).size + (ByteArray.mk #[117, 114, 108, 40]).size ≤ 9223372036854775807 := by rw [ByteArray.size_append, hs2, hu4]; omega
              have hadd2 : (T ++ ByteArray.mk #[44, 32] ++ ByteArray.mk #[117, 114, 108, 40]).size + X.size ≤ 9223372036854775807 := by rw [ByteArray.size_append, ByteArray.size_append, hs2, hu4]; omega
              have hadd3 : (T ++ ByteArray.mk #[44, 32] ++ ByteArray.mk #[117, 114, 108, 40] ++ X).size + (ByteArray.mk #[41]).size ≤ 9223372036854775807 := by rw [ByteArray.size_append, ByteArray.size_append, ByteArray.size_append, hs2, hu4, hu1]; omega
              have hsz : (T ++ ByteArray.mk #[44, 32] ++ ByteArray.mk #[117, 114, 108, 40] ++ X ++ ByteArray.mk #[41]).size ≤ 2000 * (k + 1) := by rw [ByteArray.size_append, ByteArray.size_append, ByteArray.size_append, ByteArray.size_append, hs2, hu4, hu1]; omega
              clear hu4 hu1 hs2
              cases sy
              all_goals
                go_wp2_with fail
                refine (HSan.out _).mono ?_
                rintro e w2 ⟨rfl, hb⟩
                rw [HSd.out, Hkn.out]
                have hBa2 := Lib.hid (below_then hBa.out hBa.out.size hb)
                have hB2 := Lib.hid (below_then hB.out hB.out.size hb)
                clear hb
                go_wp2_with fail
                refine (HQu.out _).mono ?_
                rintro e w3 ⟨rfl, hb⟩
                have hBa3 := Lib.hid (below_then hBa2.out hBa2.out.size hb)
                have hB3 := Lib.hid (below_then hB2.out hB2.out.size hb)
                clear hb
                go_wp2_with fail
                go_roundg (ls.length - (k + 1))
                case measure => rw [HG.out]; omega
                case rel => exact ⟨k + 1, _, by rw [Hsy.out]; rfl, rfl, by omega, by simp, rfl, hsz, by rw [Hid, HJ.out, HLT.out, ← hT.out]; simp [bytes_append], hBa3, hB3⟩
            · have g0 : decide ((0:Int) < (k : Int)) = false := by simp; omega
              have HJ := Lib.hid (show joinD false (ls.take (k + 1)) = joinD false (ls.take k) ++ lineT false ls[k] by
                have hz : ls.take k = [] := by rw [show k = 0 by omega]; rfl
                rw [HTk.out, joinD_snoc, hz, if_pos rfl]; rfl)
              have hadd1 : (T).size + (ByteArray.mk #[117, 114, 108, 40]).size ≤ 9223372036854775807 := by rw [hu4]; omega
              have hadd2 : (T ++ ByteArray.mk #[117, 114, 108, 40]).size + X.size ≤ 9223372036854775807 := by rw [ByteArray.size_append, hu4]; omega
              have hadd3 : (T ++ ByteArray.mk #[117, 114, 108, 40] ++ X).size + (ByteArray.mk #[41]).size ≤ 9223372036854775807 := by rw [ByteArray.size_append, ByteArray.size_append, hu4, hu1]; omega
              have hsz : (T ++ ByteArray.mk #[117, 114, 108, 40] ++ X ++ ByteArray.mk #[41]).size ≤ 2000 * (k + 1) := by rw [ByteArray.size_append, ByteArray.size_append, ByteArray.size_append, hu4, hu1]; omega
              clear hu4 hu1 hs2
              cases sy
              all_goals
                go_wp2_with fail
                refine (HSan.out _).mono ?_
                rintro e w2 ⟨rfl, hb⟩
                rw [HSd.out, Hkn.out]
                have hBa2 := Lib.hid (below_then hBa.out hBa.out.size hb)
                have hB2 := Lib.hid (below_then hB.out hB.out.size hb)
                clear hb
                go_wp2_with fail
                refine (HQu.out _).mono ?_
                rintro e w3 ⟨rfl, hb⟩
                have hBa3 := Lib.hid (below_then hBa2.out hBa2.out.size hb)
                have hB3 := Lib.hid (below_then hB2.out hB2.out.size hb)
                clear hb
                go_wp2_with fail
                go_roundg (ls.length - (k + 1))
                case measure => rw [HG.out]; omega
                case rel => exact ⟨k + 1, _, by rw [Hsy.out]; rfl, rfl, by omega, by simp, rfl, hsz, by rw [Hid, HJ.out, HLT.out, ← hT.out]; simp [bytes_append], hBa3, hB3⟩
          · have hkk : k = ls.length := by omega
            have HF := Lib.hid (show T = mkB (joinD false ls) by
              apply WideShapes.bytes_inj
              rw [hT.out, hkk, List.take_of_length_le (Nat.le_refl _)]; rfl)
            have HAl := Lib.hid (show ((ls.take k).all fun x => (specSafe x).2) = ls.all (fun x => (specSafe x).2) by rw [hkk, List.take_of_length_le (Nat.le_refl _)])
            clear hkk HG
            go_wp2_with fail
            go_ret2
            exact ⟨by rw [HS2.out, HB2.out, ← HF.out, ← HAl.out]; rfl, hB.out⟩
      | false =>
        have G2 := Lib.hid h2
        go_enter Try.func86, Try.ntmps86
        go_wp2_with fail
        refine (value_calls s _ (by omega)).mono ?_
        rintro e w1 ⟨rfl, hb⟩
        go_wp2_with fail
        refine (said_calls s _ (by omega)).mono ?_
        rintro e w2 ⟨rfl, rfl⟩
        go_wp2_with fail
        go_ret2
        exact ⟨by rw [HS.out, HB.out, G0.out, G1.out, G2.out]; rfl, hb⟩
end Go.Proofs.Ytmgkolcpomaceaa
