/- spec.Set f4. -/
import Derived.Test.YtlpkdagdfopchaaGreatDoorG34
namespace Go.Proofs.YtlpkdagdfopchaaGreatDoor
open Go.RowKit
set_option linter.unusedVariables false
set_option linter.unusedSimpArgs false

/-- One round's places. -/
structure RoundAt (s : ByteArray) (i k1 k2 k3 k4 k5 : Nat) : Prop where
  a1 : i ≤ k1
  a2 : k1 ≤ k2
  a3 : k2 ≤ k3
  a4 : k3 ≤ k4
  a5 : k4 ≤ k5
  a6 : k5 ≤ s.size
  u : (s.extract k1 k2).data.toList = uOf (s.data.toList.drop i)
  m : (s.extract k3 k4).data.toList = mOf (s.data.toList.drop i)
  r : s.data.toList.drop k5 = rOf (s.data.toList.drop i)
theorem round_at {s : ByteArray} {i k1 k2 k3 k4 k5 : Nat} (h1 : UntilAt s i k1 spaceC) (h2 : UntilAt s k1 k2 notSp) (h3 : UntilAt s k2 k3 spaceC) (h4 : UntilAt s k3 k4 notMe) (h5 : UntilAt s k4 k5 spaceC) : RoundAt s i k1 k2 k3 k4 k5 := by
  refine ⟨h1.lo, h2.lo, h3.lo, h4.lo, h5.lo, h5.hi, ?_, ?_, ?_⟩
  · rw [h2.run, h1.rest, uOf]
  · rw [h4.run, h3.rest, h2.rest, h1.rest, mOf, l2Of]
  · rw [h5.rest, h4.rest, h3.rest, h2.rest, h1.rest, rOf, l2Of]

theorem ne_of {A : ByteArray} (h : (!A.toList.isEmpty) = true) : ¬ A.data.toList = [] := by
  rw [ByteArray.toList_eq] at h
  intro e
  rw [e] at h
  simp at h
theorem em_of {A : ByteArray} (h : (!A.toList.isEmpty) = false) : A.data.toList = [] := by
  rw [ByteArray.toList_eq] at h
  cases e : A.data.toList with
  | nil => rfl
  | cons a l => rw [e] at h; simp at h
theorem ne_of2 {A : ByteArray} (h : A.toList.isEmpty = false) : ¬ A.data.toList = [] := ne_of (by rw [h]; rfl)
theorem em_of2 {A : ByteArray} (h : A.toList.isEmpty = true) : A.data.toList = [] := em_of (by rw [h]; rfl)
def SetPost (s : ByteArray) (w : World) (r : Ending) (w' : World) : Prop := ∃ (A : ByteArray) (b : Bool), r = .returned (.tuple #[.string A, .bool b]) ∧ b = (setL (s.size + 1) s.data.toList []).2 ∧ (b = true → A.data.toList = finL (setL (s.size + 1) s.data.toList []).1) ∧ Below w.heap.size w w'

set_option maxHeartbeats 4000000 in
set_option maxRecDepth 100000 in
theorem specSet_calls (s : ByteArray) (hs : s.size ≤ 2147483647) (w : World) : Calls Tryz.prog 4 #[.string s] w (SetPost s w) := by
  have U8 := Lib.hid (fun a ha w => until2_calls 8 (fun c => !spaceC c) spaceC (fun c => by simp) notSpace8_enters (Lib.hid (fun c w => of_same (notSpace8_calls c w))) s a ha w hs)
  have U9 := Lib.hid (fun a ha w => until2_calls 9 spaceC notSp (fun c => rfl) space_enters (Lib.hid (fun c w => of_same (space_calls c w))) s a ha w hs)
  have U10 := Lib.hid (fun a ha w => until2_calls 10 (fun c => !spaceC c) spaceC (fun c => by simp) notSpace10_enters (Lib.hid (fun c w => of_same (notSpace10_calls c w))) s a ha w hs)
  have U11 := Lib.hid (fun a ha w => until2_calls 11 metaC notMe (fun c => rfl) meta_enters (Lib.hid (fun c w => of_same (meta_calls c w))) s a ha w hs)
  have U12 := Lib.hid (fun a ha w => until2_calls 12 (fun c => !spaceC c) spaceC (fun c => by simp) notSpace12_enters (Lib.hid (fun c w => of_same (notSpace12_calls c w))) s a ha w hs)
  have hlen := Lib.hid (len_data s)
  go_enter Tryz.func4, Tryz.ntmps4
  go_wp2_with fail
  go_loopg [4, 5] (s.size + 1) (fun gg s4 s5 wx => ∃ (i fuel : Nat) (A : ByteArray), gg = fuel ∧ i ≤ s.size ∧ s.size - i < fuel ∧ A.size ≤ 11 * i ∧ s4 = .string A ∧ s5 = .int .i64 (i : Int) ∧ Hid (setL fuel (s.data.toList.drop i) A.data.toList = setL (s.size + 1) s.data.toList []) ∧ Hid (Below w.heap.size w wx))
  case atStart => exact ⟨0, s.size + 1, ⟨#[]⟩, rfl, by omega, by omega, by show 0 ≤ _; omega, rfl, rfl, Lib.hid rfl, Lib.hid (Below.refl _ _)⟩
  case round =>
    obtain ⟨i, fuel, A, rfl, hi, hfu, hA, rfl, rfl, hL, hB⟩ := hrel
    obtain ⟨n, rfl⟩ : ∃ n, gk = n + 1 := ⟨gk - 1, by omega⟩
    go_wp2_with fail
    refine (U8.out i hi _).mono ?_
    rintro e w1 ⟨⟨k1, rfl, u1⟩, b1⟩
    have hB1 := Lib.hid (below_then hB.out hB.out.size b1)
    have l1 := u1.lo
    have m1 := u1.hi
    have u1 := Lib.hid u1
    clear b1
    go_wp2_with fail
    refine (U9.out k1 m1 _).mono ?_
    rintro e w2 ⟨⟨k2, rfl, u2⟩, b2⟩
    have hB2 := Lib.hid (below_then hB1.out hB1.out.size b2)
    have l2 := u2.lo
    have m2 := u2.hi
    have u2 := Lib.hid u2
    clear b2
    go_wp2_with fail
    refine (U10.out k2 m2 _).mono ?_
    rintro e w3 ⟨⟨k3, rfl, u3⟩, b3⟩
    have hB3 := Lib.hid (below_then hB2.out hB2.out.size b3)
    have l3 := u3.lo
    have m3 := u3.hi
    have u3 := Lib.hid u3
    clear b3
    go_wp2_with fail
    refine (U11.out k3 m3 _).mono ?_
    rintro e w4 ⟨⟨k4, rfl, u4⟩, b4⟩
    have hB4 := Lib.hid (below_then hB3.out hB3.out.size b4)
    have l4 := u4.lo
    have m4 := u4.hi
    have u4 := Lib.hid u4
    clear b4
    go_wp2_with fail
    refine (U12.out k4 m4 _).mono ?_
    rintro e w5 ⟨⟨k5, rfl, u5⟩, b5⟩
    have hB5 := Lib.hid (below_then hB4.out hB4.out.size b5)
    have l5 := u5.lo
    have m5 := u5.hi
    have hR := Lib.hid (round_at u1.out u2.out u3.out u4.out u5)
    clear b5 u1 u2 u3 u4 u5 hB1 hB2 hB3 hB4
    have hUs : (s.extract k1 k2).size = k2 - k1 := by rw [ByteArray.size_extract]; omega
    have hMs : (s.extract k3 k4).size = k4 - k3 := by rw [ByteArray.size_extract]; omega
    have hUd := Lib.hid hR.out.u
    have hMd := Lib.hid hR.out.m
    go_wp2_with fail
    generalize s.extract k1 k2 = U at hUs hUd ⊢
    generalize s.extract k3 k4 = M at hMs hMd ⊢
    refine (specSafe_calls U _ (by omega)).mono ?_
    rintro e w6 ⟨rfl, b6⟩
    have hB6 := Lib.hid (below_then hB5.out hB5.out.size b6)
    clear b6 hB5
    go_wp2_with fail
    refine (measR_calls M _ (by omega)).mono ?_
    rintro e w7 ⟨rfl, rfl⟩
    have hS : Hid (specSafe (bl (uOf (s.data.toList.drop i))) = specSafe U) := Lib.hid (by rw [← hUd.out, bl_data])
    have hM : Hid (measR (mOf (s.data.toList.drop i)) = measR M.data.toList) := Lib.hid (by rw [← hMd.out])
    obtain ⟨⟨sa, sb⟩, hsp⟩ : ∃ p, p = specSafe U := ⟨_, rfl⟩
    obtain ⟨⟨ma, mb⟩, hmp⟩ : ∃ p, p = measR M.data.toList := ⟨_, rfl⟩
    rw [← hsp, ← hmp]
    rw [← hsp] at hS
    rw [← hmp] at hM
    clear hsp hmp
    by_cases hsay : sb = true ∧ mb = true
    · obtain ⟨rfl, rfl⟩ := hsay
      have hSay : Hid ((specSafe (bl (uOf (s.data.toList.drop i)))).2 = true ∧ (measR (mOf (s.data.toList.drop i))).2 = true) := Lib.hid ⟨by rw [hS.out], by rw [hM.out]⟩
      have hNext : Hid (nextL (s.data.toList.drop i) A.data.toList = if U.data.toList ≠ [] ∧ sa = true ∧ ma = true then addL A.data.toList U.data.toList M.data.toList else A.data.toList) := Lib.hid (by
        rw [nextL, hS.out, hM.out, ← hUd.out, ← hMd.out])
      obtain ⟨X, hX0⟩ : ∃ X : Bool, X = (decide (U.data.toList ≠ []) && sa && ma) := ⟨_, rfl⟩
      have hNext2 : Hid (nextL (s.data.toList.drop i) A.data.toList = if X = true then addL A.data.toList U.data.toList M.data.toList else A.data.toList) := Lib.hid (by
        rw [hNext.out, hX0]
        by_cases h : U.data.toList = [] <;> cases sa <;> cases ma <;> simp [h])
      have hX := Lib.hid hX0
      clear hNext hX0
      go_upto_region 15 with fail
      go_cut [61] (fun v wx => v = .bool X ∧ Hid (Below w.heap.size w wx))
      case first =>
        by_cases hU0 : U.size = 0
        · have he := toList_em hU0
          have hXf : Hid (X = false) := Lib.hid (by
            have : U.data.toList = [] := List.eq_nil_of_length_eq_zero (by rw [len_data]; exact hU0)
            rw [hX.out, this]; rfl)
          clear hU0
          go_wp2_with fail
          go_meet
          exact ⟨by rw [hXf.out], hB6⟩
        · have he := toList_ne (s := U) (by omega)
          have hXt : Hid (X = (sa && ma)) := Lib.hid (by
            have : U.data.toList ≠ [] := fun e => hU0 (by rw [← len_data, e]; rfl)
            rw [hX.out, decide_eq_true this, Bool.true_and])
          clear hU0
          cases sa <;> cases ma
          all_goals
            go_wp2_with fail
            go_meet
            exact ⟨by rw [hXt.out]; rfl, hB6⟩
      case rest =>
        obtain ⟨rfl, hB7⟩ := hcut
        go_upto_if 61 with fail
        go_cut [4] (fun v wx => ∃ A2 : ByteArray, v = .string A2 ∧ A2.size ≤ 11 * k5 + 11 ∧ (k5 = s.size ∨ A2.size ≤ 11 * (k5 + 1)) ∧ Hid (A2.data.toList = nextL (s.data.toList.drop i) A.data.toList) ∧ Hid (Below w.heap.size w wx))
        case first =>
          cases X with
          | false =>
            go_wp2_with fail
            go_meet
            exact ⟨A, rfl, by omega, by omega, Lib.hid (by rw [hNext2.out]; rfl), hB7⟩
          | true =>
            have hU1 : 0 < U.size := by
              rcases Nat.eq_zero_or_pos U.size with e | e
              · have h0 : U.data.toList = [] := List.eq_nil_of_length_eq_zero (by rw [len_data]; exact e)
                have := hX.out
                rw [h0] at this
                simp at this
              · exact e
            have hadd0 : A.size + (ByteArray.mk #[32, 44, 32]).size ≤ 9223372036854775807 := by show A.size + 3 ≤ _; omega
            have hp3 : Hid ((ByteArray.mk #[32, 44, 32]).size = 3) := Lib.hid rfl
            have hp1 : Hid ((ByteArray.mk #[32]).size = 1) := Lib.hid rfl
            have hsz := Lib.hid (show A.size ≤ 11 * i ∧ U.size = k2 - k1 ∧ M.size = k4 - k3 ∧ 0 < U.size ∧ i ≤ k1 ∧ k1 ≤ k2 ∧ k2 ≤ k3 ∧ k3 ≤ k4 ∧ k4 ≤ k5 ∧ k5 ≤ s.size from ⟨hA, hUs, hMs, hU1, l1, l2, l3, l4, l5, m5⟩)
            have hUb : U.size ≤ 2147483647 := by omega
            have hMb : M.size ≤ 2147483647 := by omega
            have hAb : A.size ≤ 23622320117 := by omega
            clear hUs hMs hA
            have hXN : Hid (nextL (s.data.toList.drop i) A.data.toList = addL A.data.toList U.data.toList M.data.toList) := Lib.hid (by rw [hNext2.out]; rfl)
            go_wp2_with fail
            · have hqA := Lib.hid (show (!A.toList.isEmpty) = true by assumption)
              refine (commas_calls U hU1 (by omega) _).mono ?_
              rintro e w8 ⟨⟨K, rfl, hKd, hKs⟩, rfl⟩
              have hKd := Lib.hid hKd
              have hKb : K.size ≤ 2147483653 := by omega
              have hKs := Lib.hid hKs
              go_wp2_with fail
              · skip
                have hqM := Lib.hid (show (!M.toList.isEmpty) = true by assumption)
                go_meet
                refine ⟨A ++ ByteArray.mk #[32, 44, 32] ++ K ++ (ByteArray.mk #[32] ++ M), rfl, ?_, ?_, ?_, hB7⟩
                · simp only [ByteArray.size_append, hp3.out, hp1.out]; have := hsz.out; have := hKs.out; omega
                · right; simp only [ByteArray.size_append, hp3.out, hp1.out]; have := hsz.out; have := hKs.out; omega
                · rw [Hid, hXN.out, addL]
                  rw [if_neg (ne_of hqA.out), if_neg (ne_of hqM.out)]
                  simp only [bytes_app, hKd.out]
                  (try simp only [List.nil_append, List.append_nil, List.append_assoc]); first | done | rfl
              · skip
                have hqM := Lib.hid (show (!M.toList.isEmpty) = false by assumption)
                go_meet
                refine ⟨A ++ ByteArray.mk #[32, 44, 32] ++ K, rfl, ?_, ?_, ?_, hB7⟩
                · simp only [ByteArray.size_append, hp3.out, hp1.out]; have := hsz.out; have := hKs.out; omega
                · right; simp only [ByteArray.size_append, hp3.out, hp1.out]; have := hsz.out; have := hKs.out; omega
                · rw [Hid, hXN.out, addL]
                  rw [if_neg (ne_of hqA.out), if_pos (em_of hqM.out)]
                  simp only [bytes_app, hKd.out]
                  (try simp only [List.nil_append, List.append_nil, List.append_assoc]); first | done | rfl
            · have hqA := Lib.hid (show (!A.toList.isEmpty) = false by assumption)
              refine (commas_calls U hU1 (by omega) _).mono ?_
              rintro e w8 ⟨⟨K, rfl, hKd, hKs⟩, rfl⟩
              have hKd := Lib.hid hKd
              have hKb : K.size ≤ 2147483653 := by omega
              have hKs := Lib.hid hKs
              go_wp2_with fail
              · skip
                have hqM := Lib.hid (show (!M.toList.isEmpty) = true by assumption)
                go_meet
                refine ⟨A ++ K ++ (ByteArray.mk #[32] ++ M), rfl, ?_, ?_, ?_, hB7⟩
                · simp only [ByteArray.size_append, hp3.out, hp1.out]; have := hsz.out; have := hKs.out; omega
                · right; simp only [ByteArray.size_append, hp3.out, hp1.out]; have := hsz.out; have := hKs.out; omega
                · rw [Hid, hXN.out, addL]
                  rw [if_pos (em_of hqA.out), if_neg (ne_of hqM.out)]
                  simp only [bytes_app, hKd.out]
                  rw [em_of hqA.out]
                  (try simp only [List.nil_append, List.append_nil, List.append_assoc]); first | done | rfl
              · skip
                have hqM := Lib.hid (show (!M.toList.isEmpty) = false by assumption)
                go_meet
                refine ⟨A ++ K, rfl, ?_, ?_, ?_, hB7⟩
                · simp only [ByteArray.size_append, hp3.out, hp1.out]; have := hsz.out; have := hKs.out; omega
                · right; simp only [ByteArray.size_append, hp3.out, hp1.out]; have := hsz.out; have := hKs.out; omega
                · rw [Hid, hXN.out, addL]
                  rw [if_pos (em_of hqA.out), if_pos (em_of hqM.out)]
                  simp only [bytes_app, hKd.out]
                  rw [em_of hqA.out]
                  (try simp only [List.nil_append, List.append_nil, List.append_assoc]); first | done | rfl
        case rest =>
          obtain ⟨A2, rfl, hA2, hA3, hA2d, hB8⟩ := hcut
          by_cases hk5 : k5 = s.size
          · have hr : rOf (s.data.toList.drop i) = [] := by rw [← hR.out.r, hk5]; exact List.drop_of_length_le (by rw [hlen.out]; exact Nat.le_refl _)
            have hfin : Hid (setL (s.size + 1) s.data.toList [] = (A2.data.toList, true)) := Lib.hid (by rw [← hL.out, setL_end hSay.out hr, hA2d.out])
            have hk5' : ¬ k5 < s.size := by omega
            clear hr hk5
            go_wp2_with fail
            · have hq := Lib.hid (show A2.toList.isEmpty = true by assumption)
              go_ret2
              exact ⟨innoc, true, rfl, by rw [hfin.out], fun _ => by rw [hfin.out, finL, if_pos (em_of2 hq.out)], hB8.out⟩
            · have hq := Lib.hid (show A2.toList.isEmpty = false by assumption)
              go_ret2
              exact ⟨A2, true, rfl, by rw [hfin.out], fun _ => by rw [hfin.out, finL, if_neg (ne_of2 hq.out)], hB8.out⟩
          · have hlt : k5 < s.size := by omega
            have hD := Lib.hid (drop_byte s k5 hlt)
            have hr := Lib.hid (hR.out.r.symm.trans hD.out)
            by_cases h44 : s[k5].toNat = 44
            · have t44 : ((s[k5].toNat : Int) != 44) = false := by simp; omega
              have hmore := Lib.hid (setL_more (n := n) (o := A.data.toList) hSay.out hr.out h44)
              clear h44
              go_wp2_with fail
              go_roundg n
              case measure => omega
              case rel => exact ⟨k5 + 1, n, A2, rfl, by omega, by omega, by omega, rfl, rfl, Lib.hid (by rw [hA2d.out, ← hL.out, hmore.out]), hB8⟩
            · have t44 : ((s[k5].toNat : Int) != 44) = true := by simp; omega
              have hfin : Hid (setL (s.size + 1) s.data.toList [] = (A2.data.toList, true)) := Lib.hid (by rw [← hL.out, setL_stop hSay.out hr.out h44, hA2d.out])
              clear h44
              go_wp2_with fail
              · have hq := Lib.hid (show A2.toList.isEmpty = true by assumption)
                go_ret2
                exact ⟨innoc, true, rfl, by rw [hfin.out], fun _ => by rw [hfin.out, finL, if_pos (em_of2 hq.out)], hB8.out⟩
              · have hq := Lib.hid (show A2.toList.isEmpty = false by assumption)
                go_ret2
                exact ⟨A2, true, rfl, by rw [hfin.out], fun _ => by rw [hfin.out, finL, if_neg (ne_of2 hq.out)], hB8.out⟩
    · have hno := Lib.hid (setL_no (n := n) (l := s.data.toList.drop i) (o := A.data.toList) (fun h => hsay ⟨by have := h.1; rw [hS.out] at this; exact this, by have := h.2; rw [hM.out] at this; exact this⟩))
      have hsay' : sb = false ∨ (sb = true ∧ mb = false) := by cases sb <;> cases mb <;> simp at hsay ⊢
      clear hsay
      rcases hsay' with rfl | ⟨rfl, rfl⟩
      all_goals
        go_wp2_with fail
        go_ret2
        exact ⟨⟨#[]⟩, false, rfl, by rw [← hL.out, hno.out], fun h => by simp at h, hB6.out⟩

end Go.Proofs.YtlpkdagdfopchaaGreatDoor
