/- StyleFromProperties: the list of fonts. -/
import Derived.Test.YtmgkolcpomaceaaK22
import Derived.Deep.CutBlock
import Derived.Deep.DeepCutAuto
namespace Go.Proofs.Ytmgkolcpomaceaa
open Go.RowKit
set_option linter.unusedVariables false
set_option linter.unusedSimpArgs false

set_option maxHeartbeats 64000000 in
set_option maxRecDepth 100000 in
theorem stage1_calls (l1 : List ByteArray) (A1 : Option Addr) (c1 : Nat) (pc : Nat → Value) (a : Act) (w wx : World) (T0 : ByteArray) (hTs : T0.size ≤ 1000000) (fr : Fr a w.heap.size T0) 
    (h1 : Hid (StrsAt w A1 l1)) (hl1 : l1.length ≤ 201) (hs1 : Hid (∀ x ∈ l1, x.size ≤ 200 ∧ asciiB x = true)) (HPC : Hid (pc 1 = .slice A1 l1.length c1)) (HP : Hid (PropW pc w wx))
    {K : Act → World → Prop} {Q' : Exit → Act → World → Prop}
    (HK : Hid (∀ a' T' wx', Fr a' w.heap.size T' → T'.data.toList = T0.data.toList ++ pieceL true 1 l1 → T'.size ≤ T0.size + 450000 → PropW pc w wx' → K a' wx')) :
    Code.wp Try.prog st1 (Exit.then K Q') a wx := by
  obtain ⟨f, rfl⟩ := frame_open a fr.sz fr.df
  have e1 : f 1 = _ := Option.some.inj fr.p1
  have e2 : f 2 = _ := Option.some.inj fr.p2
  have e3 : f 3 = _ := Option.some.inj fr.p3
  rw [e1, e2, e3]
  clear e1 e2 e3 fr
  conv => arg 2; whnf
  have hc0 := HP.out.cell 1 (by decide)
  rw [HPC.out] at hc0
  obtain ⟨P1, hP1⟩ : ∃ P1, P1 = T0.data.toList ++ pieceL true 1 l1 := ⟨_, rfl⟩
  have HT1 := Lib.hid hP1
  rw [← hP1] at HK
  clear hP1
  skip
  by_cases hn : 0 < l1.length
  · have gn : decide ((0:Int) < (l1.length : Int)) = true := decide_eq_true (by omega)
    have hnm : (ByteArray.mk #[102, 111, 110, 116, 45, 102, 97, 109, 105, 108, 121, 58]).size = 12 := rfl
    have hadd0 : T0.size + (ByteArray.mk #[102, 111, 110, 116, 45, 102, 97, 109, 105, 108, 121, 58]).size ≤ 9223372036854775807 := by rw [hnm]; omega
    have hne : l1 ≠ [] := by intro h; rw [h] at hn; simp at hn
    have HT2 := Lib.hid (show P1 = T0.data.toList ++ (nmL 1 ++ [58] ++ joinI true l1 ++ [59]) by rw [HT1.out, pieceL, if_neg hne])
    have hst : (T0 ++ ByteArray.mk #[102, 111, 110, 116, 45, 102, 97, 109, 105, 108, 121, 58]).size ≤ T0.size + 20 + 2000 * 0 := by rw [ByteArray.size_append, hnm]; omega
    have HST := Lib.hid (show (T0 ++ ByteArray.mk #[102, 111, 110, 116, 45, 102, 97, 109, 105, 108, 121, 58]).data.toList = T0.data.toList ++ (nmL 1 ++ [58] ++ joinI true (l1.take 0)) by rw [bytes_append]; rfl)
    clear hnm hne
    go_wp2_with fail
    go_loopg [3, 47] l1.length (fun gk v i wr => ∃ (k : Nat) (T : ByteArray), gk = l1.length - k ∧ k ≤ l1.length ∧ i = .int .i64 k ∧ v = .string T ∧ T.size ≤ T0.size + 20 + 2000 * k ∧ Hid (T.data.toList = T0.data.toList ++ (nmL 1 ++ [58] ++ joinI true (l1.take k))) ∧ Hid (PropW pc w wr))
    case atStart => exact ⟨0, _, rfl, Nat.zero_le _, rfl, rfl, hst, HST, HP⟩
    case round =>
      obtain ⟨k, T, hgk, hk, rfl, rfl, hTs, hT, hP⟩ := hrel
      have HG := Lib.hid hgk
      clear hgk hc0 hst
      by_cases hlt : k < l1.length
      · have HTk := Lib.hid (take_snoc1 l1 k hlt)
        have hxs : l1[k].size ≤ 200 := (hs1.out _ (List.getElem_mem _)).1
        have HXa := Lib.hid (hs1.out _ (List.getElem_mem hlt)).2
        obtain ⟨ad, rfl, hblk, hc⟩ := (h1.out.below hP.out.below) k hlt
        generalize l1[k] = x at HTk hxs HXa hc
        have h44 : (ByteArray.mk #[44, 32]).size = 2 := rfl
        have haddc : T.size + (ByteArray.mk #[44, 32]).size ≤ 9223372036854775807 := by rw [h44]; omega
        go_upto_if 53 with fail
        go_cut [3] from 54 to 55 (fun v wx => ∃ T2 : ByteArray, v = .string T2 ∧ T2.size ≤ T0.size + 22 + 2000 * k ∧ Hid (T2.data.toList ++ lineI true x = T0.data.toList ++ (nmL 1 ++ [58] ++ joinI true (l1.take (k + 1)))) ∧ Hid (PropW pc w wx))
        case first =>
          by_cases hk0 : 0 < k
          · have g0 : decide ((0:Int) < (k : Int)) = true := by simp; omega
            have HJ := Lib.hid (show joinI true (l1.take (k + 1)) = joinI true (l1.take k) ++ [44, 32] ++ lineI true x by
              have hlk : (l1.take k).length = k := by simp; omega
              have hne : l1.take k ≠ [] := by intro h; rw [h] at hlk; simp at hlk; omega
              rw [HTk.out, joinI_snoc1 _ _ _ hne])
            have hsz : (T ++ ByteArray.mk #[44, 32]).size ≤ T0.size + 22 + 2000 * k := by rw [ByteArray.size_append, h44]; omega
            clear h44
            go_wp2_with fail
            go_meet
            exact ⟨_, rfl, hsz, by rw [Hid, HJ.out, bytes_append, hT.out]; simp, hP⟩
          · have g0 : decide ((0:Int) < (k : Int)) = false := by simp; omega
            have HJ := Lib.hid (show joinI true (l1.take (k + 1)) = joinI true (l1.take k) ++ lineI true x by
              have hz : l1.take k = [] := by rw [show k = 0 by omega]; rfl
              rw [HTk.out, joinI_snoc0 _ _ _ hz, hz]; rfl)
            have hsz : T.size ≤ T0.size + 22 + 2000 * k := by omega
            go_wp2_with fail
            go_meet
            exact ⟨_, rfl, hsz, by rw [Hid, HJ.out, hT.out]; simp, hP⟩
        clear h44 haddc hT hP hTs hblk hc
        obtain ⟨T2, rfl, hTs2, HT2x, hP⟩ := hcut
        have HI := Lib.hid (fun w => identP_calls x w (by omega))
        cases hf : famOk x.data.toList with
        | true =>
          have HF := Lib.hid hf
          have HLI := Lib.hid (show lineI true x = x.data.toList by show (famS x).data.toList = _; rw [famS, if_pos hf])
          clear hf
          have ha1 : T2.size + x.size ≤ 9223372036854775807 := by omega
          have hsz : (T2 ++ x).size ≤ T0.size + 20 + 2000 * (k + 1) := by rw [ByteArray.size_append]; omega
          have HFt := Lib.hid (show (T2 ++ x).data.toList = T2.data.toList ++ lineI true x by rw [HLI.out, bytes_append])
          go_wp2_with fail
          refine (HI.out _).mono ?_
          rw [HF.out]
          rintro e w1 ⟨rfl, hb⟩
          have hP1 := Lib.hid (hP.out.on hb)
          clear hb
          go_wp2_with fail
          go_roundg (l1.length - (k + 1))
          case measure => rw [HG.out]; omega
          case rel => exact ⟨k + 1, _, rfl, by omega, by simp, rfl, hsz, by rw [Hid, HFt.out, HT2x.out], hP1⟩
        | false =>
          have HF := Lib.hid hf
          have HLI := Lib.hid (show lineI true x = 34 :: (quoL (innerS x).data.toList ++ [34]) by show (famS x).data.toList = _; rw [famS, if_neg (by rw [hf]; simp)]; rfl)
          clear hf
          have HQE := Lib.hid (fun h => quotedB_eq x h)
          go_wp2_with fail
          refine (HI.out _).mono ?_
          rw [HF.out]
          rintro e w1 ⟨rfl, hb⟩
          have hP1 := Lib.hid (hP.out.on hb)
          clear hb hP
          go_upto_region 22 with fail
          go_cut [72] from 62 to 71 (fun v wx => v = .bool (quotedB x.data.toList) ∧ Hid (PropW pc w wx))
          case first =>
            by_cases h2 : 2 < x.size
            · have g2 : decide ((3:Int) ≤ (x.size : Int)) = true := by simp; omega
              have HQ := Lib.hid (HQE.out h2)
              cases hst : startsB x ⟨#[34]⟩ with
              | true =>
                have HS := Lib.hid hst
                clear hst
                go_wp2_with fail
                refine (zzStarts_calls _ _ _).mono ?_
                rw [HS.out]
                rintro e w2 ⟨rfl, rfl⟩
                go_wp2_with fail
                refine (zzEnds_calls x _ _ (by omega) (by decide)).mono ?_
                rintro e w2 ⟨rfl, rfl⟩
                go_wp2_with fail
                go_meet
                exact ⟨by rw [HQ.out, HS.out]; rfl, hP1⟩
              | false =>
                have HS := Lib.hid hst
                clear hst
                go_wp2_with fail
                refine (zzStarts_calls _ _ _).mono ?_
                rw [HS.out]
                rintro e w2 ⟨rfl, rfl⟩
                go_wp2_with fail
                go_meet
                exact ⟨by rw [HQ.out, HS.out]; rfl, hP1⟩
            · have g2 : decide ((3:Int) ≤ (x.size : Int)) = false := by simp; omega
              have HQ := Lib.hid (show quotedB x.data.toList = false by
                have hl : x.data.toList.length = x.size := by simp
                rw [quotedB, hl, decide_eq_false h2]; rfl)
              go_wp2_with fail
              go_meet
              exact ⟨by rw [HQ.out], hP1⟩
          obtain ⟨rfl, hP⟩ := hcut
          clear hP1
          have his := innerS_size x
          have HIa := Lib.hid (innerS_ascii x HXa.out)
          have HC := Lib.hid (fun w => cssEscape_calls (innerS x) w (by omega) HIa)
          have hql := quoL_len (innerS x).data.toList
          have hul : (innerS x).data.toList.length = (innerS x).size := by simp
          cases hq : quotedB x.data.toList
          all_goals
            have hI := (show innerS x = _ by unfold innerS; rw [hq])
            simp only [Bool.false_eq_true, if_false, if_true] at hI
            rw [hI] at HC hql hul HLI his
            have hq3 := hq
            first | (have h2 : 2 < x.size := (by rw [quotedB] at hq; simp at hq; exact hq.1.1)) | skip
            clear hq hI hq3
            generalize quoL _ = q at HC hql HLI
            have hqs : (ByteArray.mk q.toArray).size = q.length := by show q.toArray.size = _; simp
            have HQd := Lib.hid (show (ByteArray.mk q.toArray).data.toList = q by simp)
            generalize ByteArray.mk q.toArray = X at HC hqs HQd
            have e1 : (ByteArray.mk #[34]).size = 1 := rfl
            have ha1 : (ByteArray.mk #[34]).size + X.size ≤ 9223372036854775807 := by rw [e1]; omega
            have ha2 : (ByteArray.mk #[34] ++ X).size + (ByteArray.mk #[34]).size ≤ 9223372036854775807 := by rw [ByteArray.size_append, e1]; omega
            have ha3 : T2.size + (ByteArray.mk #[34] ++ X ++ ByteArray.mk #[34]).size ≤ 9223372036854775807 := by rw [ByteArray.size_append, ByteArray.size_append, e1]; omega
            have hsz : (T2 ++ (ByteArray.mk #[34] ++ X ++ ByteArray.mk #[34])).size ≤ T0.size + 20 + 2000 * (k + 1) := by rw [ByteArray.size_append, ByteArray.size_append, ByteArray.size_append, e1]; omega
            have HFt := Lib.hid (show (T2 ++ (ByteArray.mk #[34] ++ X ++ ByteArray.mk #[34])).data.toList = T2.data.toList ++ lineI true x by rw [HLI.out, bytes_append, bytes_append, bytes_append, HQd.out]; simp)
            clear e1 hul hql hqs
            go_wp2_with fail
            refine (HC.out _).mono ?_
            rintro e w3 ⟨rfl, hb⟩
            have hP3 := Lib.hid (hP.out.on hb)
            clear hb
            go_wp2_with fail
            go_roundg (l1.length - (k + 1))
            case measure => rw [HG.out]; omega
            case rel => exact ⟨k + 1, _, rfl, by omega, by simp, rfl, hsz, by rw [Hid, HFt.out, HT2x.out], hP3⟩
      · have hks : k = l1.length := by omega
        have h59 : (ByteArray.mk #[59]).size = 1 := rfl
        have hadd1 : T.size + (ByteArray.mk #[59]).size ≤ 9223372036854775807 := by rw [h59]; omega
        have hsz : (T ++ ByteArray.mk #[59]).size ≤ T0.size + 450000 := by rw [ByteArray.size_append, h59]; omega
        have HFin := Lib.hid (show (T ++ ByteArray.mk #[59]).data.toList = P1 by
          have h1 := hT.out
          rw [hks, List.take_of_length_le (Nat.le_refl _)] at h1
          rw [bytes_append, h1, HT2.out]; simp)
        clear hks HG h59
        go_wp2_with fail
        exact HK.out _ _ _ ⟨rfl, rfl, rfl, rfl, rfl⟩ HFin.out hsz hP.out
  · have gn : decide ((0:Int) < (l1.length : Int)) = false := decide_eq_false (by omega)
    have hne : l1 = [] := List.eq_nil_of_length_eq_zero (by omega)
    have HT2 := Lib.hid (show T0.data.toList = P1 by rw [HT1.out, pieceL, if_pos hne]; simp)
    have hsz : T0.size ≤ T0.size + 450000 := by (first | omega | decide)
    clear hne
    go_wp2_with fail
    exact HK.out _ _ _ ⟨rfl, rfl, rfl, rfl, rfl⟩ HT2.out hsz HP.out
end Go.Proofs.Ytmgkolcpomaceaa
