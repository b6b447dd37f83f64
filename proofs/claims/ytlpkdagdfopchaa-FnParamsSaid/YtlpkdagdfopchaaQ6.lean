/- spec.Params: the walk. -/
import Derived.Test.YtlpkdagdfopchaaQ4
import Derived.BigQuiet
import Derived.BigRegion
import Derived.Sort.Walk0
namespace Go.Proofs.Ytlpkdagdfopchaa
open Go.RowKit Go.Maps
set_option linter.unusedVariables false
set_option linter.unusedSimpArgs false

/-- A text is put behind the head: with ? or & between, or with nothing. -/
def stepH (a : Nat) (h t : List UInt8) : List UInt8 := (if a = h.length then h ++ [63] else if a + 1 = h.length then h else h ++ [38]) ++ t
theorem TextsAt.drewN {w : World} {g : Nat} {M : List ByteArray} (h : TextsAt w g M) (n : Nat) : TextsAt (w.drewN n) g M := ⟨h.1, h.2⟩
theorem less_le {a b : ByteArray} (h : Op.bytesLess a.toList b.toList = true) : leT a b := by
  rw [bytesLess_eq, decide_eq_true_iff, ByteArray.toList_eq, ByteArray.toList_eq] at h
  exact List.le_of_lt h
theorem notless_le {a b : ByteArray} (h : Op.bytesLess a.toList b.toList = false) : leT b a := by
  rw [bytesLess_eq, decide_eq_false_iff_not, ByteArray.toList_eq, ByteArray.toList_eq] at h
  exact List.not_lt.1 h
theorem perm_mem {M L : List ByteArray} (h : M.Perm L) {p : ByteArray → Prop} (hL : ∀ t ∈ L, p t) : ∀ t ∈ M, p t := fun t ht => hL t (h.mem_iff.1 ht)
def headP (s : ByteArray) : ByteArray := s.extract 0 (cutN s.data.toList 35)
def tailP (s : ByteArray) : ByteArray := s.extract (cutN s.data.toList 35) s.size
def ParamsPost (hd tl : ByteArray) (a : Nat) (L : List ByteArray) (e : Ending) : Prop := ∃ (X : ByteArray) (M : List ByteArray), e = .returned (.string X) ∧ M.Perm L ∧ M.Pairwise leT ∧
  X.data.toList = (M.map fun t => t.data.toList).foldl (stepH a) hd.data.toList ++ tl.data.toList
theorem addr_add (g n : Nat) : (⟨g, 0, none⟩ : Addr).add n = ⟨g, n, none⟩ := by unfold Addr.add; split <;> simp_all

set_option maxHeartbeats 16000000 in
set_option maxRecDepth 100000 in
theorem specParams_calls (s : ByteArray) (L : List ByteArray) (g cap B : Nat) (w : World) (hs : s.size ≤ 200) (hL : L.length ≤ 20) (hLs : Hid (∀ t ∈ L, t.size ≤ 2000)) (hcap : L.length ≤ cap)
    (hT : Hid (TextsAt w g L)) (hBg : B ≤ g) (hB : B ≤ w.heap.size) :
    Calls Try.prog 9 #[.string s, .slice (some ⟨g, 0, none⟩) L.length cap] w fun e w' => ParamsPost (headP s) (tailP s) (cutN (headP s).data.toList 63) L e ∧ Below B w w' := by
  have HU := Lib.hid (fun w => until_calls 22 (fun c => c == 35) enters22 (Lib.hid fun c w => hash_calls c w) s 0 (Nat.zero_le _) w (by omega))
  have HC := Lib.hid (show 0 + ((s.data.toList.drop 0).takeWhile (fun c => !(c == 35))).length = cutN s.data.toList 35 by simp [cutN])
  have hcl := cutN_le s.data.toList 35
  rw [show s.data.toList.length = s.size by simp] at hcl
  rw [HC.out] at HU
  have HHd := Lib.hid (show headP s = s.extract 0 (cutN s.data.toList 35) from rfl)
  have HTl := Lib.hid (show tailP s = s.extract (cutN s.data.toList 35) s.size from rfl)
  have hhs : (headP s).size ≤ 200 := by rw [headP]; simp [ByteArray.size_extract]; omega
  have hts : (tailP s).size ≤ 200 := by rw [tailP]; simp [ByteArray.size_extract]; omega
  generalize cutN s.data.toList 35 = c at HU hcl HC HHd HTl
  clear HC
  generalize headP s = hd at HHd hhs ⊢
  generalize tailP s = tl at HTl hts ⊢
  have HU2 := Lib.hid (fun w => until_calls 23 (fun c => c == 63) enters23 (Lib.hid fun c w => ask_calls c w) hd 0 (Nat.zero_le _) w (by omega))
  rw [show 0 + ((hd.data.toList.drop 0).takeWhile (fun c => !(c == 63))).length = cutN hd.data.toList 63 by simp [cutN]] at HU2
  have hal := cutN_le hd.data.toList 63
  rw [show hd.data.toList.length = hd.size by simp] at hal
  generalize cutN hd.data.toList 63 = a at HU2 hal ⊢
  go_enter Try.func9, Try.ntmps9
  go_wp2_with fail
  refine (HU.out _).mono ?_
  rintro e w1 ⟨rfl, hb⟩
  have hT1 := Lib.hid (hT.out.below hb)
  have HB1 := Lib.hid (show Below B w w1 from hb.mono hB)
  have hg1 := hT1.out.1
  clear hb
  have hhd := HHd.out.symm
  have htl := HTl.out.symm
  go_wp2_with fail
  go_quiet (fail)
  go_wp2_with fail
  clear hhd htl
  have hT2 := Lib.hid (hT1.out.drewN nq)
  have HB2 := Lib.hid (below_drewN HB1.out nq)
  go_loopg [23] L.length (fun gk i wr => ∃ (j : Nat) (M : List ByteArray), gk = L.length - j ∧ j ≤ L.length ∧ i = .int .i64 j ∧ M.length = L.length ∧ Hid (M.Perm L) ∧ Hid (SortedTo M j) ∧ Hid (TextsAt wr g M) ∧ Hid (Below B w wr))
  case atStart => exact ⟨0, L, rfl, Nat.zero_le _, rfl, rfl, List.Perm.refl _, fun a b _ h => by omega, hT2, HB2⟩
  case round =>
    obtain ⟨j, M, hgk, hj, rfl, hMl, hMp, hMs, hMt, hBw⟩ := hrel
    have HG := Lib.hid hgk
    clear hgk
    by_cases hlt : j < L.length
    · go_wp2_with fail
      go_loopg [9] j (fun gk2 kv w3 => ∃ (k : Nat) (M2 : List ByteArray), gk2 = k ∧ k ≤ j ∧ kv = .int .i64 k ∧ M2.length = L.length ∧ Hid (M2.Perm L) ∧ Hid (SinkAt M2 j k) ∧ Hid (TextsAt w3 g M2) ∧ Hid (Below B w w3))
      case atStart => exact ⟨j, M, rfl, Nat.le_refl _, rfl, hMl, hMp, sink_start hMs.out, hMt, hBw⟩
      case round =>
        obtain ⟨k, M2, hgk2, hk, rfl, hM2l, hM2p, hM2s, hM2t, hB2⟩ := hrel
        have HG2 := Lib.hid hgk2
        clear hgk2
        have hg2 := hM2t.out.1
        by_cases hk0 : 0 < k
        · have g0 : decide ((0:Int) < (k : Int)) = true := by simp; omega
          have hc1 := (hM2t.out.2 k (by omega)).1
          have hc2 := (hM2t.out.2 (k - 1) (by omega)).1
          have hf1 := (hM2t.out.2 k (by omega)).2
          have hf2 := (hM2t.out.2 (k - 1) (by omega)).2
          cases hle : Op.bytesLess (atB M2 k).toList (atB M2 (k - 1)).toList with
          | false =>
            have HEnd := Lib.hid (sink_end hk hM2s.out (.inr (notless_le hle)))
            go_wp2_with fail
            go_quiet (fail)
            go_wp2_with fail
            go_roundg (L.length - (j + 1))
            case measure => rw [HG.out]; omega
            case rel => exact ⟨j + 1, M2, rfl, by omega, by simp, hM2l, hM2p, HEnd, hM2t.out.drewN _, below_drewN hB2.out _⟩
          | true =>
            have HSw := Lib.hid (sink_swap hk (by omega) hk0 hM2s.out (less_le hle))
            have HPm := Lib.hid ((swapT_perm M2 k (by omega)).trans hM2p.out)
            have hSl := (swapT_len M2 k).trans hM2l
            go_wp2_with fail
            go_quiet (fail)
            go_wp2_with fail
            have hT3 := Lib.hid (hM2t.out.drewN nq)
            have hB3 := Lib.hid (below_drewN hB2.out nq)
            have hd1 := (hT3.out.2 k (by omega)).1
            have hd2 := (hT3.out.2 (k - 1) (by omega)).1
            have he1 := (hT3.out.2 k (by omega)).2
            have he2 := (hT3.out.2 (k - 1) (by omega)).2
            clear hc1 hc2 hf1 hf2 hle
            generalize wr.drewN nq = wq at hT3 hB3 hd1 hd2 he1 he2 ⊢
            have HTs := Lib.hid (hT3.out.swap hk0 (by omega))
            generalize atB M2 k = x at hd1 HTs ⊢
            generalize atB M2 (k - 1) = y at hd2 HTs ⊢
            go_region
            all_goals go_wp2_with fail
            go_roundg (k - 1)
            case measure => rw [HG2.out]; omega
            case rel => exact ⟨k - 1, swapT M2 k, rfl, by omega, by congr 1; omega, hSl, HPm, HSw, ⟨HTs.out.1, HTs.out.2⟩, ((hB3.out.setCell (p := ⟨g, k, none⟩) hBg _).setCell (p := ⟨g, k - 1, none⟩) hBg _).drew⟩
        · have hkz : k = 0 := by omega
          have g0 : decide ((0:Int) < (k : Int)) = false := by simp; omega
          have HEnd := Lib.hid (sink_end hk hM2s.out (.inl hkz))
          clear hkz
          go_wp2_with fail
          go_quiet (fail)
          go_wp2_with fail
          go_roundg (L.length - (j + 1))
          case measure => rw [HG.out]; omega
          case rel => exact ⟨j + 1, M2, rfl, by omega, by simp, hM2l, hM2p, HEnd, hM2t.out.drewN _, below_drewN hB2.out _⟩
    · have hjl : j = M.length := by omega
      have HSort := Lib.hid (show M.Pairwise leT from sorted_pairwise (by rw [← hjl]; exact hMs.out))
      have HSz := Lib.hid (perm_mem hMp.out hLs.out)
      have hMS := hMt.out.strs
      clear hjl HG hMs
      go_wp2_with fail
      refine (HU2.out _).mono ?_
      rintro e w3 ⟨rfl, hb⟩
      have HM3 := Lib.hid (hMS.below hb)
      have HB3 := Lib.hid (below_then hBw.out (Nat.le_trans hB (by have := hBw.out.size; omega)) hb)
      clear hb hMS
      have hMl2 : L.length = M.length := hMl.symm
      have hM20 : M.length ≤ 20 := by omega
      rw [hMl2]
      clear hMl hMl2
      go_wp2_with fail
      go_loopg [6, 64] M.length (fun gk v i wr => ∃ (k : Nat) (H : ByteArray), gk = M.length - k ∧ k ≤ M.length ∧ i = .int .i64 k ∧ v = .string H ∧ H.size ≤ 200 + 2001 * k ∧ Hid (H.data.toList = ((M.take k).map fun t => t.data.toList).foldl (stepH a) hd.data.toList) ∧ Hid (Below w3.heap.size w3 wr))
      case atStart => exact ⟨0, hd, rfl, Nat.zero_le _, rfl, rfl, by omega, rfl, Below.refl _ _⟩
      case round =>
        obtain ⟨k, H, hgk, hk, rfl, rfl, hHs, hH, hBl⟩ := hrel
        have HG := Lib.hid hgk
        clear hgk
        by_cases hkt : k < M.length
        · obtain ⟨ad, hade, hblk, hc⟩ := (HM3.out.below hBl.out) k hkt
          obtain rfl : ad = ⟨g, 0, none⟩ := by injection hade with h; exact h.symm
          rw [addr_add] at hc
          have hxs := HSz.out _ (List.getElem_mem hkt)
          have HTk := Lib.hid (show ((M.take (k + 1)).map fun t => t.data.toList).foldl (stepH a) hd.data.toList = stepH a (((M.take k).map fun t => t.data.toList).foldl (stepH a) hd.data.toList) M[k].data.toList by
            rw [List.take_succ_eq_append_getElem hkt, List.map_append, List.foldl_append]; rfl)
          generalize M[k] = t at hc hxs HTk
          have h63 : (ByteArray.mk #[63]).size = 1 := rfl
          have h38 : (ByteArray.mk #[38]).size = 1 := rfl
          have hHl : H.data.toList.length = H.size := by simp
          have hkt2 : (k : Int) < (M.length : Int) := by omega
          by_cases h1 : a = H.size
          · have g1 : ((a : Int) == (H.size : Int)) = true := by simp; omega
            have HE := Lib.hid (show (H ++ ByteArray.mk #[63] ++ t).data.toList = ((M.take (k + 1)).map fun t => t.data.toList).foldl (stepH a) hd.data.toList by
              rw [HTk.out, ← hH.out, stepH, hHl, if_pos h1, bytes_append, bytes_append])
            have ha1 : H.size + (ByteArray.mk #[63]).size ≤ 9223372036854775807 := by rw [h63]; omega
            have ha2 : (H ++ ByteArray.mk #[63]).size + t.size ≤ 9223372036854775807 := by rw [ByteArray.size_append, h63]; omega
            have hsz : (H ++ ByteArray.mk #[63] ++ t).size ≤ 200 + 2001 * (k + 1) := by rw [ByteArray.size_append, ByteArray.size_append, h63]; omega
            clear h63 h38 hHl h1
            go_wp2_with fail
            go_roundg (M.length - (k + 1))
            case measure => rw [HG.out]; omega
            case rel => exact ⟨k + 1, _, rfl, by omega, by simp, rfl, hsz, HE, hBl⟩
          · have g1 : ((a : Int) == (H.size : Int)) = false := by simp; omega
            by_cases h2 : a + 1 = H.size
            · have g2 : ((a : Int) == (H.size : Int) - 1) = true := by simp; omega
              have HE := Lib.hid (show (H ++ t).data.toList = ((M.take (k + 1)).map fun t => t.data.toList).foldl (stepH a) hd.data.toList by
                rw [HTk.out, ← hH.out, stepH, hHl, if_neg h1, if_pos h2, bytes_append])
              have ha2 : H.size + t.size ≤ 9223372036854775807 := by omega
              have hsz : (H ++ t).size ≤ 200 + 2001 * (k + 1) := by rw [ByteArray.size_append]; omega
              clear h63 h38 hHl h1 h2
              go_wp2_with fail
              go_roundg (M.length - (k + 1))
              case measure => rw [HG.out]; omega
              case rel => exact ⟨k + 1, _, rfl, by omega, by simp, rfl, hsz, HE, hBl⟩
            · have g2 : ((a : Int) == (H.size : Int) - 1) = false := by rw [beq_eq_false_iff_ne]; omega
              have HE := Lib.hid (show (H ++ ByteArray.mk #[38] ++ t).data.toList = ((M.take (k + 1)).map fun t => t.data.toList).foldl (stepH a) hd.data.toList by
                rw [HTk.out, ← hH.out, stepH, hHl, if_neg h1, if_neg h2, bytes_append, bytes_append])
              have ha1 : H.size + (ByteArray.mk #[38]).size ≤ 9223372036854775807 := by rw [h38]; omega
              have ha2 : (H ++ ByteArray.mk #[38]).size + t.size ≤ 9223372036854775807 := by rw [ByteArray.size_append, h38]; omega
              have hsz : (H ++ ByteArray.mk #[38] ++ t).size ≤ 200 + 2001 * (k + 1) := by rw [ByteArray.size_append, ByteArray.size_append, h38]; omega
              clear h63 h38 hHl h1 h2
              go_wp2_with fail
              go_roundg (M.length - (k + 1))
              case measure => rw [HG.out]; omega
              case rel => exact ⟨k + 1, _, rfl, by omega, by simp, rfl, hsz, HE, hBl⟩
        · have hke : k = M.length := by omega
          have HE := Lib.hid (show H.data.toList = (M.map fun t => t.data.toList).foldl (stepH a) hd.data.toList by
            have := hH.out
            rwa [hke, List.take_of_length_le (Nat.le_refl _)] at this)
          have ha : H.size + tl.size ≤ 9223372036854775807 := by omega
          have hkt2 : ¬ (k : Int) < (M.length : Int) := by omega
          clear hke HG
          go_wp2_with fail
          go_ret
          exact ⟨⟨_, M, rfl, hMp.out, HSort.out, by rw [bytes_append, HE.out]⟩, below_then HB3.out (Nat.le_trans hB (by have := HB3.out.size; omega)) hBl.out⟩
end Go.Proofs.Ytlpkdagdfopchaa
