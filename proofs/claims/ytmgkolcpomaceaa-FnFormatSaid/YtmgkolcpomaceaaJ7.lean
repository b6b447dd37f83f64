/- zzMarkers with what trustedResourceURLFormat hands in. -/
import Derived.Test.YtmgkolcpomaceaaJ6
import Derived.Deep.CutBlock
namespace Go.Proofs.Ytmgkolcpomaceaa
open Go.RowKit Go.Maps
set_option linter.unusedVariables false
set_option linter.unusedSimpArgs false

theorem enters155 : Enters 155 := fun args w => by simp [go_sem, Try.func155]
def MSt (l : List Pr) (s : ByteArray) (k : Nat) (A : ByteArray) (ev : Value) : Prop :=
  (ev = .nilIface ∧ fmt (valOf l) s.data.toList = (fmt (valOf l) (s.data.toList.drop k)).map (A.data.toList ++ ·)) ∨ (IsErr ev ∧ fmt (valOf l) s.data.toList = none)
theorem MSt.ev {l : List Pr} {s : ByteArray} {k : Nat} {A : ByteArray} {ev : Value} (h : MSt l s k A ev) : ev = .nilIface ∨ IsErr ev := h.elim (fun h => .inl h.1) (fun h => .inr h.1)
theorem MSt.plain {l : List Pr} {s A : ByteArray} {k : Nat} {ev : Value} (h : MSt l s k A ev) (hk : k < s.size) (hm : markOf (s.data.toList.drop k) = none) : MSt l s (k + 1) (A ++ s.extract k (k + 1)) ev :=
  h.elim (fun h => .inl ⟨h.1, step_plain hk hm h.2⟩) .inr
theorem MSt.val {l : List Pr} {s A X : ByteArray} {k n : Nat} {ev ev' : Value} {lab : List UInt8} (h : MSt l s k A ev) (hm : markOf (s.data.toList.drop k) = some lab) (hn : k + 2 + lab.length = n)
    (hp : match valOf l lab with | some v => X.data.toList = v ∧ ev' = ev | none => IsErr ev') : MSt l s (n + 1) (A ++ X) ev' := by
  cases hv : valOf l lab with
  | none =>
    rw [hv] at hp
    refine .inr ⟨hp, ?_⟩
    rcases h with ⟨_, h⟩ | ⟨_, h⟩
    · rw [h, fmt_none hm hv]; rfl
    · exact h
  | some v =>
    rw [hv] at hp
    obtain ⟨hX, rfl⟩ := hp
    rcases h with ⟨h1, h⟩ | h
    · refine .inl ⟨h1, ?_⟩
      have := step_val hm hv hX h
      rw [hn] at this
      exact this
    · exact .inr h
theorem marker_in (s : ByteArray) (k n : Nat) (hkn : k + 3 ≤ n) (hn : n < s.size) : (s.extract k (n + 1)).extract 2 ((s.extract k (n + 1)).size - 1) = s.extract (k + 2) n := by
  apply WideShapes.bytes_inj
  have e : (s.extract k (n + 1)).size = n + 1 - k := by simp [ByteArray.size_extract]; omega
  rw [e, Lib.extract_data, Lib.extract_data, Lib.extract_data, List.drop_take, List.drop_drop, List.take_take]
  congr 1
  omega

set_option maxHeartbeats 16000000 in
set_option maxRecDepth 100000 in
theorem markers_calls (s : ByteArray) (l : List Pr) (g1 g2 g4 b m B : Nat) (w : World) (hok : pairsOkB l = true) (hs : s.size ≤ 200)
    (hst : Hid (FSt w g1 g2 g4 b m l .nilIface)) (hBg : B ≤ g2) (hBw : B ≤ w.heap.size) :
    Calls Try.prog 154 #[.string s, .func (.func 155) #[] #[.pointer (some ⟨g1, 0, none⟩), .pointer (some ⟨g2, 0, none⟩)]] w fun e w' =>
      ∃ (A : ByteArray) (ev : Value), e = .returned (.string A) ∧ FSt w' g1 g2 g4 b m l ev ∧ Below B w w' ∧ ((ev = .nilIface ∧ fmt (valOf l) s.data.toList = some A.data.toList) ∨ (IsErr ev ∧ fmt (valOf l) s.data.toList = none)) := by
  have hcf := enters155
  unfold Enters at hcf
  have HOK := Lib.hid hok
  clear hok
  go_enter Try.func154, Try.ntmps154
  go_wp2_with fail
  go_loopg [5, 6] s.size (fun gk v i wr => ∃ (k : Nat) (A : ByteArray) (ev : Value), gk = s.size - k ∧ k ≤ s.size ∧ i = .int .i64 k ∧ v = .string A ∧ A.size ≤ 600 * k ∧ Hid (FSt wr g1 g2 g4 b m l ev) ∧ Hid (MSt l s k A ev) ∧ Hid (Below B w wr))
  case atStart => exact ⟨0, ⟨#[]⟩, _, rfl, Nat.zero_le _, rfl, rfl, by decide, hst, .inl ⟨rfl, by simp⟩, Below.refl _ _⟩
  case round =>
    obtain ⟨k, A, ev, hgk, hk, rfl, rfl, hAs, hfs, hT, hB⟩ := hrel
    have HG := Lib.hid hgk
    clear hgk hst
    by_cases hlt : k < s.size
    · have hadd : A.size + (s.extract k (k + 1)).size ≤ 9223372036854775807 := by simp [ByteArray.size_extract]; omega
      have hsz1 : (A ++ s.extract k (k + 1)).size ≤ 600 * (k + 1) := by rw [ByteArray.size_append]; simp [ByteArray.size_extract]; omega
      have HX := Lib.hid (extract_from s k)
      cases hst : startsB (s.extract k s.size) ⟨#[37, 123]⟩ with
      | false =>
        have HM := Lib.hid (markOf_no1 (show startsL (s.data.toList.drop k) [37, 123] = false by rw [← HX.out]; exact hst))
        go_wp2_with fail
        refine (zzStarts_calls _ _ _).mono ?_
        rintro e w2 ⟨rfl, rfl⟩
        go_wp2_with fail
        go_roundg (s.size - (k + 1))
        case measure => rw [HG.out]; omega
        case rel => exact ⟨k + 1, _, ev, rfl, by omega, by simp, rfl, hsz1, hfs, hT.out.plain hlt HM.out, hB⟩
      | true =>
        have HST := Lib.hid (show startsL (s.data.toList.drop k) [37, 123] = true by rw [← HX.out]; exact hst)
        have hk2 : k + 2 ≤ s.size := by have := startsB_len hst; simp [ByteArray.size_extract] at this; rw [show (ByteArray.mk #[37, 123]).size = 2 from rfl] at this; omega
        have hle := takeWhile_le s (k + 2) hk2
        have HLB := Lib.hid (label_bytes s (k + 2))
        have HMF := Lib.hid (mark_facts s.data.toList k HST.out)
        obtain ⟨lab, hlab⟩ : ∃ lab, (s.data.toList.drop (k + 2)).takeWhile labelC = lab := ⟨_, rfl⟩
        rw [hlab] at hle HLB HMF
        obtain ⟨n, hn⟩ : ∃ n, k + 2 + lab.length = n := ⟨_, rfl⟩
        rw [hn] at HLB HMF hle
        have HLE := Lib.hid (show k + 2 + ((s.data.toList.drop (k + 2)).takeWhile labelC).length = n by rw [hlab]; exact hn)
        clear hlab
        go_wp2_with fail
        refine (zzStarts_calls _ _ _).mono ?_
        rintro e w2 ⟨rfl, rfl⟩
        go_upto_block 2 with fail
        go_cut [7] (fun v wx => v = .int .i64 n ∧ wx = wr)
        case first =>
          go_wp2_with fail
          go_loopg [7] (s.size - (k + 2)) (fun gk2 v w2 => ∃ j : Nat, gk2 = s.size - j ∧ k + 2 ≤ j ∧ j ≤ s.size ∧ v = .int .i64 j ∧ Hid (n = j + ((s.data.toList.drop j).takeWhile labelC).length) ∧ w2 = wr)
          case atStart => exact ⟨k + 2, rfl, Nat.le_refl _, hk2, by simp, HLE.out.symm, rfl⟩
          case round =>
            obtain ⟨j, hgj, hkj, hj, rfl, hL, rfl⟩ := hrel
            have HGj := Lib.hid hgj
            clear hgj hn
            by_cases hjs : j < s.size
            · have HD := Lib.hid (drop_byte s j hjs)
              have gJ : decide ((j:Int) < (s.size:Int)) = true := by simp; omega
              have hu := Lib.hid (show labelC s[j] = (letterC s[j] || digitC s[j] || s[j] == 95) from rfl)
              go_upto_region 6 with fail
              go_cut [39] (fun v wx => v = .bool (labelC s[j]) ∧ wx = wr)
              case first =>
                cases hle : letterC s[j] with
                | true =>
                  have HL := Lib.hid hle
                  go_wp2_with fail
                  refine (zzLetter_calls s[j] _).mono ?_
                  rintro e w3 ⟨rfl, rfl⟩
                  go_wp2_with fail
                  go_meet
                  exact ⟨by rw [hu.out, HL.out]; rfl, rfl⟩
                | false =>
                  have HL := Lib.hid hle
                  cases hdi : digitC s[j] with
                  | true =>
                    have HDi := Lib.hid hdi
                    go_wp2_with fail
                    refine (zzLetter_calls s[j] _).mono ?_
                    rintro e w3 ⟨rfl, rfl⟩
                    go_wp2_with fail
                    refine (zzDigit_calls s[j] _).mono ?_
                    rintro e w3 ⟨rfl, rfl⟩
                    go_wp2_with fail
                    go_meet
                    exact ⟨by rw [hu.out, HL.out, HDi.out]; rfl, rfl⟩
                  | false =>
                    have HDi := Lib.hid hdi
                    have HV := Lib.hid (u8_beq s[j] 95)
                    go_wp2_with fail
                    refine (zzLetter_calls s[j] _).mono ?_
                    rintro e w3 ⟨rfl, rfl⟩
                    go_wp2_with fail
                    refine (zzDigit_calls s[j] _).mono ?_
                    rintro e w3 ⟨rfl, rfl⟩
                    go_wp2_with fail
                    go_meet
                    exact ⟨by rw [hu.out, HL.out, HDi.out, ← HV.out]; rfl, rfl⟩
              case rest =>
                obtain ⟨rfl, rfl⟩ := hcut
                cases hU : labelC s[j] with
                | true =>
                  have HU := Lib.hid hU
                  go_wp2_with fail
                  go_roundg (s.size - (j + 1))
                  case measure => rw [HGj.out]; omega
                  case rel =>
                    refine ⟨j + 1, rfl, by omega, by omega, by simp, ?_, rfl⟩
                    rw [Hid, hL.out, HD.out, List.takeWhile_cons, HU.out]; simp; omega
                | false =>
                  have HU := Lib.hid hU
                  have HZ := Lib.hid (show n = j by rw [hL.out, HD.out, List.takeWhile_cons, HU.out]; simp)
                  go_wp2_with fail
                  go_meet
                  exact ⟨by rw [HZ.out], rfl⟩
            · have gJ : decide ((j:Int) < (s.size:Int)) = false := by simp; omega
              have HZ := Lib.hid (show n = j by rw [hL.out, List.drop_of_length_le (by simp; omega)]; simp)
              go_wp2_with fail
              go_meet
              exact ⟨by rw [HZ.out], rfl⟩
        case rest =>
          obtain ⟨rfl, rfl⟩ := hcut
          by_cases hn0 : lab.length = 0
          · have HM := Lib.hid (HMF.out.1 hn0)
            have gE : decide ((k:Int) + 2 < (n:Int)) = false := by simp; omega
            have gE2 : decide (k + 2 < n) = false := by simp; omega
            have Hn := Lib.hid hn
            clear hn hn0
            go_wp2_with fail
            go_roundg (s.size - (k + 1))
            case measure => rw [HG.out]; omega
            case rel => exact ⟨k + 1, _, ev, rfl, by omega, by simp, rfl, hsz1, hfs, hT.out.plain hlt HM.out, hB⟩
          · have gE : decide ((k:Int) + 2 < (n:Int)) = true := by simp; omega
            have gE2 : decide (k + 2 < n) = true := by simp; omega
            by_cases hns : n < s.size
            · have gN : decide ((n:Int) < (s.size:Int)) = true := by simp; omega
              have gN2 : decide (n < s.size) = true := by simp; omega
              have HH := Lib.hid (show (s.data.toList.drop n).head? = some s[n] by rw [drop_byte s n hns]; rfl)
              have HV := Lib.hid (u8_beq s[n] 125)
              cases h125 : ((s[n].toNat : Int) == 125) with
              | false =>
                have HM := Lib.hid (HMF.out.2.1 (by rw [HH.out]; have := HV.out; rw [show ((125:UInt8).toNat : Int) = 125 from rfl, h125] at this; simpa using this.symm))
                have Hn := Lib.hid hn
                clear hn hn0
                go_wp2_with fail
                go_roundg (s.size - (k + 1))
                case measure => rw [HG.out]; omega
                case rel => exact ⟨k + 1, _, ev, rfl, by omega, by simp, rfl, hsz1, hfs, hT.out.plain hlt HM.out, hB⟩
              | true =>
                have HM := Lib.hid (HMF.out.2.2 (by omega) (by rw [HH.out]; have := HV.out; rw [show ((125:UInt8).toNat : Int) = 125 from rfl, h125] at this; simpa using this.symm))
                have Hn := Lib.hid hn
                have hnk : k + 3 ≤ n := by omega
                have hxs : (s.extract k (n + 1)).size = n + 1 - k := by simp [ByteArray.size_extract]; omega
                have HC := Lib.hid (fun (w' : World) (hw : FSt w' g1 g2 g4 b m l ev) (hBw' : B ≤ w'.heap.size) => marker_calls (s.extract k (n + 1)) ⟨lab.toArray⟩ l g1 g2 g4 b m B ev w' HOK.out (by rw [hxs]; omega) (by rw [hxs]; omega) (by rw [marker_in s k n hnk hns]; exact HLB.out) hw hT.out.ev hBg hBw')
                clear hn hn0 hxs
                go_wp2_with fail
                refine (HC.out _ hfs.out (Nat.le_trans hBw hB.out.size)).mono ?_
                rintro e w3 ⟨r, ev', rfl, hfs', hb', hr', hp'⟩
                have HFS := Lib.hid hfs'
                have HB3 := Lib.hid (hB.out.trans hb')
                have HP3 := Lib.hid hp'
                clear hfs' hb' hp'
                have haddr : A.size + r.size ≤ 9223372036854775807 := by omega
                go_wp2_with fail
                go_roundg (s.size - (n + 1))
                case measure => rw [HG.out]; omega
                case rel => exact ⟨n + 1, A ++ r, ev', rfl, by omega, by simp, rfl, by rw [ByteArray.size_append]; omega, HFS, hT.out.val HM.out Hn.out HP3.out, HB3⟩
            · have gN : decide ((n:Int) < (s.size:Int)) = false := by simp; omega
              have gN2 : decide (n < s.size) = false := by simp; omega
              have HM := Lib.hid (HMF.out.2.1 (by rw [List.drop_of_length_le (by simp; omega)]; rfl))
              have Hn := Lib.hid hn
              clear hn hn0
              go_wp2_with fail
              go_roundg (s.size - (k + 1))
              case measure => rw [HG.out]; omega
              case rel => exact ⟨k + 1, _, ev, rfl, by omega, by simp, rfl, hsz1, hfs, hT.out.plain hlt HM.out, hB⟩
    · have hks : k = s.size := by omega
      have HZ : Hid ((ev = .nilIface ∧ fmt (valOf l) s.data.toList = some A.data.toList) ∨ (IsErr ev ∧ fmt (valOf l) s.data.toList = none)) := by
        rcases hT.out with ⟨h1, h⟩ | h
        · refine .inl ⟨h1, ?_⟩
          rw [h, hks, List.drop_of_length_le (by simp), fmt_nil]; simp
        · exact .inr h
      clear hks HG
      go_wp2_with fail
      go_ret
      exact ⟨A, ev, rfl, hfs.out, hB.out, HZ.out⟩
end Go.Proofs.Ytmgkolcpomaceaa
