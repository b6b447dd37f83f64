/- spec.Harmless and FnHarmless. -/
import Derived.Test.YtmgkolcpomaceaaE3
namespace Go.Proofs.Ytmgkolcpomaceaa
open Go.RowKit
set_option linter.unusedVariables false
set_option linter.unusedSimpArgs false

def headOK (l : List UInt8) : Bool := l == [104, 116, 116, 112] || l == [104, 116, 116, 112, 115] || l == [109, 97, 105, 108, 116, 111] || l == [102, 116, 112] || l == [100, 97, 116, 97]
def harmScan (pre : List UInt8) : List UInt8 → Bool
  | [] => true
  | c :: l => if c = 47 ∨ c = 63 ∨ c = 35 then true else if c = 58 then headOK pre else harmScan (pre ++ [c]) l
theorem harm_end {pre l : List UInt8} {c : UInt8} (h : c = 47 ∨ c = 63 ∨ c = 35) : harmScan pre (c :: l) = true := by rw [harmScan, if_pos h]
theorem harm_colon {pre l : List UInt8} {c : UInt8} (h : c = 58) : harmScan pre (c :: l) = headOK pre := by subst h; rw [harmScan, if_neg (by decide), if_pos rfl]
theorem harm_on {pre l : List UInt8} {c : UInt8} (h1 : ¬ c = 47) (h2 : ¬ c = 63) (h3 : ¬ c = 35) (h4 : ¬ c = 58) : harmScan pre (c :: l) = harmScan (pre ++ [c]) l := by
  rw [harmScan, if_neg (by simp [h1, h2, h3]), if_neg h4]
def harmB (s : ByteArray) : Bool := harmScan [] (lowS s).data.toList
theorem headOK_cut (s : ByteArray) (k : Nat) : headOK (s.data.toList.take k) = headOK (s.extract 0 k).toList := by
  rw [ByteArray.toList_eq, Lib.extract_data]; simp

set_option maxHeartbeats 2000000 in
set_option maxRecDepth 100000 in
theorem harmless_calls (s : ByteArray) (w : World) (hs : s.size ≤ 2147483647) :
    Calls Try.prog 23 #[.string s] w fun e w' => e = .returned (.bool (harmB s)) ∧ Below w.heap.size w w' := by
  go_enter Try.func23, Try.ntmps23
  go_wp2_with fail
  refine (specLower_calls s _ hs).mono ?_
  rintro e w1 ⟨rfl, hb1⟩
  have hls : (lowS s).size ≤ 2147483647 := by rw [lowS_size]; exact hs
  have HD0 := Lib.hid (show harmB s = harmScan [] (lowS s).data.toList from rfl)
  have HB := Lib.hid hb1
  clear hb1
  generalize lowS s = t at hls HD0 ⊢
  go_wp2
  go_loop [4] (fun i => ∃ k : Nat, k ≤ t.size ∧ i = .int .i64 k ∧ Hid (harmB s = harmScan (t.data.toList.take k) (t.data.toList.drop k))) (fun i => t.size - (intOf i).toNat)
  case atStart => exact ⟨0, Nat.zero_le _, rfl, by rw [Hid, HD0.out]; simp⟩
  case round =>
    obtain ⟨k, hk, rfl, hp⟩ := hrel
    by_cases hlt : k < t.size
    · have HD := Lib.hid (drop_byte t k hlt)
      have HT := Lib.hid (take_succ_byte t k hlt)
      have h256 := toNat_lt_256 t[k]
      by_cases h47 : t[k] = 47
      · have g47 : ((t[k].toNat : Int) == 47) = true := eq_u8 _ _ h47
        have HE := Lib.hid (harm_end (pre := t.data.toList.take k) (l := t.data.toList.drop (k + 1)) (c := t[k]) (by simp [h47]))
        clear h47
        go_wp2
        go_ret
        exact ⟨ret_bool (by rw [hp.out, HD.out, HE.out]), HB.out⟩
      have g47 : ((t[k].toNat : Int) == 47) = false := ne_u8 _ _ h47
      have H47 := Lib.hid h47
      clear h47
      by_cases h63 : t[k] = 63
      · have g63 : ((t[k].toNat : Int) == 63) = true := eq_u8 _ _ h63
        have HE := Lib.hid (harm_end (pre := t.data.toList.take k) (l := t.data.toList.drop (k + 1)) (c := t[k]) (by simp [h63]))
        clear h63
        go_wp2
        go_ret
        exact ⟨ret_bool (by rw [hp.out, HD.out, HE.out]), HB.out⟩
      have g63 : ((t[k].toNat : Int) == 63) = false := ne_u8 _ _ h63
      have H63 := Lib.hid h63
      clear h63
      by_cases h35 : t[k] = 35
      · have g35 : ((t[k].toNat : Int) == 35) = true := eq_u8 _ _ h35
        have HE := Lib.hid (harm_end (pre := t.data.toList.take k) (l := t.data.toList.drop (k + 1)) (c := t[k]) (by simp [h35]))
        clear h35
        go_wp2
        go_ret
        exact ⟨ret_bool (by rw [hp.out, HD.out, HE.out]), HB.out⟩
      have g35 : ((t[k].toNat : Int) == 35) = false := ne_u8 _ _ h35
      have H35 := Lib.hid h35
      clear h35
      by_cases h58 : t[k] = 58
      · have g58 : ((t[k].toNat : Int) == 58) = true := eq_u8 _ _ h58
        have HE := Lib.hid (show harmB s = headOK (t.extract 0 k).toList by rw [hp.out, HD.out, harm_colon h58, headOK_cut])
        clear h58
        cases e0 : (t.extract 0 k).toList == [104, 116, 116, 112]
        case' true =>
          have HF := Lib.hid (show headOK (t.extract 0 k).toList = true by simp only [headOK, e0, Bool.or_true, Bool.true_or])
          go_wp2
          go_ret
          exact ⟨ret_bool (by rw [HE.out, HF.out]), HB.out⟩
        cases e1 : (t.extract 0 k).toList == [104, 116, 116, 112, 115]
        case' true =>
          have HF := Lib.hid (show headOK (t.extract 0 k).toList = true by simp only [headOK, e1, Bool.or_true, Bool.true_or])
          go_wp2
          go_ret
          exact ⟨ret_bool (by rw [HE.out, HF.out]), HB.out⟩
        cases e2 : (t.extract 0 k).toList == [109, 97, 105, 108, 116, 111]
        case' true =>
          have HF := Lib.hid (show headOK (t.extract 0 k).toList = true by simp only [headOK, e2, Bool.or_true, Bool.true_or])
          go_wp2
          go_ret
          exact ⟨ret_bool (by rw [HE.out, HF.out]), HB.out⟩
        cases e3 : (t.extract 0 k).toList == [102, 116, 112]
        case' true =>
          have HF := Lib.hid (show headOK (t.extract 0 k).toList = true by simp only [headOK, e3, Bool.or_true, Bool.true_or])
          go_wp2
          go_ret
          exact ⟨ret_bool (by rw [HE.out, HF.out]), HB.out⟩
        cases e4 : (t.extract 0 k).toList == [100, 97, 116, 97]
        case' true =>
          have HF := Lib.hid (show headOK (t.extract 0 k).toList = true by simp only [headOK, e4, Bool.or_true, Bool.true_or])
          go_wp2
          go_ret
          exact ⟨ret_bool (by rw [HE.out, HF.out]), HB.out⟩
        have HF := Lib.hid (show headOK (t.extract 0 k).toList = false by simp only [headOK, e0, e1, e2, e3, e4, Bool.or_false])
        go_wp2
        go_ret
        exact ⟨ret_bool (by rw [HE.out, HF.out]), HB.out⟩
      have g58 : ((t[k].toNat : Int) == 58) = false := ne_u8 _ _ h58
      have HE := Lib.hid (harm_on (pre := t.data.toList.take k) (l := t.data.toList.drop (k + 1)) H47.out H63.out H35.out h58)
      clear h58
      go_wp2
      go_round
      case rel => exact ⟨k + 1, by omega, by go_num, by rw [Hid, hp.out, HD.out, HE.out, HT.out]⟩
      case measure => simp [intOf]; omega
    · go_wp2
      go_ret
      exact ⟨ret_bool (by rw [hp.out, List.drop_eq_nil_of_le (by simp; omega)]; rfl), HB.out⟩

/- What is safe is harmless. -/
theorem harm_scan : ∀ (l pre : List UInt8), scanL l = true → harmScan pre l = true
  | [], _, _ => rfl
  | c :: l, pre, h => by
    by_cases h1 : c = 58
    · rw [scanL_colon h1] at h; simp at h
    · by_cases h2 : c = 47 ∨ c = 63 ∨ c = 35
      · exact harm_end h2
      · have h3 : ¬ c = 47 ∧ ¬ c = 63 ∧ ¬ c = 35 := by simpa using h2
        rw [scanL_on h1 h3.1 h3.2.1 h3.2.2] at h
        rw [harm_on h3.1 h3.2.1 h3.2.2 h1]
        exact harm_scan l _ h
theorem starts_split {l p : List UInt8} (h : startsL l p = true) : ∃ r, l = p ++ r := by
  obtain ⟨r, hr⟩ := List.isPrefixOf_iff_prefix.1 h
  exact ⟨r, hr.symm⟩
theorem harm_scheme {l : List UInt8} (h : ∃ p ∈ schemes, startsL l p.data.toList = true) : harmScan [] l = true := by
  obtain ⟨p, hp, h⟩ := h
  obtain ⟨r, rfl⟩ := starts_split h
  simp [schemes] at hp
  rcases hp with rfl | rfl | rfl | rfl <;> simp [harmScan, headOK]
theorem harm_data {l : List UInt8} (h : startsL l sData.data.toList = true) : harmScan [] l = true := by
  obtain ⟨r, rfl⟩ := starts_split h
  simp [sData, harmScan, headOK]
theorem harm_of_safe (s : ByteArray) (h : safeB s = true) : harmB s = true := by
  rw [safeB, safePatB, Bool.or_eq_true, Bool.or_eq_true] at h
  rcases h with (h | h) | h
  · rw [List.any_eq_true] at h
    exact harm_scheme h
  · exact harm_scan _ _ h
  · rw [Bool.and_eq_true, dataOK, Bool.and_eq_true] at h
    exact harm_data h.1.1

set_option maxHeartbeats 2000000 in
set_option maxRecDepth 100000 in
theorem fnHarmless_any (s : ByteArray) (w : World) (hs : s.size ≤ maxLen) :
    Calls Try.prog 5 #[.string s] w fun x w' => x = .returned (.bool true) ∧ Below w.heap.size w w' := by
  unfold maxLen at hs
  by_cases h1 : 2147483647 < s.size
  · have g1 : decide (2147483647 < (s.size : Int)) = true := decide_eq_true (by omega)
    have g2 : decide (2147483647 < s.size) = true := decide_eq_true (by omega)
    go_enter Try.func5, Try.ntmps5
    go_wp2
    go_ret
    exact ⟨rfl, Below.refl _ _⟩
  · have g1 : decide (2147483647 < (s.size : Int)) = false := decide_eq_false (by omega)
    have g2 : decide (2147483647 < s.size) = false := decide_eq_false (by omega)
    cases h2 : asciiB s && smallB s
    · have H2 := Lib.hid h2
      clear h2
      go_enter Try.func5, Try.ntmps5
      go_wp2_with fail
      refine (ascii_calls s _ (by omega)).mono ?_
      rintro e w1 ⟨rfl, rfl⟩
      have h2 := H2.out
      go_wp2
      go_ret
      exact ⟨rfl, Below.refl _ _⟩
    · have H2 := Lib.hid h2
      have HA := Lib.hid (show asciiB s = true by rw [Bool.and_eq_true] at h2; exact h2.1)
      have hsz : s.size ≤ 200 := by rw [Bool.and_eq_true] at h2; simpa [smallB] using h2.2
      clear h2
      cases h3 : safeB s
      · have HU := Lib.hid (show urlS s = innoc by rw [urlS, if_neg (by rw [h3]; simp)])
        clear h3
        go_enter Try.func5, Try.ntmps5
        go_wp2_with fail
        refine (ascii_calls s _ (by omega)).mono ?_
        rintro e w1 ⟨rfl, rfl⟩
        rw [H2.out]
        go_wp2_with fail
        refine (implURL_calls s _ hsz HA).mono ?_
        rw [HU.out]
        rintro e w1 ⟨rfl, hb1⟩
        have HI := Lib.hid (show innoc.toList = [97, 98, 111, 117, 116, 58, 105, 110, 118, 97, 108, 105, 100, 35, 122, 71, 111, 83, 97, 102, 101, 122] by rw [ByteArray.toList_eq]; rfl)
        have HI2 : (innoc.toList == [97, 98, 111, 117, 116, 58, 105, 110, 118, 97, 108, 105, 100, 35, 122, 71, 111, 83, 97, 102, 101, 122]) = true := by rw [HI.out]; rfl
        go_wp2
        go_ret
        exact ⟨rfl, hb1⟩
      · have HU := Lib.hid (show urlS s = s by rw [urlS, if_pos h3])
        have HM := Lib.hid (harm_of_safe s h3)
        clear h3
        go_enter Try.func5, Try.ntmps5
        go_wp2_with fail
        refine (ascii_calls s _ (by omega)).mono ?_
        rintro e w1 ⟨rfl, rfl⟩
        rw [H2.out]
        go_wp2_with fail
        refine (implURL_calls s _ hsz HA).mono ?_
        rw [HU.out]
        rintro e w1 ⟨rfl, hb1⟩
        cases h4 : s.toList == [97, 98, 111, 117, 116, 58, 105, 110, 118, 97, 108, 105, 100, 35, 122, 71, 111, 83, 97, 102, 101, 122]
        · go_wp2_with fail
          refine (harmless_calls s _ (by omega)).mono ?_
          rw [HM.out]
          rintro e w2 ⟨rfl, hb2⟩
          go_wp2_with fail
          refine (silent_calls _).mono ?_
          rintro e w3 ⟨rfl, hb3⟩
          go_wp2
          go_ret
          exact ⟨rfl, below_then hb1 hb1.size (below_then hb2 hb2.size hb3)⟩
        · go_wp2
          go_ret
          exact ⟨rfl, hb1⟩
end Go.Proofs.Ytmgkolcpomaceaa
