/- isSafeURL, URLSanitized, impl.URL, silent; spec.Ascii. -/
import Derived.Test.YtmgkolcpomaceaaE2
namespace Go.Proofs.Ytmgkolcpomaceaa
open Go.RowKit
set_option linter.unusedVariables false
set_option linter.unusedSimpArgs false

def mimeL (l : List UInt8) : Bool := mimes.any fun m => l == m
theorem mimeB_eq (s : ByteArray) : mimeB s = mimeL s.data.toList := by rw [mimeB, ByteArray.toList_eq]; rfl
def safeB (s : ByteArray) : Bool := safePatB (lowS s) || (dataOK (lowS s) && mimeL (dataM (lowS s).data.toList))
def innoc : ByteArray := ⟨#[97, 98, 111, 117, 116, 58, 105, 110, 118, 97, 108, 105, 100, 35, 122, 71, 111, 83, 97, 102, 101, 122]⟩
def urlS (s : ByteArray) : ByteArray := if safeB s then s else innoc

set_option maxHeartbeats 1000000 in
set_option maxRecDepth 100000 in
theorem isSafe_calls (s : ByteArray) (w : World) (hs : s.size ≤ 2147483647) :
    Calls Try.prog 94 #[.string s] w fun e w' => e = .returned (.bool (safeB s)) ∧ Below w.heap.size w w' := by
  have hls : (lowS s).size ≤ 2147483647 := by rw [lowS_size]; exact hs
  cases h1 : safePatB (lowS s)
  · have HS := Lib.hid (show safeB s = (dataOK (lowS s) && mimeL (dataM (lowS s).data.toList)) by rw [safeB, h1]; rfl)
    have H1 := Lib.hid h1
    clear h1
    cases h2 : dataOK (lowS s)
    · have H2 := Lib.hid h2
      clear h2
      go_enter Try.func94, Try.ntmps94
      go_wp2_with fail
      refine (zzLower_calls s _ hs).mono ?_
      rintro e w1 ⟨rfl, hb1⟩
      go_wp2_with fail
      refine (safePat_calls _ _ hls).mono ?_
      rintro e w2 ⟨rfl, hb2⟩
      have h1 := H1.out
      go_wp2_with fail
      refine (dataURL_calls _ _ hls).mono ?_
      rintro e w3 ⟨m, b, rfl, hb, hm, hb3⟩
      have HB := Lib.hid (below_then hb1 hb1.size (below_then hb2 hb2.size hb3))
      rw [H2.out] at hb
      subst hb
      clear hb1 hb2 hb3 hm
      go_wp2
      go_ret
      exact ⟨ret_bool (by rw [HS.out, H2.out]; rfl), HB.out⟩
    · have H2 := Lib.hid h2
      clear h2
      go_enter Try.func94, Try.ntmps94
      go_wp2_with fail
      refine (zzLower_calls s _ hs).mono ?_
      rintro e w1 ⟨rfl, hb1⟩
      go_wp2_with fail
      refine (safePat_calls _ _ hls).mono ?_
      rintro e w2 ⟨rfl, hb2⟩
      have h1 := H1.out
      go_wp2_with fail
      refine (dataURL_calls _ _ hls).mono ?_
      rintro e w3 ⟨m, b, rfl, hb, hm, hb3⟩
      have HB := Lib.hid (below_then hb1 hb1.size (below_then hb2 hb2.size hb3))
      rw [H2.out] at hb
      subst hb
      have HM := Lib.hid (hm rfl)
      clear hb1 hb2 hb3 hm
      go_wp2_with fail
      refine (mime_calls m _).mono ?_
      rintro e w4 ⟨rfl, rfl⟩
      go_wp2
      go_ret
      exact ⟨ret_bool (by rw [HS.out, H2.out, mimeB_eq, HM.out]; rfl), HB.out⟩
  · have HS := Lib.hid (show safeB s = true by rw [safeB, h1]; rfl)
    have H1 := Lib.hid h1
    clear h1
    go_enter Try.func94, Try.ntmps94
    go_wp2_with fail
    refine (zzLower_calls s _ hs).mono ?_
    rintro e w1 ⟨rfl, hb1⟩
    go_wp2_with fail
    refine (safePat_calls _ _ hls).mono ?_
    rintro e w2 ⟨rfl, hb2⟩
    have h1 := H1.out
    have HB := Lib.hid (below_then hb1 hb1.size hb2)
    clear hb1 hb2
    go_wp2
    go_ret
    exact ⟨ret_bool HS.out.symm, HB.out⟩

set_option maxRecDepth 100000 in
theorem urlSanitized_calls (s : ByteArray) (w : World) (hs : s.size ≤ 2147483647) :
    Calls Try.prog 59 #[.string s] w fun e w' => e = .returned (.agg #[.string (urlS s)]) ∧ Below w.heap.size w w' := by
  cases h1 : safeB s
  · have HS := Lib.hid (show urlS s = innoc by rw [urlS, if_neg (by rw [h1]; simp)])
    have H1 := Lib.hid h1
    clear h1
    go_enter Try.func59, Try.ntmps59
    go_wp2_with fail
    refine (isSafe_calls s _ hs).mono ?_
    rintro e w1 ⟨rfl, hb⟩
    have h1 := H1.out
    have hc := own_cell hb 0
    have hf := own_free hb 0
    have HB := Lib.hid hb
    clear hb
    simp at hc
    go_wp2
    refine bodyPost_ret (v := .agg #[.string innoc]) (by simp [results, Try.results59, go_sem, hc]; rfl) rfl ⟨by rw [HS.out], ?_⟩
    exact (below_own HB.out).setCell (Nat.le_refl _) _
  · have HS := Lib.hid (show urlS s = s by rw [urlS, if_pos h1])
    have H1 := Lib.hid h1
    clear h1
    go_enter Try.func59, Try.ntmps59
    go_wp2_with fail
    refine (isSafe_calls s _ hs).mono ?_
    rintro e w1 ⟨rfl, hb⟩
    have h1 := H1.out
    have hc := own_cell hb 0
    have hf := own_free hb 0
    have HB := Lib.hid hb
    clear hb
    simp at hc
    go_wp2
    refine bodyPost_ret (v := .agg #[.string s]) (by simp [results, Try.results59, go_sem, hc]) rfl ⟨by rw [HS.out], ?_⟩
    exact (below_own HB.out).setCell (Nat.le_refl _) _
set_option maxRecDepth 100000 in
theorem urlString_calls (s : ByteArray) (w : World) :
    Calls Try.prog 60 #[.agg #[.string s]] w fun x w' => x = .returned (.string s) ∧ Below w.heap.size w w' := by
  go_enter Try.func60, Try.ntmps60
  go_wp2
  go_ret
  exact ⟨rfl, (Below.refl _ _).alloc (Nat.le_refl _) _⟩
set_option maxRecDepth 100000 in
theorem implURL_calls (s : ByteArray) (w : World) (hs : s.size ≤ 200) (ha : Hid (asciiB s = true)) :
    Calls Try.prog 22 #[.string s] w fun x w' => x = .returned (.string (urlS s)) ∧ Below w.heap.size w w' := by
  have HP := Lib.hid (show (asciiB s && smallB s) = true by rw [ha.out]; simp [smallB, hs])
  go_enter Try.func22, Try.ntmps22
  go_wp2_with fail
  refine (isPlain_one s _ _ _ (by exact strsAt_new _ _ [s] 9 (by simp)) (by omega)).mono ?_
  rintro e w' ⟨rfl, rfl⟩
  rw [HP.out]
  go_wp2_with fail
  refine (urlSanitized_calls s _ (by omega)).mono ?_
  rintro e w1 ⟨rfl, hb⟩
  go_wp2_with fail
  refine (urlString_calls _ _).mono ?_
  rintro e w2 ⟨rfl, hb2⟩
  go_wp2
  go_ret
  exact ⟨rfl, below_then (below_own hb) (below_own hb).size hb2⟩
theorem urlS_a : urlS ⟨#[97]⟩ = ⟨#[97]⟩ := by
  rw [urlS, if_pos]; decide
set_option maxRecDepth 100000 in
theorem silent_calls (w : World) : Calls Try.prog 24 #[] w fun x w' => x = .returned (.bool false) ∧ Below w.heap.size w w' := by
  go_enter Try.func24, Try.ntmps24
  go_wp2_with fail
  refine (implURL_calls ⟨#[97]⟩ _ (by decide) (show asciiB ⟨#[97]⟩ = true by decide)).mono ?_
  rw [urlS_a]
  rintro e w1 ⟨rfl, hb⟩
  go_wp2
  go_ret
  exact ⟨rfl, hb⟩

set_option maxHeartbeats 400000 in
set_option maxRecDepth 100000 in
theorem ascii_calls (s : ByteArray) (w : World) (hs : s.size ≤ 2147483647) :
    Calls Try.prog 21 #[.string s, .int .i64 200] w fun e w' => e = .returned (.bool (asciiB s && smallB s)) ∧ w = w' := by
  go_enter Try.func21, Try.ntmps21
  go_wp2
  go_loop [5] (fun i => ∃ k : Nat, k ≤ s.size ∧ i = .int .i64 k ∧ Hid ((s.data.toList.take k).all asciiC = true)) (fun i => s.size - (intOf i).toNat)
  case atStart => exact ⟨0, Nat.zero_le _, rfl, by simp [Hid]⟩
  case round =>
    obtain ⟨k, hk, rfl, ha⟩ := hrel
    by_cases hlt : k < s.size
    · have H := Lib.hid (all_take_succ (p := asciiC) s k hlt)
      by_cases h1 : 127 < s[k].toNat
      · have g1 : decide (128 ≤ (s[k].toNat : Int)) = true := decide_eq_true (by omega)
        go_wp2
        go_ret
        exact ⟨ret_bool (by rw [asciiB, all_false_of s k hlt (by simp [asciiC]; omega)]; rfl), rfl⟩
      · have g1 : decide (128 ≤ (s[k].toNat : Int)) = false := decide_eq_false (by omega)
        go_wp2
        go_round
        case rel => exact ⟨k + 1, by omega, by go_num, by rw [Hid, H.out, ha.out]; simp [asciiC]; omega⟩
        case measure => simp [intOf]; omega
    · have HA := Lib.hid (all_of_take s k (by omega) ha.out)
      cases h2 : smallB s
      · have g1 : decide ((s.size : Int) ≤ 200) = false := decide_eq_false (by simp [smallB] at h2; omega)
        have g2 : decide (s.size ≤ 200) = false := decide_eq_false (by simp [smallB] at h2; omega)
        have H2 := Lib.hid h2
        clear h2
        go_wp2
        go_ret
        exact ⟨ret_bool (by rw [asciiB, HA.out, H2.out]; rfl), rfl⟩
      · have g1 : decide ((s.size : Int) ≤ 200) = true := decide_eq_true (by simp [smallB] at h2; omega)
        have g2 : decide (s.size ≤ 200) = true := decide_eq_true (by simp [smallB] at h2; omega)
        have H2 := Lib.hid h2
        clear h2
        go_wp2
        go_ret
        exact ⟨ret_bool (by rw [asciiB, HA.out, H2.out]; rfl), rfl⟩
end Go.Proofs.Ytmgkolcpomaceaa
