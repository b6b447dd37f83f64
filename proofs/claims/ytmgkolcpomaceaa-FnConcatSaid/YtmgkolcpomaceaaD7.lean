/- impl.Escaped and FnEscaped: the walks. -/
import Derived.Test.YtmgkolcpomaceaaD6
namespace Go.Proofs.Ytmgkolcpomaceaa
open Go.RowKit
set_option linter.unusedVariables false
set_option linter.unusedSimpArgs false

/-- A text as HTML. -/
def htmlS (s : ByteArray) : ByteArray := ⟨((runesAt s 0).flatMap pieceR).toArray⟩
theorem htmlS_eq (s : ByteArray) : (⟨(escL (runesBytes ((runesAt s 0).map fixR)).data.toList).toArray⟩ : ByteArray) = htmlS s := by
  rw [sides_eq _ (runesAt_nonneg s s.size 0 (by simp))]; rfl
theorem htmlS_plain (s : ByteArray) : plainL (htmlS s).data.toList = true := by
  rw [← htmlS_eq]; exact plainL_escL _
theorem htmlS_size (s : ByteArray) : (htmlS s).size ≤ 5 * s.size := by
  have h1 := runesAt_len s s.size 0 (by simp)
  have h2 := pieces_len (runesAt s 0)
  have : (htmlS s).size = ((runesAt s 0).flatMap pieceR).length := by simp [htmlS, ByteArray.size]
  rw [this]; omega

set_option maxRecDepth 100000 in
theorem escCoerce_calls (s : ByteArray) (w : World) (hs : s.size ≤ 200) :
    Calls Try.prog 93 #[.string s] w fun e w' => e = .returned (.string (htmlS s)) ∧ Below w.heap.size w w' := by
  go_enter Try.func93, Try.ntmps93
  go_wp2_with fail
  refine (coerce_calls s _ (by omega)).mono ?_
  rintro e w1 ⟨rfl, hb⟩
  go_wp2_with fail
  refine (zzEscape_calls _ _ ?_).mono ?_
  · have h1 := runesAt_len s s.size 0 (by simp)
    have h2 := runesBytes_size_le ((runesAt s 0).map fixR)
    rw [List.length_map] at h2
    omega
  rintro e w2 ⟨rfl, hb2⟩
  go_wp2
  go_ret
  exact ⟨ret_string (htmlS_eq s), below_then hb hb.size hb2⟩

set_option maxRecDepth 100000 in
theorem htmlEscaped_calls (s : ByteArray) (w : World) (hs : s.size ≤ 200) :
    Calls Try.prog 55 #[.string s] w fun e w' => e = .returned (.agg #[.string (htmlS s)]) ∧ Below w.heap.size w w' := by
  go_enter Try.func55, Try.ntmps55
  go_wp2_with fail
  refine (escCoerce_calls s _ hs).mono ?_
  rintro e w1 ⟨rfl, hb⟩
  have hc := own_cell hb 0
  have hf := own_free hb 0
  have HB := Lib.hid hb
  clear hb
  simp at hc
  go_wp2
  refine bodyPost_ret (v := .agg #[.string (htmlS s)]) (by simp [results, Try.results55, go_sem, hc]) rfl ⟨rfl, ?_⟩
  exact (below_own HB.out).setCell (Nat.le_refl _) _
set_option maxRecDepth 100000 in
theorem htmlString_calls (s : ByteArray) (w : World) :
    Calls Try.prog 56 #[.agg #[.string s]] w fun x w' => x = .returned (.string s) ∧ Below w.heap.size w w' := by
  go_enter Try.func56, Try.ntmps56
  go_wp2
  go_ret
  exact ⟨rfl, (Below.refl _ _).alloc (Nat.le_refl _) _⟩
set_option maxRecDepth 100000 in
theorem implEscaped_calls (s : ByteArray) (w : World) (hs : s.size ≤ 200) :
    Calls Try.prog 18 #[.string s] w fun x w' => x = .returned (.string (htmlS s)) ∧ Below w.heap.size w w' := by
  have h1 : smallB s = true := by simp [smallB, hs]
  have H1 := Lib.hid h1
  clear h1
  go_enter Try.func18, Try.ntmps18
  go_wp2_with fail
  refine (isShort_one s _ _ _ (by exact strsAt_new _ _ [s] 9 (by simp))).mono ?_
  rintro e w' ⟨rfl, rfl⟩
  have h1 := H1.out
  go_wp2_with fail
  refine (htmlEscaped_calls s _ hs).mono ?_
  rintro e w1 ⟨rfl, hb⟩
  go_wp2_with fail
  refine (htmlString_calls _ _).mono ?_
  rintro e w2 ⟨rfl, hb2⟩
  go_wp2
  go_ret
  exact ⟨rfl, below_then (below_own hb) (below_own hb).size hb2⟩

theorem specEscaped_html (s : ByteArray) (w : World) (hs : s.size ≤ 2147483647) :
    Calls Try.prog 19 #[.string s] w fun e w' => e = .returned (.string (htmlS s)) ∧ Below w.heap.size w w' := specEscaped_calls s w hs
theorem plain_html (s : ByteArray) (w : World) (hs : s.size ≤ 200) :
    Calls Try.prog 20 #[.string (htmlS s)] w fun e w' => e = .returned (.bool true) ∧ Below w.heap.size w w' := by
  have := plain_calls (htmlS s) w (by have := htmlS_size s; omega)
  rw [htmlS_plain] at this
  exact this
theorem htmlS_lt : htmlS ⟨#[60]⟩ = ⟨#[38, 108, 116, 59]⟩ := by
  have e1 : Utf8.decode ⟨#[60]⟩ 0 = (60, 1) := by decide
  rw [htmlS, runesAt_cons _ _ (by decide), e1, runesAt_end _ _ (by decide)]
  rfl

set_option maxHeartbeats 1000000 in
set_option maxRecDepth 100000 in
theorem fnEscaped_any (s : ByteArray) (w : World) (hs : s.size ≤ maxLen) :
    Calls Try.prog 4 #[.string s] w fun x w' => x = .returned (.bool true) ∧ Below w.heap.size w w' := by
  unfold maxLen at hs
  by_cases h1 : 2147483647 < s.size
  · have g1 : decide (2147483647 < (s.size : Int)) = true := by simp; omega
    have g2 : decide (2147483647 < s.size) = true := by simp; omega
    go_enter Try.func4, Try.ntmps4
    go_wp2
    go_ret
    exact ⟨rfl, Below.refl _ _⟩
  · have g1 : decide (2147483647 < (s.size : Int)) = false := by simp; omega
    have g2 : decide (2147483647 < s.size) = false := by simp; omega
    by_cases h2 : 200 < s.size
    · have g3 : decide (200 < (s.size : Int)) = true := by simp; omega
      have g4 : decide (200 < s.size) = true := by simp; omega
      go_enter Try.func4, Try.ntmps4
      go_wp2
      go_ret
      exact ⟨rfl, Below.refl _ _⟩
    · have g3 : decide (200 < (s.size : Int)) = false := by simp; omega
      have g4 : decide (200 < s.size) = false := by simp; omega
      go_enter Try.func4, Try.ntmps4
      go_wp2_with fail
      refine (implEscaped_calls s _ (by omega)).mono ?_
      rintro e w1 ⟨rfl, hb⟩
      go_wp2_with fail
      refine (specEscaped_html s _ (by omega)).mono ?_
      rintro e w2 ⟨rfl, hb2⟩
      go_wp2_with fail
      refine (plain_html s _ (by omega)).mono ?_
      rintro e w3 ⟨rfl, hb3⟩
      go_wp2_with fail
      refine (implEscaped_calls ⟨#[60]⟩ _ (by decide)).mono ?_
      rw [htmlS_lt]
      rintro e w4 ⟨rfl, hb4⟩
      go_wp2
      go_ret
      exact ⟨rfl, below_then hb hb.size (below_then hb2 hb2.size (below_then hb3 hb3.size hb4))⟩
end Go.Proofs.Ytmgkolcpomaceaa
