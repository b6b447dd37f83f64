/- Identifiers and prefixed identifiers: spec, the package, the thin package; FnIdentifier, FnPrefixed. -/
import Derived.Test.YtmgkolcpomaceaaF1
import Derived.Test.YtmgkolcpomaceaaE3
namespace Go.Proofs.Ytmgkolcpomaceaa
open Go.RowKit
set_option linter.unusedVariables false
set_option linter.unusedSimpArgs false

set_option maxHeartbeats 1000000 in
set_option maxRecDepth 100000 in
theorem specIdent_calls (s : ByteArray) (w : World) (hs : s.size ≤ 2147483647) :
    Calls Try.prog 27 #[.string s] w fun e w' => e = .returned (.bool (identB s)) ∧ w = w' := by
  by_cases h : 0 < s.size
  · have HL := Lib.hid (headLetter_some h)
    have h256 := toNat_lt_256 s[0]
    have ge : s.toList.isEmpty = false := by
      rw [ByteArray.toList_eq]
      cases e : s.data.toList with
      | nil => have hl : s.data.toList.length = s.size := by simp
               rw [e] at hl; simp at hl; omega
      | cons a l => rfl
    have ge2 : s.toList ≠ [] := by intro e; rw [e] at ge; simp at ge
    cases q1 : letterC s[0]
    · have HI := Lib.hid (show identB s = false by rw [identB, headLetter_some h, q1]; rfl)
      have Q1 := Lib.hid q1
      clear q1
      go_enter Try.func27, Try.ntmps27
      go_wp2_with fail
      refine (specLetter_calls s[0] _).mono ?_
      rintro e w' ⟨rfl, rfl⟩
      have q1 := Q1.out
      go_wp2
      go_ret
      exact ⟨ret_bool HI.out.symm, rfl⟩
    · have HI := Lib.hid (show identB s = namesB s by rw [identB, headLetter_some h, q1]; rfl)
      have Q1 := Lib.hid q1
      clear q1
      go_enter Try.func27, Try.ntmps27
      go_wp2_with fail
      refine (specLetter_calls s[0] _).mono ?_
      rintro e w' ⟨rfl, rfl⟩
      have q1 := Q1.out
      go_wp2_with fail
      refine (specNames_calls s _ hs).mono ?_
      rintro e w' ⟨rfl, rfl⟩
      go_wp2
      go_ret
      exact ⟨ret_bool HI.out.symm, rfl⟩
  · have HI := Lib.hid (show identB s = false by rw [identB, headLetter_empty h]; rfl)
    have ge : s.toList = [] := by
      rw [ByteArray.toList_eq]
      have hl : s.data.toList.length = s.size := by simp
      exact List.eq_nil_of_length_eq_zero (by omega)
    go_enter Try.func27, Try.ntmps27
    go_wp2
    go_ret
    exact ⟨ret_bool HI.out.symm, rfl⟩

/- The package's identifier. -/
set_option maxRecDepth 100000 in
theorem ident_ok (s : ByteArray) (w : World) (hs : s.size ≤ 2147483647) (h : Hid (identB s = true)) :
    Calls Try.prog 96 #[.string s] w fun x w' => x = .returned (.agg #[.string s]) ∧ Below w.heap.size w w' := by
  have H1 := Lib.hid (show headLetter s = true by have := h.out; rw [identB, Bool.and_eq_true] at this; exact this.1)
  have H2 := Lib.hid (show namesB s = true by have := h.out; rw [identB, Bool.and_eq_true] at this; exact this.2)
  go_enter Try.func96, Try.ntmps96
  go_wp2_with fail
  refine (startsAlpha_calls s _ hs).mono ?_
  rintro e w' ⟨rfl, rfl⟩
  have h1 := H1.out
  go_wp2_with fail
  refine (alnum_calls s _ hs).mono ?_
  rintro e w1 ⟨rfl, hb⟩
  have h2 := H2.out
  have hc := own_cell hb 0
  have hf := own_free hb 0
  have HB := Lib.hid hb
  clear hb
  simp at hc
  go_wp2
  refine bodyPost_ret (v := .agg #[.string s]) (by simp [results, Try.results96, go_sem, hc]) rfl ⟨rfl, ?_⟩
  exact (below_own HB.out).setCell (Nat.le_refl _) _
set_option maxRecDepth 100000 in
theorem ident_panics (s : ByteArray) (w : World) (hs : s.size ≤ 2147483647) (h : Hid (identB s = false)) :
    Calls Try.prog 96 #[.string s] w fun x w' => Pan x ∧ Below w.heap.size w w' := by
  cases h1 : headLetter s
  · have H1 := Lib.hid h1
    clear h1
    go_enter Try.func96, Try.ntmps96
    go_wp2_with fail
    refine (startsAlpha_calls s _ hs).mono ?_
    rintro e w' ⟨rfl, rfl⟩
    have h1 := H1.out
    go_wp2
    exact ⟨rfl, ⟨_, _, rfl⟩, (Below.refl _ _).alloc (Nat.le_refl _) _⟩
  · have H2 := Lib.hid (show namesB s = false by have := h.out; rw [identB, h1] at this; exact this)
    have H1 := Lib.hid h1
    clear h1
    go_enter Try.func96, Try.ntmps96
    go_wp2_with fail
    refine (startsAlpha_calls s _ hs).mono ?_
    rintro e w' ⟨rfl, rfl⟩
    have h1 := H1.out
    go_wp2_with fail
    refine (alnum_calls s _ hs).mono ?_
    rintro e w1 ⟨rfl, hb⟩
    have h2 := H2.out
    go_wp2
    exact ⟨rfl, ⟨_, _, rfl⟩, below_own hb⟩
set_option maxRecDepth 100000 in
theorem zzIdent_ok (s : ByteArray) (w : World) (hs : s.size ≤ 2147483647) (h : Hid (identB s = true)) :
    Calls Try.prog 64 #[.string s] w fun x w' => x = .returned (.agg #[.string s]) ∧ Below w.heap.size w w' := by
  go_enter Try.func64, Try.ntmps64
  go_wp2_with fail
  refine (ident_ok s _ hs h).mono ?_
  rintro e w1 ⟨rfl, hb⟩
  have hc := own_cell hb 0
  have hf := own_free hb 0
  have HB := Lib.hid hb
  clear hb
  simp at hc
  go_wp2
  refine bodyPost_ret (v := .agg #[.string s]) (by simp [results, Try.results64, go_sem, hc]) rfl ⟨rfl, ?_⟩
  exact (below_own HB.out).setCell (Nat.le_refl _) _
set_option maxRecDepth 100000 in
theorem zzIdent_panics (s : ByteArray) (w : World) (hs : s.size ≤ 2147483647) (h : Hid (identB s = false)) :
    Calls Try.prog 64 #[.string s] w fun x w' => Pan x ∧ Below w.heap.size w w' := by
  go_enter Try.func64, Try.ntmps64
  go_wp2_with fail
  refine (ident_panics s _ hs h).mono ?_
  rintro e w1 ⟨⟨T, v, rfl⟩, hb⟩
  go_wp2
  exact ⟨rfl, ⟨_, _, rfl⟩, below_own hb⟩
set_option maxRecDepth 100000 in
theorem identString_calls (s : ByteArray) (w : World) :
    Calls Try.prog 65 #[.agg #[.string s]] w fun x w' => x = .returned (.string s) ∧ Below w.heap.size w w' := by
  go_enter Try.func65, Try.ntmps65
  go_wp2
  go_ret
  exact ⟨rfl, (Below.refl _ _).alloc (Nat.le_refl _) _⟩
set_option maxRecDepth 100000 in
theorem ident1_ok (s : ByteArray) (p : Addr) (w : World) (hs : s.size ≤ 2147483647) (h : Hid (identB s = true)) (hc : w.cell? p = some (.string s)) :
    Calls Try.prog 63 #[.pointer (some p)] w fun x w' => x = .returned (.string s) ∧ Below w.heap.size w w' := by
  go_enter Try.func63, Try.ntmps63
  go_wp2_with fail
  refine (zzIdent_ok s _ hs h).mono ?_
  rintro e w1 ⟨rfl, hb⟩
  go_wp2_with fail
  refine (identString_calls s _).mono ?_
  rintro e w2 ⟨rfl, hb2⟩
  go_wp2
  go_ret
  exact ⟨rfl, below_then hb hb.size hb2⟩
set_option maxRecDepth 100000 in
theorem ident1_panics (s : ByteArray) (p : Addr) (w : World) (hs : s.size ≤ 2147483647) (h : Hid (identB s = false)) (hc : w.cell? p = some (.string s)) :
    Calls Try.prog 63 #[.pointer (some p)] w fun x w' => Pan x ∧ Below w.heap.size w w' := by
  go_enter Try.func63, Try.ntmps63
  go_wp2_with fail
  refine (zzIdent_panics s _ hs h).mono ?_
  rintro e w1 ⟨⟨T, v, rfl⟩, hb⟩
  go_wp2
  exact ⟨rfl, ⟨_, _, rfl⟩, hb⟩
set_option maxHeartbeats 400000 in
set_option maxRecDepth 100000 in
theorem implIdent_calls (s : ByteArray) (w : World) (hs : s.size ≤ 200) :
    Calls Try.prog 26 #[.string s] w fun x w' => x = .returned (if identB s then .tuple #[.string s, .bool true] else .tuple #[.string ⟨#[]⟩, .bool false]) ∧ Below w.heap.size w w' := by
  have hmf : ∀ (fn : Fn) (first cap : Array Value) (w : World), (Instr.makeFunc fn first cap).run Try.prog w = .ok (.func fn first cap) w := fun _ _ _ _ => rfl
  have H1 := Lib.hid (show smallB s = true by simp [smallB, hs])
  cases h2 : identB s
  · have H2 := Lib.hid h2
    clear h2
    go_enter Try.func26, Try.ntmps26
    go_wp2_with fail
    refine (isShort_one s _ _ _ (by exact strsAt_new _ _ [s] 9 (by simp))).mono ?_
    rintro e w' ⟨rfl, rfl⟩
    have h1 := H1.out
    go_wp2_with fail
    refine (told_panics 63 _ _ (fun _ _ => by simp [go_sem]) (fun w' hw' => ident1_panics s _ _ (by omega) H2 ?_)).mono ?_
    · rw [hw'.cell (by simp; omega)]; simp [go_sem]
    rintro e w' ⟨rfl, hb⟩
    go_wp2
    go_ret2
    exact ⟨rfl, (((Below.refl _ _).alloc (Nat.le_refl _) _).alloc (by simp) _).trans (hb.mono (by simp; omega))⟩
  · have H2 := Lib.hid h2
    clear h2
    go_enter Try.func26, Try.ntmps26
    go_wp2_with fail
    refine (isShort_one s _ _ _ (by exact strsAt_new _ _ [s] 9 (by simp))).mono ?_
    rintro e w' ⟨rfl, rfl⟩
    have h1 := H1.out
    go_wp2_with fail
    refine (told_tells 63 _ s _ (fun _ _ => by simp [go_sem]) (fun w' hw' => ident1_ok s _ _ (by omega) H2 ?_)).mono ?_
    · rw [hw'.cell (by simp; omega)]; simp [go_sem]
    rintro e w' ⟨rfl, hb⟩
    go_wp2
    go_ret2
    exact ⟨rfl, (((Below.refl _ _).alloc (Nat.le_refl _) _).alloc (by simp) _).trans (hb.mono (by simp; omega))⟩

set_option maxHeartbeats 2000000 in
set_option maxRecDepth 100000 in
theorem fnIdentifier_any (s : ByteArray) (w : World) (hs : s.size ≤ maxLen) :
    Calls Try.prog 7 #[.string s] w fun x w' => x = .returned (.bool true) ∧ Below w.heap.size w w' := by
  unfold maxLen at hs
  by_cases h1 : 2147483647 < s.size
  · have g1 : decide (2147483647 < (s.size : Int)) = true := decide_eq_true (by omega)
    have g2 : decide (2147483647 < s.size) = true := decide_eq_true (by omega)
    go_enter Try.func7, Try.ntmps7
    go_wp2
    go_ret
    exact ⟨rfl, Below.refl _ _⟩
  · have g1 : decide (2147483647 < (s.size : Int)) = false := decide_eq_false (by omega)
    have g2 : decide (2147483647 < s.size) = false := decide_eq_false (by omega)
    by_cases h2 : 200 < s.size
    · have g3 : decide (200 < (s.size : Int)) = true := decide_eq_true (by omega)
      have g4 : decide (200 < s.size) = true := decide_eq_true (by omega)
      go_enter Try.func7, Try.ntmps7
      go_wp2
      go_ret
      exact ⟨rfl, Below.refl _ _⟩
    · have g3 : decide (200 < (s.size : Int)) = false := decide_eq_false (by omega)
      have g4 : decide (200 < s.size) = false := decide_eq_false (by omega)
      have HI := Lib.hid (implIdent_calls s)
      cases h3 : identB s
      all_goals
        have H3 := Lib.hid h3
        clear h3
        go_enter Try.func7, Try.ntmps7
        go_wp2_with fail
        refine (HI.out _ (by omega)).mono ?_
        rw [H3.out]
        simp only [Bool.false_eq_true, if_true, if_false]
        rintro e w1 ⟨rfl, hb1⟩
        go_wp2_with fail
        refine (specIdent_calls s _ (by omega)).mono ?_
        rw [H3.out]
        rintro e w2 ⟨rfl, rfl⟩
        go_wp2_with fail
        refine (silent_calls _).mono ?_
        rintro e w3 ⟨rfl, hb3⟩
        go_wp2
        go_ret
        exact ⟨rfl, below_then hb1 hb1.size hb3⟩
end Go.Proofs.Ytmgkolcpomaceaa
