/- FnPrefixed. -/
import Derived.Test.YtmgkolcpomaceaaF2
namespace Go.Proofs.Ytmgkolcpomaceaa
open Go.RowKit
set_option linter.unusedVariables false
set_option linter.unusedSimpArgs false

def joinS (a b : ByteArray) : ByteArray := a ++ ⟨#[45]⟩ ++ b
def prefB (a b : ByteArray) : Bool := identB a && namesB b

set_option maxRecDepth 100000 in
theorem specPrefixed_calls (a b : ByteArray) (w : World) (ha : a.size ≤ 200) (hb : b.size ≤ 200) :
    Calls Try.prog 28 #[.string a, .string b] w fun e w' => e = .returned (.tuple #[.string (joinS a b), .bool (prefB a b)]) ∧ w = w' := by
  cases h : identB a
  · have HP := Lib.hid (show prefB a b = false by rw [prefB, h]; rfl)
    have H := Lib.hid h
    clear h
    go_enter Try.func28, Try.ntmps28
    go_wp2_with fail
    refine (specIdent_calls a _ (by omega)).mono ?_
    rw [H.out]
    rintro e w' ⟨rfl, rfl⟩
    go_wp2
    go_ret2
    exact ⟨by rw [HP.out]; rfl, rfl⟩
  · have HP := Lib.hid (show prefB a b = namesB b by rw [prefB, h]; rfl)
    have H := Lib.hid h
    clear h
    go_enter Try.func28, Try.ntmps28
    go_wp2_with fail
    refine (specIdent_calls a _ (by omega)).mono ?_
    rw [H.out]
    rintro e w' ⟨rfl, rfl⟩
    go_wp2_with fail
    refine (specNames_calls b _ (by omega)).mono ?_
    rintro e w' ⟨rfl, rfl⟩
    go_wp2
    go_ret2
    exact ⟨by rw [HP.out]; rfl, rfl⟩

set_option maxHeartbeats 400000 in
set_option maxRecDepth 100000 in
theorem identPre_ok (a b : ByteArray) (w : World) (ha : a.size ≤ 200) (hb : b.size ≤ 200) (h : Hid (prefB a b = true)) :
    Calls Try.prog 97 #[.string a, .string b] w fun x w' => x = .returned (.agg #[.string (joinS a b)]) ∧ Below w.heap.size w w' := by
  have H1 := Lib.hid (show headLetter a = true by have := h.out; simp only [prefB, identB, Bool.and_eq_true] at this; exact this.1.1)
  have H2 := Lib.hid (show namesB a = true by have := h.out; simp only [prefB, identB, Bool.and_eq_true] at this; exact this.1.2)
  have H3 := Lib.hid (show namesB b = true by have := h.out; simp only [prefB, identB, Bool.and_eq_true] at this; exact this.2)
  go_enter Try.func97, Try.ntmps97
  go_wp2_with fail
  refine (startsAlpha_calls a _ (by omega)).mono ?_
  rw [H1.out]
  rintro e w' ⟨rfl, rfl⟩
  go_wp2_with fail
  refine (alnum_calls a _ (by omega)).mono ?_
  rw [H2.out]
  rintro e w1 ⟨rfl, hb1⟩
  go_wp2_with fail
  refine (alnum_calls b _ (by omega)).mono ?_
  rw [H3.out]
  rintro e w2 ⟨rfl, hb2⟩
  have hc := own_cell (below_then hb1 (by have := hb1.size; simp at this ⊢; omega) hb2) 0
  have hf := own_free (below_then hb1 (by have := hb1.size; simp at this ⊢; omega) hb2) 0
  have HB := Lib.hid (below_own (below_then hb1 (by have := hb1.size; simp at this ⊢; omega) hb2))
  clear hb1 hb2
  simp at hc
  go_wp2
  refine bodyPost_ret (v := .agg #[.string (joinS a b)]) (by simp [results, Try.results97, go_sem, hc]; rfl) rfl ⟨rfl, ?_⟩
  exact HB.out.setCell (Nat.le_refl _) _
set_option maxHeartbeats 400000 in
set_option maxRecDepth 100000 in
theorem identPre_panics (a b : ByteArray) (w : World) (ha : a.size ≤ 200) (hb : b.size ≤ 200) (h : Hid (prefB a b = false)) :
    Calls Try.prog 97 #[.string a, .string b] w fun x w' => Pan x ∧ Below w.heap.size w w' := by
  cases h1 : headLetter a
  · have H1 := Lib.hid h1
    clear h1
    go_enter Try.func97, Try.ntmps97
    go_wp2_with fail
    refine (startsAlpha_calls a _ (by omega)).mono ?_
    rw [H1.out]
    rintro e w' ⟨rfl, rfl⟩
    go_wp2
    exact ⟨rfl, ⟨_, _, rfl⟩, (Below.refl _ _).alloc (Nat.le_refl _) _⟩
  · have H1 := Lib.hid h1
    cases h2 : namesB a
    · have H2 := Lib.hid h2
      clear h1 h2
      go_enter Try.func97, Try.ntmps97
      go_wp2_with fail
      refine (startsAlpha_calls a _ (by omega)).mono ?_
      rw [H1.out]
      rintro e w' ⟨rfl, rfl⟩
      go_wp2_with fail
      refine (alnum_calls a _ (by omega)).mono ?_
      rw [H2.out]
      rintro e w1 ⟨rfl, hb1⟩
      go_wp2
      exact ⟨rfl, ⟨_, _, rfl⟩, below_own hb1⟩
    · have H2 := Lib.hid h2
      have H3 := Lib.hid (show namesB b = false by have := h.out; rw [prefB, identB, h1, h2] at this; exact this)
      clear h1 h2
      go_enter Try.func97, Try.ntmps97
      go_wp2_with fail
      refine (startsAlpha_calls a _ (by omega)).mono ?_
      rw [H1.out]
      rintro e w' ⟨rfl, rfl⟩
      go_wp2_with fail
      refine (alnum_calls a _ (by omega)).mono ?_
      rw [H2.out]
      rintro e w1 ⟨rfl, hb1⟩
      go_wp2_with fail
      refine (alnum_calls b _ (by omega)).mono ?_
      rw [H3.out]
      rintro e w2 ⟨rfl, hb2⟩
      go_wp2
      exact ⟨rfl, ⟨_, _, rfl⟩, below_own (below_then hb1 (by have := hb1.size; simp at this ⊢; omega) hb2)⟩
set_option maxRecDepth 100000 in
theorem zzIdentPre_ok (a b : ByteArray) (w : World) (ha : a.size ≤ 200) (hb : b.size ≤ 200) (h : Hid (prefB a b = true)) :
    Calls Try.prog 69 #[.string a, .string b] w fun x w' => x = .returned (.agg #[.string (joinS a b)]) ∧ Below w.heap.size w w' := by
  go_enter Try.func69, Try.ntmps69
  go_wp2_with fail
  refine (identPre_ok a b _ ha hb h).mono ?_
  rintro e w1 ⟨rfl, hb⟩
  have hc := own_cell hb 0
  have hf := own_free hb 0
  have HB := Lib.hid hb
  clear hb
  simp at hc
  go_wp2
  refine bodyPost_ret (v := .agg #[.string (joinS a b)]) (by simp [results, Try.results69, go_sem, hc]) rfl ⟨rfl, ?_⟩
  exact (below_own HB.out).setCell (Nat.le_refl _) _
set_option maxRecDepth 100000 in
theorem zzIdentPre_panics (a b : ByteArray) (w : World) (ha : a.size ≤ 200) (hb : b.size ≤ 200) (h : Hid (prefB a b = false)) :
    Calls Try.prog 69 #[.string a, .string b] w fun x w' => Pan x ∧ Below w.heap.size w w' := by
  go_enter Try.func69, Try.ntmps69
  go_wp2_with fail
  refine (identPre_panics a b _ ha hb h).mono ?_
  rintro e w1 ⟨⟨T, v, rfl⟩, hb⟩
  go_wp2
  exact ⟨rfl, ⟨_, _, rfl⟩, below_own hb⟩
set_option maxRecDepth 100000 in
theorem pre1_ok (a b : ByteArray) (p q : Addr) (w : World) (ha : a.size ≤ 200) (hb : b.size ≤ 200) (h : Hid (prefB a b = true)) (hc : w.cell? p = some (.string a)) (hd : w.cell? q = some (.string b)) :
    Calls Try.prog 68 #[.pointer (some p), .pointer (some q)] w fun x w' => x = .returned (.string (joinS a b)) ∧ Below w.heap.size w w' := by
  go_enter Try.func68, Try.ntmps68
  go_wp2_with fail
  refine (zzIdentPre_ok a b _ ha hb h).mono ?_
  rintro e w1 ⟨rfl, hb⟩
  go_wp2_with fail
  refine (identString_calls _ _).mono ?_
  rintro e w2 ⟨rfl, hb2⟩
  go_wp2
  go_ret
  exact ⟨rfl, below_then hb hb.size hb2⟩
set_option maxRecDepth 100000 in
theorem pre1_panics (a b : ByteArray) (p q : Addr) (w : World) (ha : a.size ≤ 200) (hb : b.size ≤ 200) (h : Hid (prefB a b = false)) (hc : w.cell? p = some (.string a)) (hd : w.cell? q = some (.string b)) :
    Calls Try.prog 68 #[.pointer (some p), .pointer (some q)] w fun x w' => Pan x ∧ Below w.heap.size w w' := by
  go_enter Try.func68, Try.ntmps68
  go_wp2_with fail
  refine (zzIdentPre_panics a b _ ha hb h).mono ?_
  rintro e w1 ⟨⟨T, v, rfl⟩, hb⟩
  go_wp2
  exact ⟨rfl, ⟨_, _, rfl⟩, hb⟩
set_option maxHeartbeats 400000 in
set_option maxRecDepth 100000 in
theorem implPrefixed_calls (a b : ByteArray) (w : World) (ha : a.size ≤ 200) (hb : b.size ≤ 200) :
    Calls Try.prog 29 #[.string a, .string b] w fun x w' => x = .returned (if prefB a b then .tuple #[.string (joinS a b), .bool true] else .tuple #[.string ⟨#[]⟩, .bool false]) ∧ Below w.heap.size w w' := by
  have hmf : ∀ (fn : Fn) (first cap : Array Value) (w : World), (Instr.makeFunc fn first cap).run Try.prog w = .ok (.func fn first cap) w := fun _ _ _ _ => rfl
  have H1 := Lib.hid (show (smallB a && smallB b) = true by simp [smallB, ha, hb])
  cases h2 : prefB a b
  · have H2 := Lib.hid h2
    clear h2
    go_enter Try.func29, Try.ntmps29
    go_wp2_with fail
    refine (isShort_two a b _ _ _ (by exact strsAt_new _ _ [a, b] 9 (by simp))).mono ?_
    rw [H1.out]
    rintro e w' ⟨rfl, rfl⟩
    go_wp2_with fail
    refine (told_panics 68 _ _ (fun _ _ => by simp [go_sem]) (fun w' hw' => pre1_panics a b _ _ _ ha hb H2 ?_ ?_)).mono ?_
    · rw [hw'.cell (by simp <;> omega)]; simp [go_sem]
    · rw [hw'.cell (by simp <;> omega)]; simp [go_sem]
    rintro e w' ⟨rfl, hb⟩
    go_wp2
    go_ret2
    exact ⟨rfl, ((((Below.refl _ _).alloc (Nat.le_refl _) _).alloc (by simp) _).alloc (by simp; omega) _).trans (hb.mono (by simp; omega))⟩
  · have H2 := Lib.hid h2
    clear h2
    go_enter Try.func29, Try.ntmps29
    go_wp2_with fail
    refine (isShort_two a b _ _ _ (by exact strsAt_new _ _ [a, b] 9 (by simp))).mono ?_
    rw [H1.out]
    rintro e w' ⟨rfl, rfl⟩
    go_wp2_with fail
    refine (told_tells 68 _ (joinS a b) _ (fun _ _ => by simp [go_sem]) (fun w' hw' => pre1_ok a b _ _ _ ha hb H2 ?_ ?_)).mono ?_
    · rw [hw'.cell (by simp <;> omega)]; simp [go_sem]
    · rw [hw'.cell (by simp <;> omega)]; simp [go_sem]
    rintro e w' ⟨rfl, hb⟩
    go_wp2
    go_ret2
    exact ⟨rfl, ((((Below.refl _ _).alloc (Nat.le_refl _) _).alloc (by simp) _).alloc (by simp; omega) _).trans (hb.mono (by simp; omega))⟩

set_option maxHeartbeats 4000000 in
set_option maxRecDepth 100000 in
theorem fnPrefixed_any (a b : ByteArray) (w : World) (ha : a.size ≤ maxLen) (hb : b.size ≤ maxLen) :
    Calls Try.prog 8 #[.string a, .string b] w fun x w' => x = .returned (.bool true) ∧ Below w.heap.size w w' := by
  unfold maxLen at ha hb
  by_cases h1 : 2147483647 < a.size
  · have g1 : decide (2147483647 < (a.size : Int)) = true := decide_eq_true (by omega)
    have g2 : decide (2147483647 < a.size) = true := decide_eq_true (by omega)
    go_enter Try.func8, Try.ntmps8
    go_wp2
    go_ret
    exact ⟨rfl, Below.refl _ _⟩
  have g1 : decide (2147483647 < (a.size : Int)) = false := decide_eq_false (by omega)
  have g2 : decide (2147483647 < a.size) = false := decide_eq_false (by omega)
  by_cases h2 : 2147483647 < b.size
  · have g3 : decide (2147483647 < (b.size : Int)) = true := decide_eq_true (by omega)
    have g4 : decide (2147483647 < b.size) = true := decide_eq_true (by omega)
    go_enter Try.func8, Try.ntmps8
    go_wp2
    go_ret
    exact ⟨rfl, Below.refl _ _⟩
  have g3 : decide (2147483647 < (b.size : Int)) = false := decide_eq_false (by omega)
  have g4 : decide (2147483647 < b.size) = false := decide_eq_false (by omega)
  by_cases h3 : 200 < a.size
  · have g5 : decide (200 < (a.size : Int)) = true := decide_eq_true (by omega)
    have g6 : decide (200 < a.size) = true := decide_eq_true (by omega)
    go_enter Try.func8, Try.ntmps8
    go_wp2
    go_ret
    exact ⟨rfl, Below.refl _ _⟩
  have g5 : decide (200 < (a.size : Int)) = false := decide_eq_false (by omega)
  have g6 : decide (200 < a.size) = false := decide_eq_false (by omega)
  by_cases h4 : 200 < b.size
  · have g7 : decide (200 < (b.size : Int)) = true := decide_eq_true (by omega)
    have g8 : decide (200 < b.size) = true := decide_eq_true (by omega)
    go_enter Try.func8, Try.ntmps8
    go_wp2
    go_ret
    exact ⟨rfl, Below.refl _ _⟩
  have g7 : decide (200 < (b.size : Int)) = false := decide_eq_false (by omega)
  have g8 : decide (200 < b.size) = false := decide_eq_false (by omega)
  have HI := Lib.hid (implPrefixed_calls a b)
  cases h5 : prefB a b
  all_goals
    have H5 := Lib.hid h5
    clear h5
    go_enter Try.func8, Try.ntmps8
    go_wp2_with fail
    refine (specPrefixed_calls a b _ (by omega) (by omega)).mono ?_
    rw [H5.out]
    rintro e w2 ⟨rfl, rfl⟩
    go_wp2_with fail
    refine (HI.out _ (by omega) (by omega)).mono ?_
    rw [H5.out]
    simp only [Bool.false_eq_true, if_true, if_false]
    rintro e w1 ⟨rfl, hb1⟩
    go_wp2_with fail
    refine (silent_calls _).mono ?_
    rintro e w3 ⟨rfl, hb3⟩
    go_wp2
    go_ret
    exact ⟨rfl, below_then hb1 hb1.size hb3⟩
end Go.Proofs.Ytmgkolcpomaceaa
