/- rightShift f86: what its loops keep, plainly; and how far floatBits can shift. -/
import Derived.Test.YtlpkdagdfopchaaGreatDoorG6
namespace Go.Proofs.YtlpkdagdfopchaaGreatDoor
open Go.RowKit
set_option linter.unusedVariables false
set_option linter.unusedSimpArgs false

/-- A decimal that is not 0, its digits digits, the first not 0. -/
structure DecOK (w : World) (C : Nat) (f : Nat → Nat) (nd : Nat) (dp : Int) : Prop where
  dec : DecAt w C f nd dp
  one : 1 ≤ nd
  max : nd ≤ 800
  dig : IsDig f nd
  first : 49 ≤ f 0

/-- The number of the first r digits; behind the last one there are noughts. -/
def hv (f : Nat → Nat) (nd : Nat) : Nat → Nat
  | 0 => 0
  | r + 1 => hv f nd r * 10 + (if r < nd then f r - 48 else 0)
theorem hv_in (f : Nat → Nat) {nd r : Nat} (h : r < nd) : hv f nd (r + 1) = hv f nd r * 10 + (f r - 48) := by rw [hv, if_pos h]
theorem hv_out (f : Nat → Nat) {nd r : Nat} (h : ¬ r < nd) : hv f nd (r + 1) = hv f nd r * 10 := by rw [hv, if_neg h, Nat.add_zero]
theorem hv_lt {f : Nat → Nat} {nd : Nat} (hf : IsDig f nd) : ∀ r, hv f nd r < 10 ^ r
  | 0 => by simp [hv]
  | r + 1 => by
    have ih := hv_lt hf r
    rw [Nat.pow_succ]
    by_cases h : r < nd
    · have := hf r h
      rw [hv_in f h]; omega
    · rw [hv_out f h]; omega
theorem hv_ge {f : Nat → Nat} {nd : Nat} (h1 : 1 ≤ nd) (h0 : 49 ≤ f 0) : ∀ r, 10 ^ r ≤ hv f nd (r + 1)
  | 0 => by rw [hv_in f (by omega)]; simp [hv]; omega
  | r + 1 => by
    have ih := hv_ge (f := f) h1 h0 r
    rw [Nat.pow_succ, hv]; omega
theorem hv_mono (f : Nat → Nat) (nd : Nat) : ∀ d r, hv f nd r ≤ hv f nd (r + d)
  | 0, r => Nat.le_refl _
  | d + 1, r => by
    have := hv_mono f nd d r
    rw [← Nat.add_assoc, hv]; omega

/-- What the two later loops keep: wi digits are put down, n is in hand. -/
structure LR (w wr : World) (C nd k r1 : Nat) (dp : Int) (f0 : Nat → Nat) (wi n : Nat) (f : Nat → Nat) : Prop where
  dec : DecAt wr C f nd dp
  below : Below C w wr
  size : wr.heap.size = w.heap.size
  low : ∀ j, j < wi → 48 ≤ f j ∧ f j ≤ 57
  high : ∀ j, wi ≤ j → f j = f0 j
  lt : n < 10 * 2 ^ k
  start : wi = 0 → n = hv f0 nd r1
  first : 1 ≤ wi → f 0 = 48 + hv f0 nd r1 / 2 ^ k
  wmax : wi ≤ 800
theorem LR.dig {w wr : World} {C nd k r1 : Nat} {dp : Int} {f0 f : Nat → Nat} {wi n : Nat} (h : LR w wr C nd k r1 dp f0 wi n f) : n / 2 ^ k ≤ 9 := by
  have p : 0 < 2 ^ k := Nat.pow_pos (by omega)
  have := h.lt
  have := (Nat.div_lt_iff_lt_mul p).2 this
  omega
theorem LR.put {w wr : World} {C nd k r1 : Nat} {dp : Int} {f0 f : Nat → Nat} {wi n : Nat} (h : LR w wr C nd k r1 dp f0 wi n f) (hw : wi < 800) (c : Nat) (hc : c ≤ 9) :
    LR w (wr.setCell ⟨C, wi, none⟩ (.int .u8 ((48 + n / 2 ^ k : Nat) : Int))) C nd k r1 dp f0 (wi + 1) (n % 2 ^ k * 10 + c) (setF f wi (48 + n / 2 ^ k)) := by
  have h9 := h.dig
  have p : 0 < 2 ^ k := Nat.pow_pos (by omega)
  have hm := Nat.mod_lt n p
  refine ⟨h.dec.setDig _ _ hw (Nat.lt_of_le_of_lt (Nat.add_le_add_left h9 48) (by omega)), h.below.setCell (Nat.le_refl _) _, (setCell_size _ _ _).trans h.size, fun j hj => ?_, fun j hj => ?_, by omega, fun e => by omega, fun _ => ?_, by omega⟩
  · by_cases e : j = wi
    · subst e; rw [setF_same]; exact ⟨Nat.le_add_right _ _, Nat.add_le_add_left h9 48⟩
    · rw [setF_ne _ _ _ _ e]; exact h.low j (by omega)
  · rw [setF_ne _ _ _ _ (by omega)]; exact h.high j (by omega)
  · rcases Nat.eq_zero_or_pos wi with e | e
    · subst e; rw [setF_same, ← h.start rfl]
    · rw [setF_ne _ _ _ _ (by omega)]; exact h.first e
theorem LR.noput {w wr : World} {C nd k r1 : Nat} {dp : Int} {f0 f : Nat → Nat} {wi n : Nat} (h : LR w wr C nd k r1 dp f0 wi n f) (hw : wi = 800) :
    LR w wr C nd k r1 dp f0 wi (n % 2 ^ k * 10) f := by
  have p : 0 < 2 ^ k := Nat.pow_pos (by omega)
  have hm := Nat.mod_lt n p
  exact ⟨h.dec, h.below, h.size, h.low, h.high, by omega, fun e => by omega, h.first, h.wmax⟩
theorem LR.trunc {w wr : World} {C nd k r1 : Nat} {dp : Int} {f0 f : Nat → Nat} {wi n : Nat} (h : LR w wr C nd k r1 dp f0 wi n f) (b : Bool) :
    LR w (wr.setCell ⟨C, 803, none⟩ (.bool b)) C nd k r1 dp f0 wi n f :=
  ⟨h.dec.setTr b, h.below.setCell (Nat.le_refl _) _, (setCell_size _ _ _).trans h.size, h.low, h.high, h.lt, h.start, h.first, h.wmax⟩
/-- Twice as often divisible, each round. -/
theorem twos_step {n k g : Nat} (hg : g ≤ k + 1) (h : 2 ^ (k + 1 - g) ∣ n) (hg1 : 1 ≤ g) : 2 ^ (k + 1 - (g - 1)) ∣ n % 2 ^ k * 10 ∧ (g - 1 = 0 → n % 2 ^ k * 10 = 0) := by
  rcases Nat.lt_or_ge 1 g with h2 | h2
  · refine ⟨?_, fun e => by omega⟩
    have h3 : 2 ^ (k + 1 - g) ∣ 2 ^ k := Nat.pow_dvd_pow 2 (by omega)
    have h4 : 2 ^ (k + 1 - g) ∣ n % 2 ^ k := (Nat.dvd_mod_iff h3).2 h
    rw [show k + 1 - (g - 1) = (k + 1 - g) + 1 from by omega, Nat.pow_succ]
    exact Nat.mul_dvd_mul h4 (by omega)
  · have e : g = 1 := by omega
    subst e
    rw [Nat.add_sub_cancel] at h
    rw [Nat.mod_eq_zero_of_dvd h]
    exact ⟨by simp, fun _ => by simp⟩

/-- The shift for a place of the point. -/
def pw (m : Nat) : Nat := if m = 0 then 1 else if m = 1 then 3 else if m = 2 then 6 else if m = 3 then 9 else if m = 4 then 13 else if m = 5 then 16 else if m = 6 then 19 else if m = 7 then 23 else if m = 8 then 26 else 27
theorem pw_mem (m : Nat) : pw m ∈ shifts := by
  unfold pw shifts
  repeat (first | split | simp)
/-- How much the right shifts can still add, at most. -/
def PR (dp d0 : Nat) : Nat := if dp = 0 then 0 else if dp = 1 then (if 56 ≤ d0 then 6 else 3) else if dp ≤ 8 then 32 else 4 * dp + 32
/-- .. and the left shifts take. -/
def PL (m d0 : Nat) : Nat := if m = 0 then (if d0 < 53 then 58 - d0 else 0) else if m = 1 then (if d0 = 49 then 15 else 12) else if m ≤ 8 then 41 else 4 * m + 41

theorem lt_pow_mono {V a b : Nat} (h : V < 10 ^ a) (hab : a ≤ b) : V < 10 ^ b := Nat.lt_of_lt_of_le h (Nat.pow_le_pow_right (by omega) hab)

set_option maxHeartbeats 2000000 in
theorem right_pot {f : Nat → Nat} {nd dp r1 : Nat} (hf : IsDig f nd) (h1 : 1 ≤ nd) (h0 : 49 ≤ f 0) (hdp : 1 ≤ dp) (hr : 1 ≤ r1) (hge : 2 ^ pw dp ≤ hv f nd r1) (hlt : hv f nd (r1 - 1) < 2 ^ pw dp) :
    r1 ≤ dp + 1 ∧ PR (dp + 1 - r1) (48 + hv f nd r1 / 2 ^ pw dp) + pw dp ≤ PR dp (f 0) := by
  have hl := hv_lt hf r1
  have hr10 : r1 ≤ 10 := by
    apply Decidable.byContradiction
    intro hn
    have a : 10 ^ 9 ≤ hv f nd 10 := hv_ge (f := f) h1 h0 9
    have b := hv_mono f nd (r1 - 1 - 10) 10
    rw [show 10 + (r1 - 1 - 10) = r1 - 1 from by omega] at b
    have c : 2 ^ pw dp ≤ 2 ^ 27 := Nat.pow_le_pow_right (by omega) (by unfold pw; repeat (first | split | omega))
    have c9 : (10 : Nat) ^ 9 = 1000000000 := by decide
    have c27 : (2 : Nat) ^ 27 = 134217728 := by decide
    omega
  have f0 := hf 0 (by omega)
  have v1 : hv f nd 1 = f 0 - 48 := by rw [hv_in f (by omega)]; simp [hv]
  have g : ∀ r, 2 ≤ r → r1 = r → 10 ^ (r - 2) ≤ hv f nd (r1 - 1) := fun r hr e => by
    have := hv_ge (f := f) h1 h0 (r - 2)
    rwa [e, show r - 1 = r - 2 + 1 from by omega]
  have g2 := g 2 (by omega); have g3 := g 3 (by omega); have g4 := g 4 (by omega); have g5 := g 5 (by omega); have g6 := g 6 (by omega)
  have g7 := g 7 (by omega); have g8 := g 8 (by omega); have g9 := g 9 (by omega); have g10 := g 10 (by omega)
  simp at g2 g3 g4 g5 g6 g7 g8 g9 g10
  clear g
  by_cases hb : dp = 1
  · subst hb
    have p1 : pw 1 = 3 := by decide
    rw [p1] at hge hlt ⊢
    have hr3 : r1 ≤ 2 := by
      apply Decidable.byContradiction
      intro hn
      have b := hv_mono f nd (r1 - 1 - 2) 2
      rw [show 2 + (r1 - 1 - 2) = r1 - 1 from by omega] at b
      have a := hv_ge (f := f) h1 h0 1
      simp at a hlt
      omega
    refine ⟨by omega, ?_⟩
    rcases (show r1 = 1 ∨ r1 = 2 by omega) with rfl | rfl
    · rw [v1] at hge ⊢
      simp at hge
      have e : (f 0 - 48) / 2 ^ 3 = 1 := by simp; omega
      rw [e]
      simp [PR]
      rw [if_pos (by omega)]
      omega
    · simp [PR]; split <;> omega
  · have k1 : ∀ m, dp = m → pw dp = pw m := fun m e => by rw [e]
    have q2 : pw 2 = 6 := by decide
    have q3 : pw 3 = 9 := by decide
    have q4 : pw 4 = 13 := by decide
    have q5 : pw 5 = 16 := by decide
    have q6 : pw 6 = 19 := by decide
    have q7 : pw 7 = 23 := by decide
    have q8 : pw 8 = 26 := by decide
    have q9 : 9 ≤ dp → pw dp = 27 := fun h => by unfold pw; repeat (first | (rw [if_neg (by omega)]) | rfl)
    generalize 48 + hv f nd r1 / 2 ^ pw dp = D
    have small : ∀ x, x ≤ 1 → PR x D ≤ 6 := fun x hx => by unfold PR; repeat (first | split | omega)
    have mid : ∀ x, x ≤ 8 → PR x D ≤ 32 := fun x hx => by unfold PR; repeat (first | split | omega)
    have big : ∀ x y, 9 ≤ x → PR x y = 4 * x + 32 := fun x y hx => by unfold PR; rw [if_neg (by omega), if_neg (by omega), if_neg (by omega)]
    have m8 : ∀ x y, 2 ≤ x → x ≤ 8 → PR x y = 32 := fun x y hx h8 => by unfold PR; rw [if_neg (by omega), if_neg (by omega), if_pos (by omega)]
    generalize hv f nd (r1 - 1) = W at *
    generalize hv f nd r1 = V at *
    by_cases h9 : 9 ≤ dp
    · rw [q9 h9] at hge hlt ⊢
      simp at hge hlt
      have : 9 ≤ r1 := by
        apply Decidable.byContradiction
        intro hn
        have : (10 : Nat) ^ r1 ≤ 10 ^ 8 := Nat.pow_le_pow_right (by omega) (by omega)
        simp at this
        omega
      refine ⟨by omega, ?_⟩
      rw [big dp (f 0) h9]
      rcases Nat.lt_or_ge (dp + 1 - r1) 9 with h | h
      · have := mid (dp + 1 - r1) (by omega); omega
      · rw [big _ _ h]; omega
    · rw [m8 dp (f 0) (by omega) (by omega)]
      have P1 : r1 ≤ 1 → V < 10 := fun h => by simpa using lt_pow_mono hl h
      have P2 : r1 ≤ 2 → V < 100 := fun h => by simpa using lt_pow_mono hl h
      have P3 : r1 ≤ 3 → V < 1000 := fun h => by simpa using lt_pow_mono hl h
      have P4 : r1 ≤ 4 → V < 10000 := fun h => by simpa using lt_pow_mono hl h
      have P5 : r1 ≤ 5 → V < 100000 := fun h => by simpa using lt_pow_mono hl h
      have P6 : r1 ≤ 6 → V < 1000000 := fun h => by simpa using lt_pow_mono hl h
      have P7 : r1 ≤ 7 → V < 10000000 := fun h => by simpa using lt_pow_mono hl h
      clear hl
      rcases (show dp = 2 ∨ dp = 3 ∨ dp = 4 ∨ dp = 5 ∨ dp = 6 ∨ dp = 7 ∨ dp = 8 by omega) with rfl | rfl | rfl | rfl | rfl | rfl | rfl
      · rw [q2] at hge hlt ⊢; simp at hge hlt
        have a : 2 ≤ r1 := by omega
        exact ⟨by omega, by have := small (2 + 1 - r1) (by omega); omega⟩
      · rw [q3] at hge hlt ⊢; simp at hge hlt
        have a : 3 ≤ r1 := by omega
        exact ⟨by omega, by have := small (3 + 1 - r1) (by omega); omega⟩
      · rw [q4] at hge hlt ⊢; simp at hge hlt
        have a : 4 ≤ r1 := by omega
        exact ⟨by omega, by have := small (4 + 1 - r1) (by omega); omega⟩
      · rw [q5] at hge hlt ⊢; simp at hge hlt
        have a : 5 ≤ r1 := by omega
        exact ⟨by omega, by have := small (5 + 1 - r1) (by omega); omega⟩
      · rw [q6] at hge hlt ⊢; simp at hge hlt
        have a : 6 ≤ r1 := by omega
        exact ⟨by omega, by have := small (6 + 1 - r1) (by omega); omega⟩
      · rw [q7] at hge hlt ⊢; simp at hge hlt
        have a : 7 ≤ r1 := by omega
        exact ⟨by omega, by have := small (7 + 1 - r1) (by omega); omega⟩
      · rw [q8] at hge hlt ⊢; simp at hge hlt
        have a : 8 ≤ r1 := by omega
        exact ⟨by omega, by have := small (8 + 1 - r1) (by omega); omega⟩

/-- By how much a left shift moves the point. -/
def leftD (f : Nat → Nat) (nd k : Nat) : Nat := cutD k - (if prefLT f nd 0 (cutL k) = true then 1 else 0)
theorem leftD_le (f : Nat → Nat) (nd k : Nat) : leftD f nd k ≤ cutD k ∧ cutD k - 1 ≤ leftD f nd k := by
  unfold leftD; split <;> omega
theorem pw_cutD : cutD 1 = 1 ∧ cutD 3 = 1 ∧ cutD 6 = 2 ∧ cutD 9 = 3 ∧ cutD 13 = 4 ∧ cutD 16 = 5 ∧ cutD 19 = 6 ∧ cutD 23 = 7 ∧ cutD 26 = 8 ∧ cutD 27 = 9 := by decide +kernel
theorem cutL_1 : cutL 1 = [53] := by decide +kernel
theorem leftD_1 {f : Nat → Nat} {nd : Nat} (h1 : 1 ≤ nd) (h : f 0 < 53) : leftD f nd 1 = 0 := by
  have : prefLT f nd 0 (cutL 1) = true := by
    rw [cutL_1, prefLT, if_neg (by omega), if_neg (by simp; omega)]
    simp; omega
  rw [leftD, this, pw_cutD.1]; rfl
/-- Where a left shift brings no digit, the first one is as much larger. -/
theorem carry0 {f : Nat → Nat} {nd k : Nat} (hf : IsDig f nd) (hk : k ∈ shifts) (h1 : 1 ≤ nd) (h0 : 49 ≤ f 0) (hd : leftD f nd k = 0) : (f 0 - 48) * 2 ^ k ≤ carryX f nd k 0 % 10 := by
  have h := (shift_digits hf hk h1 h0).1
  have e : cutD k - (if prefLT f nd 0 (cutL k) = true then 1 else 0) = 0 := hd
  rw [e, Nat.add_zero] at h
  have h10 := carryX_div f nd k 0 (by omega)
  rw [carry, Nat.sub_zero, Nat.div_eq_of_lt h] at h10
  have : carryX f nd k 0 < 10 := by omega
  rw [Nat.mod_eq_of_lt this, carryX]
  omega

set_option maxHeartbeats 2000000 in
theorem left_pot {f : Nat → Nat} {nd m d' : Nat} (hf : IsDig f nd) (h1 : 1 ≤ nd) (h0 : 49 ≤ f 0) (hm : 1 ≤ m ∨ f 0 < 53) (hd : 49 ≤ d') (hz : leftD f nd (pw m) = 0 → 48 + (f 0 - 48) * 2 ^ pw m ≤ d' ∧ d' ≤ 57) :
    leftD f nd (pw m) ≤ m ∧ PL (m - leftD f nd (pw m)) d' + pw m ≤ PL m (f 0) := by
  have hle := leftD_le f nd (pw m)
  obtain ⟨c1, c3, c6, c9, c13, c16, c19, c23, c26, c27⟩ := pw_cutD
  have hf0 := hf 0 (by omega)
  have small : ∀ x, x ≤ 1 → PL x d' ≤ 15 := fun x hx => by unfold PL; repeat (first | split | omega)
  have mid : ∀ x, x ≤ 8 → PL x d' ≤ 41 := fun x hx => by unfold PL; repeat (first | split | omega)
  have big : ∀ x y, 9 ≤ x → PL x y = 4 * x + 41 := fun x y hx => by unfold PL; rw [if_neg (by omega), if_neg (by omega), if_neg (by omega)]
  have m8 : ∀ x y, 2 ≤ x → x ≤ 8 → PL x y = 41 := fun x y hx h8 => by unfold PL; rw [if_neg (by omega), if_neg (by omega), if_pos (by omega)]
  rcases Nat.lt_or_ge m 9 with h9 | h9
  · rcases (show m = 0 ∨ m = 1 ∨ m = 2 ∨ m = 3 ∨ m = 4 ∨ m = 5 ∨ m = 6 ∨ m = 7 ∨ m = 8 by omega) with rfl | rfl | rfl | rfl | rfl | rfl | rfl | rfl | rfl
    · have p : pw 0 = 1 := by decide
      rw [p] at hz hle ⊢
      have e : leftD f nd 1 = 0 := leftD_1 h1 (by omega)
      rw [e] at hz ⊢
      have hz := hz rfl
      refine ⟨by omega, ?_⟩
      simp [PL] at *
      repeat (first | split | omega)
    · have p : pw 1 = 3 := by decide
      rw [p] at hz hle ⊢
      rw [c3] at hle
      refine ⟨by omega, ?_⟩
      rcases (show leftD f nd 3 = 0 ∨ leftD f nd 3 = 1 by omega) with e | e
      · rw [e] at hz ⊢
        have hz := hz rfl
        simp [PL] at *
        rw [if_neg (by omega), if_pos (by omega)]
        omega
      · rw [e]
        simp [PL]
        repeat (first | split | omega)
    · have p : pw 2 = 6 := by decide
      rw [p] at hle ⊢; rw [m8 2 (f 0) (by omega) (by omega)]
      exact ⟨by omega, by have := small (2 - leftD f nd 6) (by omega); omega⟩
    · have p : pw 3 = 9 := by decide
      rw [p] at hle ⊢; rw [m8 3 (f 0) (by omega) (by omega)]
      exact ⟨by omega, by have := small (3 - leftD f nd 9) (by omega); omega⟩
    · have p : pw 4 = 13 := by decide
      rw [p] at hle ⊢; rw [m8 4 (f 0) (by omega) (by omega)]
      exact ⟨by omega, by have := small (4 - leftD f nd 13) (by omega); omega⟩
    · have p : pw 5 = 16 := by decide
      rw [p] at hle ⊢; rw [m8 5 (f 0) (by omega) (by omega)]
      exact ⟨by omega, by have := small (5 - leftD f nd 16) (by omega); omega⟩
    · have p : pw 6 = 19 := by decide
      rw [p] at hle ⊢; rw [m8 6 (f 0) (by omega) (by omega)]
      exact ⟨by omega, by have := small (6 - leftD f nd 19) (by omega); omega⟩
    · have p : pw 7 = 23 := by decide
      rw [p] at hle ⊢; rw [m8 7 (f 0) (by omega) (by omega)]
      exact ⟨by omega, by have := small (7 - leftD f nd 23) (by omega); omega⟩
    · have p : pw 8 = 26 := by decide
      rw [p] at hle ⊢; rw [m8 8 (f 0) (by omega) (by omega)]
      exact ⟨by omega, by have := small (8 - leftD f nd 26) (by omega); omega⟩
  · have p : pw m = 27 := by unfold pw; repeat (first | (rw [if_neg (by omega)]) | rfl)
    rw [p] at hle ⊢
    rw [c27] at hle
    rw [big m (f 0) h9]
    refine ⟨by omega, ?_⟩
    rcases Nat.lt_or_ge (m - leftD f nd 27) 9 with h | h
    · have := mid (m - leftD f nd 27) (by omega); omega
    · rw [big _ _ h]; omega

end Go.Proofs.YtlpkdagdfopchaaGreatDoor
