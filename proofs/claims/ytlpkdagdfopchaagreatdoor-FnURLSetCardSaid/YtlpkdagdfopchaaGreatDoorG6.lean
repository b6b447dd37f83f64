/- leftShift f85: what its loops keep, plainly. -/
import Derived.Test.YtlpkdagdfopchaaGreatDoorG5
namespace Go.Proofs.YtlpkdagdfopchaaGreatDoor
open Go.RowKit
set_option linter.unusedVariables false
set_option linter.unusedSimpArgs false

/-- What the left shift carries when the digits from place r on are done. -/
def carry (f : Nat → Nat) (nd k r : Nat) : Nat := tv f r (nd - r) * 2 ^ k / 10 ^ (nd - r)
/-- .. and before the digit is put down. -/
def carryX (f : Nat → Nat) (nd k r : Nat) : Nat := carry f nd k (r + 1) + (f r - 48) * 2 ^ k
theorem carry_end (f : Nat → Nat) (nd k : Nat) : carry f nd k nd = 0 := by simp [carry, tv]
theorem carryX_eq (f : Nat → Nat) (nd k r : Nat) (h : r < nd) : carryX f nd k r = tv f r (nd - r) * 2 ^ k / 10 ^ (nd - r - 1) := by
  obtain ⟨m, hm⟩ : ∃ m, nd - r = m + 1 := ⟨nd - r - 1, by omega⟩
  rw [carryX, carry, hm, show nd - (r + 1) = m from by omega, tv, Nat.add_sub_cancel]
  have p : 0 < 10 ^ m := Nat.pow_pos (by omega)
  rw [Nat.add_mul, show (f r - 48) * 10 ^ m * 2 ^ k = 10 ^ m * ((f r - 48) * 2 ^ k) from by rw [Nat.mul_comm (f r - 48), Nat.mul_assoc], Nat.mul_add_div p, Nat.add_comm]
theorem carryX_div (f : Nat → Nat) (nd k r : Nat) (h : r < nd) : carryX f nd k r / 10 = carry f nd k r := by
  rw [carryX_eq f nd k r h, Nat.div_div_eq_div_mul, carry, ← Nat.pow_succ, show (nd - r - 1).succ = nd - r from by omega]
theorem carry_lt {f : Nat → Nat} {nd k r : Nat} (hf : IsDig f nd) (h : r ≤ nd) : carry f nd k r < 2 ^ k := by
  have h1 := tv_lt hf (nd - r) r (by omega)
  have p : 0 < 10 ^ (nd - r) := Nat.pow_pos (by omega)
  have p2 : 0 < 2 ^ k := Nat.pow_pos (by omega)
  rw [carry, Nat.div_lt_iff_lt_mul p, Nat.mul_comm (2 ^ k)]
  exact Nat.mul_lt_mul_of_pos_right h1 p2

/-- What the first loop keeps. -/
structure LS1 (w wr : World) (C nd δ k : Nat) (dp : Int) (f0 : Nat → Nat) (r : Nat) (f : Nat → Nat) : Prop where
  dec : DecAt wr C f nd dp
  below : Below C w wr
  size : wr.heap.size = w.heap.size
  low : ∀ j, j < r → f j = f0 j
  high : ∀ j, r + δ ≤ j → j < nd + δ → j < 800 → 48 ≤ f j ∧ f j ≤ 57
  first : r = 0 → δ = 0 → f 0 = 48 + carryX f0 nd k 0 % 10

theorem LS1.put {w wr : World} {C nd δ k : Nat} {dp : Int} {f0 f : Nat → Nat} {r : Nat} (h : LS1 w wr C nd δ k dp f0 (r + 1) f) (hlt : r + δ < 800) :
    LS1 w (wr.setCell ⟨C, r + δ, none⟩ (.int .u8 ((48 + carryX f0 nd k r % 10 : Nat) : Int))) C nd δ k dp f0 r (setF f (r + δ) (48 + carryX f0 nd k r % 10)) := by
  refine ⟨h.dec.setDig _ _ hlt (by omega), h.below.setCell (Nat.le_refl _) _, (setCell_size _ _ _).trans h.size, fun j hj => ?_, fun j h1 h2 h3 => ?_, fun h1 h2 => ?_⟩
  · rw [setF_ne _ _ _ _ (by omega)]; exact h.low j (by omega)
  · by_cases e : j = r + δ
    · subst e; rw [setF_same]; omega
    · rw [setF_ne _ _ _ _ e]; exact h.high j (by omega) h2 h3
  · subst h1 h2; rw [setF_same]
theorem LS1.noput {w wr : World} {C nd δ k : Nat} {dp : Int} {f0 f : Nat → Nat} {r : Nat} (h : LS1 w wr C nd δ k dp f0 (r + 1) f) (hlt : ¬ r + δ < 800) (hnd : nd ≤ 800) (hr : r < nd) :
    LS1 w wr C nd δ k dp f0 r f :=
  ⟨h.dec, h.below, h.size, fun j hj => h.low j (by omega), fun j h1 h2 h3 => by omega, fun h1 h2 => by omega⟩
theorem LS1.trunc {w wr : World} {C nd δ k : Nat} {dp : Int} {f0 f : Nat → Nat} {r : Nat} (h : LS1 w wr C nd δ k dp f0 r f) (b : Bool) :
    LS1 w (wr.setCell ⟨C, 803, none⟩ (.bool b)) C nd δ k dp f0 r f :=
  ⟨h.dec.setTr b, h.below.setCell (Nat.le_refl _) _, (setCell_size _ _ _).trans h.size, h.low, h.high, h.first⟩

/-- What the second loop keeps: v digits still to be put down, of the number n. -/
structure LS2 (w wr : World) (C nd δ : Nat) (dp : Int) (n v : Nat) (f : Nat → Nat) : Prop where
  dec : DecAt wr C f nd dp
  below : Below C w wr
  size : wr.heap.size = w.heap.size
  high : ∀ j, v ≤ j → j < nd + δ → j < 800 → 48 ≤ f j ∧ f j ≤ 57
  lt : n < 10 ^ v
  ge : 1 ≤ v → 10 ^ v ≤ 10 * n
  hv : v ≤ δ
  first : v = 0 → 1 ≤ δ → 49 ≤ f 0

theorem LS2.pos {w wr : World} {C nd δ : Nat} {dp : Int} {n v : Nat} {f : Nat → Nat} (h : LS2 w wr C nd δ dp n v f) (hn : 0 < n) : 1 ≤ v := by
  rcases Nat.eq_zero_or_pos v with e | e
  · have := h.lt; rw [e] at this; omega
  · exact e
theorem LS2.zero {w wr : World} {C nd δ : Nat} {dp : Int} {v : Nat} {f : Nat → Nat} (h : LS2 w wr C nd δ dp 0 v f) : v = 0 := by
  rcases Nat.eq_zero_or_pos v with e | e
  · exact e
  · have := h.ge e
    have p : 0 < 10 ^ v := Nat.pow_pos (by omega)
    omega
theorem LS2.put {w wr : World} {C nd δ : Nat} {dp : Int} {n v : Nat} {f : Nat → Nat} (h : LS2 w wr C nd δ dp n (v + 1) f) (hδ : δ ≤ 16) :
    LS2 w (wr.setCell ⟨C, v, none⟩ (.int .u8 ((48 + n % 10 : Nat) : Int))) C nd δ dp (n / 10) v (setF f v (48 + n % 10)) := by
  have hv := h.hv
  have hlt := h.lt
  have hge := h.ge (by omega)
  rw [Nat.pow_succ] at hlt hge
  refine ⟨h.dec.setDig _ _ (by omega) (by omega), h.below.setCell (Nat.le_refl _) _, (setCell_size _ _ _).trans h.size, fun j h1 h2 h3 => ?_, by omega, fun h1 => ?_, by omega, fun h1 h2 => ?_⟩
  · by_cases e : j = v
    · subst e; rw [setF_same]; omega
    · rw [setF_ne _ _ _ _ e]; exact h.high j (by omega) h2 h3
  · obtain ⟨u, rfl⟩ : ∃ u, v = u + 1 := ⟨v - 1, by omega⟩
    rw [Nat.pow_succ] at hge ⊢
    generalize 10 ^ u = U at *
    omega
  · subst h1
    rw [setF_same]
    simp at hlt hge
    omega
theorem LS2.of1 {w wr : World} {C nd δ k : Nat} {dp : Int} {f0 f : Nat → Nat} (h : LS1 w wr C nd δ k dp f0 0 f) (h1 : tv f0 0 nd * 2 ^ k < 10 ^ (nd + δ)) (h2 : 10 ^ (nd + δ) ≤ 10 * (tv f0 0 nd * 2 ^ k)) (hnd : 1 ≤ nd) :
    LS2 w wr C nd δ dp (carry f0 nd k 0) δ f := by
  have p : 0 < 10 ^ nd := Nat.pow_pos (by omega)
  rw [Nat.pow_add] at h1 h2
  refine ⟨h.dec, h.below, h.size, fun j a b c => h.high j (by omega) b c, ?_, fun hd => ?_, Nat.le_refl _, fun a b => by omega⟩
  · rw [carry, Nat.sub_zero, Nat.div_lt_iff_lt_mul p, Nat.mul_comm (10 ^ δ)]; exact h1
  · obtain ⟨e, rfl⟩ : ∃ e, δ = e + 1 := ⟨δ - 1, by omega⟩
    rw [carry, Nat.sub_zero, Nat.pow_succ, Nat.mul_comm]
    refine Nat.mul_le_mul_left _ ?_
    rw [Nat.le_div_iff_mul_le p, Nat.mul_comm]
    rw [Nat.pow_succ, ← Nat.mul_assoc] at h2
    omega

end Go.Proofs.YtlpkdagdfopchaaGreatDoor
