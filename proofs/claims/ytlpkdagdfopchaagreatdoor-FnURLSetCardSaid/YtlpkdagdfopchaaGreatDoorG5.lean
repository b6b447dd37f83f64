/- Digits as numbers: plainly. -/
import Derived.Test.YtlpkdagdfopchaaGreatDoorG4
namespace Go.Proofs.YtlpkdagdfopchaaGreatDoor
open Go.RowKit
set_option linter.unusedVariables false
set_option linter.unusedSimpArgs false

/-- The number that m digits from place i on spell. -/
def tv (f : Nat → Nat) : Nat → Nat → Nat
  | _, 0 => 0
  | i, m + 1 => (f i - 48) * 10 ^ m + tv f (i + 1) m
def IsDig (f : Nat → Nat) (nd : Nat) : Prop := ∀ j, j < nd → 48 ≤ f j ∧ f j ≤ 57
theorem tv_lt {f : Nat → Nat} {nd : Nat} (h : IsDig f nd) : ∀ m i, i + m ≤ nd → tv f i m < 10 ^ m
  | 0, i, _ => by simp [tv]
  | m + 1, i, hi => by
    have h1 := tv_lt h m (i + 1) (by omega)
    have h2 := h i (by omega)
    have h3 : f i - 48 ≤ 9 := by omega
    have h4 := Nat.mul_le_mul_right (10 ^ m) h3
    rw [tv, Nat.pow_succ]
    omega
theorem tv_ge {f : Nat → Nat} (m i : Nat) : (f i - 48) * 10 ^ m ≤ tv f i (m + 1) := by
  rw [tv]; omega
theorem tv_congr {f g : Nat → Nat} : ∀ m i, (∀ j, i ≤ j → j < i + m → f j = g j) → tv f i m = tv g i m
  | 0, i, _ => rfl
  | m + 1, i, h => by
    rw [tv, tv, h i (Nat.le_refl _) (by omega), tv_congr m (i + 1) (fun j h1 h2 => h j (by omega) (by omega))]

/-- The number that a list of bytes spells. -/
def lv : List UInt8 → Nat
  | [] => 0
  | c :: cs => (c.toNat - 48) * 10 ^ cs.length + lv cs
def IsDigL (l : List UInt8) : Prop := ∀ c ∈ l, 48 ≤ c.toNat ∧ c.toNat ≤ 57
theorem lv_lt : ∀ (l : List UInt8), IsDigL l → lv l < 10 ^ l.length
  | [], _ => by simp [lv]
  | c :: cs, h => by
    have h1 := lv_lt cs (fun x hx => h x (List.mem_cons_of_mem _ hx))
    have h2 := h c (List.mem_cons_self ..)
    have h3 : c.toNat - 48 ≤ 9 := by omega
    have h4 := Nat.mul_le_mul_right (10 ^ cs.length) h3
    rw [lv, List.length_cons, Nat.pow_succ]
    omega
/-- The last figure is not 0. -/
def LastPos : List UInt8 → Prop
  | [] => True
  | [c] => 49 ≤ c.toNat
  | _ :: cs => LastPos cs
theorem lv_pos : ∀ (l : List UInt8), l ≠ [] → LastPos l → 0 < lv l
  | [], h, _ => absurd rfl h
  | [c], _, h => by
    have h : 49 ≤ c.toNat := h
    simp [lv]; omega
  | c :: d :: cs, _, h => by
    have := lv_pos (d :: cs) (by simp) h
    rw [lv]; omega
theorem lastPos_tail {c : UInt8} : ∀ {cs : List UInt8}, LastPos (c :: cs) → LastPos cs
  | [], _ => trivial
  | _ :: _, h => h

theorem prefLT_iff {f : Nat → Nat} {nd : Nat} (hf : IsDig f nd) : ∀ (s : List UInt8) (i m : Nat), i + m = nd → IsDigL s → LastPos s →
    (prefLT f nd i s = true ↔ tv f i m * 10 ^ s.length < lv s * 10 ^ m)
  | [], i, m, hm, _, _ => by simp [prefLT, lv]
  | c :: cs, i, 0, hm, hd, hl => by
    have hp := lv_pos (c :: cs) (by simp) hl
    rw [prefLT, if_pos (by omega), tv]
    simp only [true_iff, Nat.zero_mul, Nat.pow_zero, Nat.mul_one]
    exact hp
  | c :: cs, i, m + 1, hm, hd, hl => by
    have hdc := hd c (List.mem_cons_self ..)
    have hdt : IsDigL cs := fun x hx => hd x (List.mem_cons_of_mem _ hx)
    have hfi := hf i (by omega)
    have ht := tv_lt hf m (i + 1) (by omega)
    have hs := lv_lt cs hdt
    have ih := prefLT_iff hf cs (i + 1) m (by omega) hdt (lastPos_tail hl)
    rw [prefLT, if_neg (by omega), tv, lv, List.length_cons]
    generalize tv f (i + 1) m = T at *
    generalize lv cs = S at *
    generalize hL : cs.length = L at *
    have pL : 0 < 10 ^ L := Nat.pow_pos (by omega)
    have pm : 0 < 10 ^ m := Nat.pow_pos (by omega)
    by_cases e : f i = c.toNat
    · rw [if_pos e, ih, e]
      generalize c.toNat - 48 = d
      rw [Nat.pow_succ, Nat.pow_succ, Nat.add_mul, Nat.add_mul]
      generalize hA : 10 ^ L = A at *
      generalize hB : 10 ^ m = B at *
      have e1 : d * B * (A * 10) = d * A * (B * 10) := by
        rw [Nat.mul_assoc, Nat.mul_assoc, ← Nat.mul_assoc B A 10, ← Nat.mul_assoc A B 10, Nat.mul_comm B A]
      rw [e1, Nat.add_lt_add_iff_left, ← Nat.mul_assoc, ← Nat.mul_assoc]
      omega
    · rw [if_neg e]
      simp only [decide_eq_true_eq]
      generalize hA : 10 ^ L = A at *
      generalize hB : 10 ^ m = B at *
      rw [Nat.pow_succ, Nat.pow_succ, hA, hB]
      generalize hx : f i - 48 = x
      generalize hy : c.toNat - 48 = y
      constructor
      · intro h
        have hxy : x + 1 ≤ y := by omega
        have h1 := Nat.mul_le_mul_right B hxy
        rw [Nat.add_mul, Nat.one_mul] at h1
        -- xB + T < yB; so (xB+T)·(10A) < yB·10A <= (yA+S)·10B
        have h2 : x * B + T < y * B := by omega
        have h3 := Nat.mul_lt_mul_of_pos_right h2 (show 0 < A * 10 by omega)
        refine Nat.lt_of_lt_of_le h3 ?_
        have e2 : y * B * (A * 10) = y * A * (B * 10) := by
          rw [Nat.mul_assoc, Nat.mul_assoc, ← Nat.mul_assoc B A 10, ← Nat.mul_assoc A B 10, Nat.mul_comm B A]
        rw [e2]
        exact Nat.mul_le_mul_right _ (Nat.le_add_right _ _)
      · intro h
        apply Decidable.byContradiction
        intro hn
        have hxy : y + 1 ≤ x := by omega
        have h1 := Nat.mul_le_mul_right A hxy
        rw [Nat.add_mul, Nat.one_mul] at h1
        have h2 : y * A + S < x * A := by omega
        have h3 := Nat.mul_lt_mul_of_pos_right h2 (show 0 < B * 10 by omega)
        have e2 : x * A * (B * 10) = x * B * (A * 10) := by
          rw [Nat.mul_assoc, Nat.mul_assoc, ← Nat.mul_assoc A B 10, ← Nat.mul_assoc B A 10, Nat.mul_comm A B]
        rw [e2] at h3
        have h4 : x * B * (A * 10) ≤ (x * B + T) * (A * 10) := Nat.mul_le_mul_right _ (Nat.le_add_right _ _)
        omega

/-- The shifts that are used, the digits that each brings, the digits of 5^k. -/
def shifts : List Nat := [1, 3, 6, 9, 13, 16, 19, 23, 26, 27, 53]
def cutL (k : Nat) : List UInt8 := (Nat.toDigits 10 (5 ^ k)).map (fun c => c.toNat.toUInt8)
def cutB (k : Nat) : ByteArray := ⟨(cutL k).toArray⟩
def cutD (k : Nat) : Nat := k + 1 - (cutL k).length
instance (l : List UInt8) : Decidable (IsDigL l) := by unfold IsDigL; exact inferInstance
def lastPosB : List UInt8 → Bool
  | [] => true
  | [c] => decide (49 ≤ c.toNat)
  | _ :: cs => lastPosB cs
theorem lastPos_of : ∀ {l : List UInt8}, lastPosB l = true → LastPos l
  | [], _ => trivial
  | [c], h => by
    have h : decide (49 ≤ c.toNat) = true := h
    exact (show 49 ≤ c.toNat from of_decide_eq_true h)
  | c :: d :: cs, h => lastPos_of (l := d :: cs) h
theorem cut_facts : ∀ k ∈ shifts, IsDigL (cutL k) ∧ lastPosB (cutL k) = true ∧ lv (cutL k) = 5 ^ k ∧ (cutL k).length ≤ k ∧ 1 ≤ cutD k ∧ cutD k ≤ 16 ∧ (cutL k).length ≤ 40 ∧ 10 ^ (cutL k).length < 10 * 5 ^ k := by decide +kernel

/-- What a left shift brings: how many digits more. -/
theorem shift_digits {f : Nat → Nat} {nd k : Nat} (hf : IsDig f nd) (hk : k ∈ shifts) (h1 : 1 ≤ nd) (h0 : 49 ≤ f 0) :
    let δ := cutD k - (if prefLT f nd 0 (cutL k) = true then 1 else 0)
    tv f 0 nd * 2 ^ k < 10 ^ (nd + δ) ∧ 10 ^ (nd + δ) ≤ 10 * (tv f 0 nd * 2 ^ k) := by
  obtain ⟨c1, c2, c3, c4, c5, c6, c7, c8⟩ := cut_facts k hk
  have hp := prefLT_iff hf (cutL k) 0 nd (by omega) c1 (lastPos_of c2)
  have hlt := tv_lt hf nd 0 (by omega)
  obtain ⟨m, rfl⟩ : ∃ m, nd = m + 1 := ⟨nd - 1, by omega⟩
  have hge := tv_ge (f := f) m 0
  have hge' : 10 ^ m ≤ tv f 0 (m + 1) := Nat.le_trans (by have := Nat.mul_le_mul_right (10 ^ m) (show 1 ≤ f 0 - 48 by omega); omega) hge
  rw [c3] at hp
  unfold cutD at *
  generalize hL : (cutL k).length = L at *
  generalize tv f 0 (m + 1) = D at *
  have e10 : (10 : Nat) ^ k = 5 ^ k * 2 ^ k := by rw [← Nat.mul_pow]
  have p2 : 0 < 2 ^ k := Nat.pow_pos (by omega)
  have pL : 0 < 10 ^ L := Nat.pow_pos (by omega)
  have ekL : (10 : Nat) ^ k = 10 ^ (k - L) * 10 ^ L := by rw [← Nat.pow_add]; congr 1; omega
  by_cases h : prefLT f (m + 1) 0 (cutL k) = true
  · simp only [h, if_true]
    have hh := hp.1 h
    rw [show m + 1 + (k + 1 - L - 1) = m + 1 + (k - L) from by omega, Nat.pow_add]
    constructor
    · -- D·10^L < 5^k·10^(m+1): times 2^k
      have h2 := Nat.mul_lt_mul_of_pos_right hh p2
      apply Decidable.byContradiction
      intro hn
      have h3 := Nat.mul_le_mul_right (10 ^ L) (Nat.le_of_not_lt hn)
      have e1 : 10 ^ (m + 1) * 10 ^ (k - L) * 10 ^ L = 5 ^ k * 10 ^ (m + 1) * 2 ^ k := by
        rw [Nat.mul_assoc, ← ekL, e10, Nat.mul_comm (5 ^ k) (2 ^ k), ← Nat.mul_assoc, Nat.mul_comm (10 ^ (m + 1) * 2 ^ k), ← Nat.mul_assoc]
      have e2 : D * 10 ^ L * 2 ^ k = D * 2 ^ k * 10 ^ L := by rw [Nat.mul_assoc, Nat.mul_comm (10 ^ L), ← Nat.mul_assoc]
      omega
    · -- D >= 10^m; 2^k >= 10^(k-L): as 5^k < 10^L
      have h5 : 5 ^ k < 10 ^ L := by
        have := lv_lt (cutL k) c1
        rw [c3, hL] at this; exact this
      have h6 : 10 ^ (k - L) ≤ 2 ^ k := by
        apply Decidable.byContradiction
        intro hn
        have h7 := Nat.mul_lt_mul'' (Nat.lt_of_not_le hn) h5
        rw [← ekL, e10, Nat.mul_comm] at h7
        omega
      have h8 := Nat.mul_le_mul hge' h6
      rw [Nat.pow_succ]
      have e1 : 10 ^ m * 10 * 10 ^ (k - L) = 10 * (10 ^ m * 10 ^ (k - L)) := by rw [Nat.mul_comm (10 ^ m) 10, Nat.mul_assoc]
      rw [e1]
      exact Nat.mul_le_mul_left _ h8
  · simp only [if_neg h, Nat.sub_zero]
    have hh : 5 ^ k * 10 ^ (m + 1) ≤ D * 10 ^ L := Nat.le_of_not_lt (fun x => h (hp.2 x))
    rw [show m + 1 + (k + 1 - L) = (m + 1 + (k - L)) + 1 from by omega, Nat.pow_succ, Nat.pow_add]
    constructor
    · -- D < 10^(m+1); 2^k < 10·10^(k-L): as 10·5^k >= 10^L
      have h5 : 2 ^ k < 10 * 10 ^ (k - L) := by
        apply Decidable.byContradiction
        intro hn
        have h6 := Nat.mul_le_mul_right (10 ^ L) (Nat.le_of_not_lt hn)
        rw [Nat.mul_assoc, ← ekL] at h6
        have h7 := Nat.mul_lt_mul_of_pos_left c8 p2
        have e3 : 2 ^ k * (10 * 5 ^ k) = 10 * 10 ^ k := by
          rw [e10, Nat.mul_comm (5 ^ k) (2 ^ k), ← Nat.mul_assoc, Nat.mul_comm (2 ^ k) 10, Nat.mul_assoc]
        omega
      have h6 := Nat.mul_lt_mul'' hlt h5
      rw [Nat.mul_comm 10 (10 ^ (k - L)), ← Nat.mul_assoc] at h6
      exact h6
    · have h2 := Nat.mul_le_mul_right (2 ^ k) hh
      have e1 : 5 ^ k * 10 ^ (m + 1) * 2 ^ k = 10 ^ (m + 1) * 10 ^ (k - L) * 10 ^ L := by
        rw [Nat.mul_assoc (10 ^ (m + 1)), ← ekL, e10, Nat.mul_comm (5 ^ k) (2 ^ k), ← Nat.mul_assoc (10 ^ (m + 1)), Nat.mul_comm (10 ^ (m + 1) * 2 ^ k), ← Nat.mul_assoc]
      have e2 : D * 10 ^ L * 2 ^ k = D * 2 ^ k * 10 ^ L := by rw [Nat.mul_assoc, Nat.mul_comm (10 ^ L), ← Nat.mul_assoc]
      rw [e1, e2] at h2
      have h3 := Nat.le_of_mul_le_mul_right h2 pL
      omega

end Go.Proofs.YtlpkdagdfopchaaGreatDoor
