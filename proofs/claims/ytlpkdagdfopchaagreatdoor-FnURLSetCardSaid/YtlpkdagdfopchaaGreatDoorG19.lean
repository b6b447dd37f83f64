/- atof64exact f64. -/
import Derived.Test.YtlpkdagdfopchaaGreatDoorG18
namespace Go.Proofs.YtlpkdagdfopchaaGreatDoor
open Go.RowKit
set_option linter.unusedVariables false
set_option linter.unusedSimpArgs false

/-- The floats that are powers of ten, below block C. -/
def FlAt (w : World) (C : Nat) : Prop := ∃ L o cap : Nat, L < C ∧ 7 < C ∧ w.cell? ⟨7, 0, none⟩ = some (.slice (some ⟨L, o, none⟩) 23 cap) ∧
  ∀ i, i < 23 → ∃ x, w.cell? ⟨L, o + i, none⟩ = some (.float .f64 x)
theorem FlAt.below {w w' : World} {C : Nat} (h : FlAt w C) (hb : Below C w w') : FlAt w' C := by
  obtain ⟨L, o, cap, h1, h2, h3, h4⟩ := h
  exact ⟨L, o, cap, h1, h2, by rw [below_cell hb 7 _ h2]; exact h3, fun i hi => by rw [below_cell hb L _ h1]; exact h4 i hi⟩

theorem float_any (op : BinOp) (hop : op = .mul ∨ op = .quo) (t : TypeId) (x y : Nat) (w : World) : ∃ r n, (binOp op t (.float .f64 x) (.float .f64 y)).run Tryz.prog w = .ok (.float .f64 r) (w.drewN n) := by
  rcases hop with rfl | rfl
  · cases h : FloatKind.f64.format.mul x y with
    | some r => exact ⟨r, 0, by simp [binOp, Op.floatArith, h]; rfl⟩
    | none =>
      cases hf : (Question.nanBits .f64 x y).forced with
      | true => exact ⟨0, 0, by simp [binOp, Op.floatArith, h, hf]; rfl⟩
      | false => exact ⟨_, 1, by simp [binOp, Op.floatArith, h, hf]; exact ⟨rfl, rfl⟩⟩
  · cases h : FloatKind.f64.format.div x y with
    | some r => exact ⟨r, 0, by simp [binOp, Op.floatArith, h]; rfl⟩
    | none =>
      cases hf : (Question.nanBits .f64 x y).forced with
      | true => exact ⟨0, 0, by simp [binOp, Op.floatArith, h, hf]; rfl⟩
      | false => exact ⟨_, 1, by simp [binOp, Op.floatArith, h, hf]; exact ⟨rfl, rfl⟩⟩
def ExPost (r : Ending) : Prop := ∃ x b, r = .returned (.tuple #[.float .f64 x, .bool b])

set_option maxHeartbeats 1000000 in
set_option maxRecDepth 100000 in
theorem exact_calls (m : Nat) (p : Int) (w : World) (C : Nat) (hp : -400 ≤ p ∧ p ≤ 400) (hF : Hid (FlAt w C)) (h4 : w.cell? ⟨4, 0, none⟩ = some (.int .u64 52)) :
    Calls Tryz.prog 64 #[.int .u64 (m : Int), .int .i64 p, .bool false] w fun r w' => ExPost r ∧ ∃ n, w' = w.drewN n := by
  obtain ⟨L, o0, cap, l1, l2, l3, l4⟩ := hF.out
  have l3 := l3
  go_enter Tryz.func64, Tryz.ntmps64
  cases hb : (((m : Int) / 4503599627370496 != 0)) with
  | true =>
    go_wp2_with fail
    go_ret2
    exact ⟨⟨_, _, rfl⟩, 0, rfl⟩
  | false =>
    by_cases hp0 : p = 0
    · have t0 : (p == 0) = true := by simp; omega
      go_wp2_with fail
      go_ret2
      exact ⟨⟨_, _, rfl⟩, 0, rfl⟩
    · have t0 : (p == 0) = false := by simp; omega
      by_cases hneg : p < 0
      · have t1 : decide (0 < p) = false := by simp; omega
        by_cases h22 : -22 ≤ p
        · obtain ⟨n, rfl⟩ : ∃ n : Nat, p = -(n : Int) := ⟨(-p).toNat, by omega⟩
          obtain ⟨x, hx⟩ := l4 n (by omega)
          clear l4
          obtain ⟨r, nn, hr⟩ := float_any .quo (Or.inr rfl) 44 (floatOfInt .f64 (m : Int)) x w
          go_wp2_with fail
          go_ret2
          exact ⟨⟨_, _, rfl⟩, nn, rfl⟩
        · clear l4
          go_wp2_with fail
          go_ret2
          exact ⟨⟨_, _, rfl⟩, 0, rfl⟩
      · obtain ⟨n, rfl⟩ : ∃ n : Nat, p = (n : Int) := ⟨p.toNat, by omega⟩
        by_cases h37 : n ≤ 37
        · by_cases h22 : 22 < n
          · obtain ⟨x, hx⟩ := l4 (n - 22) (by omega)
            obtain ⟨y, hy⟩ := l4 22 (by omega)
            have hn22 : ((n : Int) - 22).toNat = n - 22 := by omega
            clear l4
            obtain ⟨r1, n1, hr1⟩ := float_any .mul (Or.inl rfl) 44 (floatOfInt .f64 (m : Int)) x w
            obtain ⟨r2, n2, hr2⟩ := float_any .mul (Or.inl rfl) 44 r1 y (w.drewN n1)
            have l3' : (w.drewN n1).cell? ⟨7, 0, none⟩ = _ := l3
            have hy' : (w.drewN n1).cell? ⟨L, o0 + 22, none⟩ = _ := hy
            cases hA : (FloatKind.f64.format.order r1 4831355200913801216 == some Ordering.gt) with
            | true =>
              go_wp2_with fail
              go_ret2
              exact ⟨⟨_, _, rfl⟩, n1, rfl⟩
            | false =>
              cases hB : (FloatKind.f64.format.order r1 14054727237768577024 == some Ordering.lt) with
              | true =>
                go_wp2_with fail
                go_ret2
                exact ⟨⟨_, _, rfl⟩, n1, rfl⟩
              | false =>
                go_wp2_with fail
                go_ret2
                exact ⟨⟨_, _, rfl⟩, n1 + n2, rfl⟩
          · obtain ⟨x, hx⟩ := l4 n (by omega)
            clear l4
            obtain ⟨r1, n1, hr1⟩ := float_any .mul (Or.inl rfl) 44 (floatOfInt .f64 (m : Int)) x w
            cases hA : (FloatKind.f64.format.order (floatOfInt .f64 (m : Int)) 4831355200913801216 == some Ordering.gt) with
            | true =>
              go_wp2_with fail
              go_ret2
              exact ⟨⟨_, _, rfl⟩, 0, rfl⟩
            | false =>
              cases hB : (FloatKind.f64.format.order (floatOfInt .f64 (m : Int)) 14054727237768577024 == some Ordering.lt) with
              | true =>
                go_wp2_with fail
                go_ret2
                exact ⟨⟨_, _, rfl⟩, 0, rfl⟩
              | false =>
                go_wp2_with fail
                go_ret2
                exact ⟨⟨_, _, rfl⟩, n1, rfl⟩
        · clear l4
          go_wp2_with fail
          go_ret2
          exact ⟨⟨_, _, rfl⟩, 0, rfl⟩

end Go.Proofs.YtlpkdagdfopchaaGreatDoor
