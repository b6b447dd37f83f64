/- Mul64 f84, bool2 f62 f76, unmin f77, round f79, prescale f74, uscale f75. -/
import Derived.Test.YtlpkdagdfopchaaGreatDoorG16
namespace Go.Proofs.YtlpkdagdfopchaaGreatDoor
open Go.RowKit
set_option linter.unusedVariables false
set_option linter.unusedSimpArgs false

def b2u : Bool → Int
  | true => 1
  | false => 0
set_option maxRecDepth 100000 in
theorem bool2u_calls (b : Bool) (w : World) : Calls Tryz.prog 62 #[.bool b] w fun r w' => r = .returned (.int .u64 (b2u b)) ∧ w' = w := by
  go_enter Tryz.func62, Tryz.ntmps62
  cases b <;>
  · go_wp2_with fail
    go_ret
    exact ⟨rfl, rfl⟩
set_option maxRecDepth 100000 in
theorem bool2i_calls (b : Bool) (w : World) : Calls Tryz.prog 76 #[.bool b] w fun r w' => (∃ z : Nat, z ≤ 1 ∧ r = .returned (.int .i64 (z : Int))) ∧ w' = w := by
  go_enter Tryz.func76, Tryz.ntmps76
  cases b
  · go_wp2_with fail
    go_ret
    exact ⟨⟨0, by omega, rfl⟩, rfl⟩
  · go_wp2_with fail
    go_ret
    exact ⟨⟨1, by omega, rfl⟩, rfl⟩
set_option maxRecDepth 100000 in
theorem unmin_calls (x : Int) (w : World) : Calls Tryz.prog 77 #[.int .u64 x] w fun r w' => (∃ z, r = .returned (.int .u64 z)) ∧ w' = w := by
  go_enter Tryz.func77, Tryz.ntmps77
  go_wp2_with fail
  go_ret
  exact ⟨⟨_, rfl⟩, rfl⟩
set_option maxRecDepth 100000 in
theorem round_calls (x : Int) (w : World) : Calls Tryz.prog 79 #[.int .u64 x] w fun r w' => (∃ z, r = .returned (.int .u64 z)) ∧ w' = w := by
  go_enter Tryz.func79, Tryz.ntmps79
  go_wp2_with fail
  go_ret
  exact ⟨⟨_, rfl⟩, rfl⟩
set_option maxRecDepth 100000 in
theorem mul64_calls (x y : Int) (w : World) : Calls Tryz.prog 84 #[.int .u64 x, .int .u64 y] w fun r w' => (∃ a b, r = .returned (.tuple #[.int .u64 a, .int .u64 b])) ∧ w' = w := by
  go_enter Tryz.func84, Tryz.ntmps84
  go_wp2_with fail
  go_ret2
  exact ⟨⟨_, _, rfl⟩, rfl⟩

/-- The table of powers of ten, below block C. -/
def TabAt (w : World) (C : Nat) : Prop := 8 < C ∧ ∀ i, i < 696 → (∃ hi, w.cell? ⟨8, i * 2, none⟩ = some (.int .u64 hi)) ∧ ∃ lo, w.cell? ⟨8, i * 2 + 1, none⟩ = some (.int .u64 lo)
theorem TabAt.below {w w' : World} {C : Nat} (h : TabAt w C) (hb : Below C w w') : TabAt w' C := by
  obtain ⟨h1, h2⟩ := h
  refine ⟨h1, fun i hi => ?_⟩
  rw [below_cell hb 8 _ h1, below_cell hb 8 _ h1]
  exact h2 i hi
/-- What prescale lays. -/
structure PreAt (w : World) (A : Nat) (hi lo s : Int) : Prop where
  a : w.cell? ⟨A, 0, none⟩ = some (.int .u64 hi)
  b : w.cell? ⟨A, 1, none⟩ = some (.int .u64 lo)
  c : w.cell? ⟨A, 2, none⟩ = some (.int .i64 s)
  free : ∀ j, j < 3 → w.frozen? ⟨A, j, none⟩ = false

theorem PreAt.laid {w : World} {A : Nat} {hi0 lo0 s0 : Int} (h : PreAt w A hi0 lo0 s0) (hi lo s : Int) :
    PreAt (((w.setCell ⟨A, 0, none⟩ (.int .u64 hi)).setCell ⟨A, 1, none⟩ (.int .u64 lo)).setCell ⟨A, 2, none⟩ (.int .i64 s)) A hi lo s := by
  refine ⟨cell_other (cell_other (World.cell?_setCell_same _ _ _ h.a) (by omega)) (by omega), cell_other (World.cell?_setCell_same _ _ _ (cell_other h.b (by omega))) (by omega), World.cell?_setCell_same _ _ _ (cell_other (cell_other h.c (by omega)) (by omega)), fun j hj => by simpa [go_sem] using h.free j hj⟩

set_option maxRecDepth 100000 in
theorem prescale_calls (A q : Nat) (e lp hi0 lo0 s0 : Int) (w : World) (hq : q < 696) (hT : Hid (TabAt w A)) (hP : Hid (PreAt w A hi0 lo0 s0)) (hb : -100000 ≤ e + lp ∧ e + lp ≤ 100000 ∧ -100000 ≤ e ∧ e ≤ 100000) :
    Calls Tryz.prog 74 #[.pointer (some ⟨A, 0, none⟩), .int .i64 e, .int .i64 ((q : Int) - 348), .int .i64 lp] w fun r w' => r = .returned (.tuple #[]) ∧ (∃ hi lo, PreAt w' A hi lo (-(e + lp + 3))) ∧ Below A w w' ∧ w'.heap.size = w.heap.size := by
  obtain ⟨h8, ht⟩ := hT.out
  obtain ⟨⟨hi, t0⟩, lo, t1⟩ := ht q hq
  have p0 := hP.out.a
  have p1 := hP.out.b
  have p2 := hP.out.c
  have f0 := hP.out.free 0 (by omega)
  have f1 := hP.out.free 1 (by omega)
  have f2 := hP.out.free 2 (by omega)
  clear ht
  go_enter Tryz.func74, Tryz.ntmps74
  go_wp2_with fail
  go_returns
  exact ⟨rfl, ⟨hi, lo, hP.out.laid hi lo _⟩, (((Below.refl A w).setCell (Nat.le_refl _) _).setCell (Nat.le_refl _) _).setCell (Nat.le_refl _) _, by rw [setCell_size, setCell_size, setCell_size]⟩

set_option maxRecDepth 100000 in
theorem uscale_calls (A : Nat) (x hi lo : Int) (w : World) (hP : Hid (PreAt w A hi lo 8)) :
    Calls Tryz.prog 75 #[.int .u64 x, .pointer (some ⟨A, 0, none⟩)] w fun r w' => (∃ z, r = .returned (.int .u64 z)) ∧ ∃ n, w' = w.drewN n := by
  have p0 := hP.out.a
  have p1 := hP.out.b
  have p2 := hP.out.c
  have hs : bits .and .i64 8 63 = 8 := by decide +kernel
  go_enter Tryz.func75, Tryz.ntmps75
  go_wp2_with fail
  refine (mul64_calls x hi _).mono ?_
  rintro e w1 ⟨⟨a, b, rfl⟩, rfl⟩
  cases hb : (IntKind.u64.wrap (a / 256 * 256) != a) with
  | true =>
    go_wp2_with fail
    go_ret
    exact ⟨⟨_, rfl⟩, 0, rfl⟩
  | false =>
    go_wp2_with fail
    refine (mul64_calls x lo _).mono ?_
    rintro e w1 ⟨⟨a2, b2, rfl⟩, rfl⟩
    go_wp2_with fail
    refine (bool2u_calls _ _).mono ?_
    rintro e w1 ⟨rfl, rfl⟩
    go_wp2_with fail
    go_quiet (first | (go_at_call 62; refine Calls.quiet_of_same (bool2u_calls _ _)))
    go_wp2_with fail
    go_ret
    exact ⟨⟨_, rfl⟩, _, rfl⟩

end Go.Proofs.YtlpkdagdfopchaaGreatDoor
