/- parseFloat64 f65. -/
import Derived.Test.YtlpkdagdfopchaaGreatDoorG17
namespace Go.Proofs.YtlpkdagdfopchaaGreatDoor
open Go.RowKit
set_option linter.unusedVariables false
set_option linter.unusedSimpArgs false

set_option maxHeartbeats 1000000 in
set_option maxRecDepth 100000 in
theorem pf64_calls (d q : Nat) (p sg : Int) (w : World) (hd : Hid (d < 18446744073709551616)) (hp : Hid (p = (q : Int) - 348)) (hb : -220 ≤ p ∧ p ≤ 200) (hT : Hid (TabAt w w.heap.size)) :
    Calls Tryz.prog 65 #[.int .u64 (d : Int), .int .i64 p, .int .u64 sg] w fun r w' => (∃ x, r = .returned (.tuple #[.float .f64 x, .nilIface])) ∧ Below w.heap.size w w' := by
  obtain rfl := hp.out
  have hq : q < 696 := by omega
  have HB0 := Lib.hid ((Below.refl w.heap.size w).alloc (Nat.le_refl _) (Obj.cells #[Value.int IntKind.u64 0, Value.int IntKind.u64 0, Value.int IntKind.i64 0] 104))
  have HT0 := Lib.hid (hT.out.below HB0.out)
  have HP0 : Hid (PreAt (w.alloc (Obj.cells #[Value.int IntKind.u64 0, Value.int IntKind.u64 0, Value.int IntKind.i64 0] 104)) w.heap.size 0 0 0) := Lib.hid ⟨by rw [World.cell?_alloc_at _ _ _ _ rfl]; rfl, by rw [World.cell?_alloc_at _ _ _ _ rfl]; rfl, by rw [World.cell?_alloc_at _ _ _ _ rfl]; rfl, fun j hj => by rw [World.frozen?_alloc_at _ _ _ _ rfl]⟩
  go_enter Tryz.func65, Tryz.ntmps65
  go_wp2_with fail
  refine (len64_calls d _ hd.out).mono ?_
  rintro e w1 ⟨⟨b, hb64, rfl⟩, rfl⟩
  go_wp2_with fail
  refine (log2_calls _ _ hb).mono ?_
  rintro e w1 ⟨⟨lp, l0, l1, rfl⟩, rfl⟩
  go_wp2_with fail
  generalize hA : w1.heap.size = A at HT0 HP0 HB0 ⊢
  generalize w1.alloc (Obj.cells #[Value.int IntKind.u64 0, Value.int IntKind.u64 0, Value.int IntKind.i64 0] 104) = w2 at HT0 HP0 HB0 ⊢
  refine (prescale_calls A q (53 - (b : Int) - lp - (64 - (b : Int))) lp 0 0 0 _ hq HT0 HP0 (by omega)).mono ?_
  rintro e w3 ⟨rfl, ⟨hi, lo, hP⟩, hB, hS⟩
  rw [show -(53 - (b : Int) - lp - (64 - (b : Int)) + lp + 3) = 8 from by omega] at hP
  have HP := Lib.hid hP
  have p2 := hP.c
  have HB := Lib.hid (HB0.out.trans hB)
  clear hP hB hS HB0 HP0
  go_wp2_with fail
  refine (uscale_calls A _ hi lo _ HP).mono ?_
  rintro e w4 ⟨⟨z, rfl⟩, n, rfl⟩
  have HB2 := Lib.hid (below_drewN HB.out n)
  generalize w3.drewN n = w4 at HB2 ⊢
  clear p2
  go_wp2_with fail
  refine (unmin_calls _ _).mono ?_
  rintro e w5 ⟨⟨z2, rfl⟩, rfl⟩
  go_wp2_with fail
  refine (bool2i_calls _ _).mono ?_
  rintro e w6 ⟨⟨z3, hz3, rfl⟩, rfl⟩
  go_wp2_with fail
  refine (round_calls _ _).mono ?_
  rintro e w7 ⟨⟨z4, rfl⟩, rfl⟩
  go_wp2_with fail
  refine (pack64_calls _ _ _ (by omega)).mono ?_
  rintro e w8 ⟨⟨x, rfl⟩, rfl⟩
  go_wp2_with fail
  go_ret2
  exact ⟨⟨_, rfl⟩, by rw [hA]; exact HB2.out⟩

end Go.Proofs.YtlpkdagdfopchaaGreatDoor
