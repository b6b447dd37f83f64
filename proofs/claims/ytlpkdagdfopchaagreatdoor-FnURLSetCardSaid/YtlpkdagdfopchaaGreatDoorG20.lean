/- special f53; what the library's floats read. -/
import Derived.Test.YtlpkdagdfopchaaGreatDoorG19
import Derived.Test.YtlpkdagdfopchaaGreatDoorG14
namespace Go.Proofs.YtlpkdagdfopchaaGreatDoor
open Go.RowKit
set_option linter.unusedVariables false
set_option linter.unusedSimpArgs false

structure Env (w : World) (C : Nat) : Prop where
  f : EnvF w C
  tab : TabAt w C
  fl : FlAt w C
  opt : w.cell? ⟨3, 0, none⟩ = some (.bool true)
theorem Env.below {w w' : World} {C : Nat} (h : Env w C) (hb : Below C w w') : Env w' C := ⟨h.f.below hb, h.tab.below hb, h.fl.below hb, by
  have h4 := h.f.flt.1
  rw [below_cell hb 3 _ (by omega)]; exact h.opt⟩
theorem Env.up {w : World} {C D : Nat} (h : Env w C) (hCD : C ≤ D) : Env w D := by
  obtain ⟨⟨⟨L, oa, cap, a1, a2, a3, a4⟩, ⟨P, ob, cap2, b1, b2, b3, b4⟩, c1, c2⟩, ⟨d1, d2⟩, ⟨F, oc, cap3, e1, e2, e3, e4⟩, o⟩ := h
  exact ⟨⟨⟨L, oa, cap, by omega, by omega, a3, a4⟩, ⟨P, ob, cap2, by omega, by omega, b3, b4⟩, by omega, c2⟩, ⟨by omega, d2⟩, ⟨F, oc, cap3, by omega, by omega, e3, e4⟩, o⟩

set_option maxRecDepth 100000 in
theorem special_calls (s : ByteArray) (w : World) (hs : 0 < s.size) (h : s[0].toNat ≠ 43 ∧ s[0].toNat ≠ 45 ∧ s[0].toNat ≠ 105 ∧ s[0].toNat ≠ 73 ∧ s[0].toNat ≠ 110 ∧ s[0].toNat ≠ 78) :
    Calls Tryz.prog 53 #[.string s] w fun r w' => r = .returned (.tuple #[.float .f64 0, .int .i64 0, .bool false]) ∧ w' = w := by
  have hne : ¬ s = ByteArray.empty := fun e => by subst e; simp at hs
  have t1 : ((s[0].toNat : Int) == 43) = false := by simp; omega
  have t2 : ((s[0].toNat : Int) == 45) = false := by simp; omega
  have t3 : ((s[0].toNat : Int) == 105) = false := by simp; omega
  have t4 : ((s[0].toNat : Int) == 73) = false := by simp; omega
  have t5 : ((s[0].toNat : Int) == 110) = false := by simp; omega
  have t6 : ((s[0].toNat : Int) == 78) = false := by simp; omega
  clear h
  go_enter Tryz.func53, Tryz.ntmps53
  go_wp2_with fail
  refine bodyPost_ret (results_tmp3 rfl _ _ _) rfl ?_
  exact ⟨rfl, rfl⟩

end Go.Proofs.YtlpkdagdfopchaaGreatDoor
