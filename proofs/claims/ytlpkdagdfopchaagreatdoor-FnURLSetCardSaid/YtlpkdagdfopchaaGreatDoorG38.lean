/- impl.URLSet f6, laws.FnURLSet f3. -/
import Derived.Test.YtlpkdagdfopchaaGreatDoorG37
namespace Go.Proofs.YtlpkdagdfopchaaGreatDoor
open Go.RowKit
set_option linter.unusedVariables false
set_option linter.unusedSimpArgs false

set_option maxHeartbeats 1000000 in
set_option maxRecDepth 100000 in
theorem setString_calls (A : ByteArray) (w : World) : Calls Tryz.prog 18 #[.agg #[.string A]] w fun e w' => e = .returned (.string A) ∧ Below w.heap.size w w' := by
  have hB := Lib.hid ((Below.refl w.heap.size w).alloc (Nat.le_refl _) (Obj.cells #[Value.string A] 33))
  go_enter Tryz.func18, Tryz.ntmps18
  go_wp2_with fail
  go_ret
  exact ⟨rfl, hB.out⟩

set_option maxHeartbeats 1000000 in
set_option maxRecDepth 100000 in
theorem impl_calls (s : ByteArray) (hs : s.size ≤ 200) (ha : asciiB s = true) (R : List UInt8) (hR : Hid (setL (s.size + 1) s.data.toList [] = (R, true))) (w : World) (hE : Hid (Env2 w w.heap.size)) :
    Calls Tryz.prog 6 #[.string s] w fun e w' => (∃ A : ByteArray, e = .returned (.string A) ∧ A.data.toList = finL R) ∧ Below w.heap.size w w' := by
  have hpl : Hid ((asciiB s && smallB s) = true) := Lib.hid (by rw [ha, smallB, decide_eq_true hs]; rfl)
  have hB := Lib.hid ((Below.refl w.heap.size w).alloc (Nat.le_refl _) (Obj.cells #[Value.string s] 9))
  have hsz : Hid (w.heap.size ≤ (w.alloc (Obj.cells #[Value.string s] 9)).heap.size) := Lib.hid hB.out.size
  go_enter Tryz.func6, Tryz.ntmps6
  go_wp2_with fail
  refine (isPlain_one s _ _ _ (by exact strsAt_new _ _ [s] 9 (by simp)) (by omega)).mono ?_
  rintro e w1 ⟨rfl, rfl⟩
  rw [hpl.out]
  have hE1 := Lib.hid ((hE.out.below hB.out).up hsz.out)
  go_wp2_with fail
  refine (sanitized_calls s hs R hR _ hE1).mono ?_
  rintro e w2 ⟨⟨A, rfl, hA⟩, hb⟩
  have hB2 := Lib.hid (below_then hB.out hsz.out hb)
  have hA := Lib.hid hA
  clear hb
  go_wp2_with fail
  refine (setString_calls A _).mono ?_
  rintro e w3 ⟨rfl, hb⟩
  have hB3 := Lib.hid (below_then hB2.out hB2.out.size hb)
  clear hb
  go_wp2_with fail
  go_ret
  exact ⟨⟨A, rfl, hA.out⟩, hB3.out⟩

theorem toList_same {A B : ByteArray} (h : A.data.toList = B.data.toList) : (A.toList == B.toList) = true := by
  rw [ByteArray.toList_eq, ByteArray.toList_eq, h]
  exact beq_self_eq_true _

set_option maxHeartbeats 1000000 in
set_option maxRecDepth 100000 in
theorem fnURLSet_calls (s : ByteArray) (w : World) (hE : Hid (Env2 w w.heap.size)) :
    Calls Tryz.prog 3 #[.string s] w fun e w' => e = .returned (.bool true) ∧ Below w.heap.size w w' := by
  by_cases hs : s.size ≤ 2147483647
  · have hs' : ¬ 2147483647 < s.size := by omega
    go_enter Tryz.func3, Tryz.ntmps3
    go_wp2_with fail
    refine (specSet_calls s hs _).mono ?_
    rintro e w1 ⟨A, b, rfl, hb0, hA0, hbel⟩
    have hB1 := Lib.hid hbel
    have hb := Lib.hid hb0
    have hA := Lib.hid hA0
    clear hbel hb0 hA0
    go_wp2_with fail
    refine (ascii_calls s _ hs).mono ?_
    rintro e w2 ⟨rfl, rfl⟩
    by_cases hpl : asciiB s = true ∧ s.size ≤ 200
    · have hpe : Hid ((asciiB s && smallB s) = true) := Lib.hid (by rw [hpl.1, smallB, decide_eq_true hpl.2]; rfl)
      have hpl := Lib.hid hpl
      rw [hpe.out]
      cases b with
      | false =>
        go_wp2_with fail
        go_ret
        exact ⟨rfl, hB1.out⟩
      | true =>
        have hR : Hid (setL (s.size + 1) s.data.toList [] = ((setL (s.size + 1) s.data.toList []).1, true)) := Lib.hid (by
          have := hb.out
          generalize setL (s.size + 1) s.data.toList [] = p at *
          obtain ⟨p1, p2⟩ := p
          simp at this
          subst this
          rfl)
        have hAA := Lib.hid (hA.out rfl)
        go_wp2_with fail
        refine (impl_calls s hpl.out.2 hpl.out.1 _ hR _ (Lib.hid ((hE.out.below hB1.out).up hB1.out.size))).mono ?_
        rintro e w3 ⟨⟨A2, rfl, hA2⟩, hbel⟩
        have hB2 := Lib.hid (below_then hB1.out hB1.out.size hbel)
        have hsame := toList_same (hA2.trans hAA.out.symm)
        clear hA2 hbel
        go_wp2_with fail
        go_ret
        exact ⟨by first | rfl | (rw [hsame]), hB2.out⟩
    · have hpe : Hid ((asciiB s && smallB s) = false) := Lib.hid (by
        cases ha : asciiB s
        · rfl
        · rw [smallB, decide_eq_false (fun h => hpl ⟨ha, h⟩)]; rfl)
      rw [hpe.out]
      clear hpl
      go_wp2_with fail
      go_ret
      exact ⟨rfl, hB1.out⟩
  · have hs' : 2147483647 < s.size := by omega
    go_enter Tryz.func3, Tryz.ntmps3
    go_wp2_with fail
    go_ret
    exact ⟨rfl, Below.refl _ _⟩

end Go.Proofs.YtlpkdagdfopchaaGreatDoor
