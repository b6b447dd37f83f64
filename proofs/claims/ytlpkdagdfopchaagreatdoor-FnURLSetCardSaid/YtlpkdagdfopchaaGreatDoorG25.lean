/- strconv.ParseFloat f36: whether its error is nil. -/
import Derived.Test.YtlpkdagdfopchaaGreatDoorG24
namespace Go.Proofs.YtlpkdagdfopchaaGreatDoor
open Go.RowKit
set_option linter.unusedVariables false
set_option linter.unusedSimpArgs false

/-- A number of figures, with one point at most. -/
def Good (s : ByteArray) : Prop := HasFig s s.size ∧ OneDot s s.size

structure IParse (s : ByteArray) (w : World) (r : Ending) (w' : World) : Prop where
  ret : ∃ x err, r = .returned (.tuple #[.float .f64 x, err]) ∧ ((Good s ∧ err = .nilIface) ∨ (¬ Good s ∧ err = .iface 53 (.int .i64 2)))
  below : Below w.heap.size w w'

set_option maxRecDepth 100000 in
theorem iparse_fig (s : ByteArray) (B : Int) (hB : B ≠ 32) (w : World) (hs1 : 1 ≤ s.size) (hs : s.size ≤ 199) (hF : Hid (FigB s)) (hE : Hid (Env w w.heap.size)) :
    Calls Tryz.prog 41 #[.string s, .int .i64 B] w fun r w' => IParse s w r w' := by
  have hne0 : ¬ s = ByteArray.empty := fun e => by subst e; simp at hs1
  go_enter Tryz.func41, Tryz.ntmps41
  go_wp2_with fail
  refine (prefix_fig s B hB _ hs1 hs hF hE).mono ?_
  rintro e w1 ⟨⟨m, p, tr, n, ok, x, err, hRF, rfl, h1, h2⟩, hb⟩
  have hr := Lib.hid hRF
  have h1 := Lib.hid h1
  have h2 := Lib.hid h2
  have hb := Lib.hid hb
  have hn := hr.out.le
  by_cases hend : n = s.size
  · have t1 : ((n : Int) != (s.size : Int)) = false := by simp; omega
    have hfin : Hid ((Good s ∧ err = .nilIface) ∨ (¬ Good s ∧ err = .iface 53 (.int .i64 2))) := Lib.hid (by
      cases ok with
      | true => exact Or.inl ⟨⟨by rw [← hend]; exact hr.out.okk.1 rfl, by rw [← hend]; exact hr.out.one⟩, h1.out rfl⟩
      | false => exact Or.inr ⟨fun hg => by
          have := hr.out.okk.2 (by rw [hend]; exact hg.1)
          simp at this, h2.out rfl⟩)
    clear hend hRF
    go_wp2_with fail
    go_ret2
    exact ⟨⟨x, err, rfl, hfin.out⟩, hb.out⟩
  · have t1 : ((n : Int) != (s.size : Int)) = true := by simp; omega
    have hfin : Hid (¬ Good s) := Lib.hid (fun hg => by
      obtain ⟨⟨j, j1, j2, j3⟩, h, h46⟩ := hr.out.two (by omega)
      exact hg.2 j n j1 h j2 h ⟨j3, h46⟩)
    clear hend hRF
    go_wp2_with fail
    go_ret2
    exact ⟨⟨0, _, rfl, Or.inr ⟨hfin.out, rfl⟩⟩, hb.out⟩

/-- What strconv.ParseFloat answers, as far as it is asked. -/
structure PF (ok : Prop) (w : World) (r : Ending) (w' : World) : Prop where
  ret : ∃ x err, r = .returned (.tuple #[.float .f64 x, err]) ∧ ((ok ∧ err = .nilIface) ∨ (¬ ok ∧ ∃ t u, err = .iface t u))
  below : Below w.heap.size w w'

set_option maxRecDepth 100000 in
theorem parse_letter (s : ByteArray) (B : Int) (hB : B ≠ 32) (w : World) (ev : Value) (hw : 0 < w.heap.size) (hv : w.cell? ⟨0, 0, none⟩ = some ev) (hev : ∃ te pe, ev = .iface te pe) (hs : 0 < s.size) (hsz : s.size ≤ 140737488355328) (h : (65 ≤ s[0].toNat ∧ s[0].toNat ≤ 90) ∨ (97 ≤ s[0].toNat ∧ s[0].toNat ≤ 122)) (hi : s[0].toNat ≠ 105 ∧ s[0].toNat ≠ 73 ∧ s[0].toNat ≠ 110 ∧ s[0].toNat ≠ 78) :
    Calls Tryz.prog 36 #[.string s, .int .i64 B] w fun r w' => PF False w r w' := by
  have hn1 : ∀ (u : Value) (w : World), (binOp .neq 46 (.iface 53 u) .nilIface).run Tryz.prog w = .ok (.bool true) w := fun u w => by kernel_rfl
  go_enter Tryz.func36, Tryz.ntmps36
  go_wp2_with fail
  refine (iparse_letter s B hB _ hs hsz h hi).mono ?_
  rintro e w1 ⟨rfl, rfl⟩
  go_wp2_with fail
  refine (toError_calls _ s _ _ ev _ hsz hs hw hv hev).mono ?_
  rintro e w2 ⟨⟨N, rfl⟩, hb⟩
  go_wp2_with fail
  go_ret2
  exact ⟨⟨_, _, rfl, Or.inr ⟨id, _, _, rfl⟩⟩, hb⟩

set_option maxRecDepth 100000 in
theorem parse_fig (s : ByteArray) (B : Int) (hB : B ≠ 32) (w : World) (ev : Value) (hw : 0 < w.heap.size) (hv : w.cell? ⟨0, 0, none⟩ = some ev) (hev : ∃ te pe, ev = .iface te pe) (hs1 : 1 ≤ s.size) (hs : s.size ≤ 199) (hF : Hid (FigB s)) (hE : Hid (Env w w.heap.size)) :
    Calls Tryz.prog 36 #[.string s, .int .i64 B] w fun r w' => PF (Good s) w r w' := by
  have hn1 : ∀ (u : Value) (w : World), (binOp .neq 46 (.iface 53 u) .nilIface).run Tryz.prog w = .ok (.bool true) w := fun u w => by kernel_rfl
  have hn2 : ∀ (w : World), (binOp .neq 46 .nilIface .nilIface).run Tryz.prog w = .ok (.bool false) w := fun w => by kernel_rfl
  go_enter Tryz.func36, Tryz.ntmps36
  go_wp2_with fail
  refine (iparse_fig s B hB _ hs1 hs hF hE).mono ?_
  rintro e w1 ⟨⟨x, err, rfl, hh⟩, hb⟩
  have hb := Lib.hid hb
  rcases hh with ⟨hg, rfl⟩ | ⟨hg, rfl⟩
  · have hg := Lib.hid hg
    go_wp2_with fail
    go_ret2
    exact ⟨⟨_, _, rfl, Or.inl ⟨hg.out, rfl⟩⟩, hb.out⟩
  · have hg := Lib.hid hg
    go_wp2_with fail
    refine (toError_calls _ s _ _ ev _ (by omega) (by omega) (by have := hb.out.size; omega) (by rw [below_cell hb.out 0 0 hw]; exact hv) hev).mono ?_
    rintro e w2 ⟨⟨N, rfl⟩, hb2⟩
    have hb2 := Lib.hid hb2
    go_wp2_with fail
    go_ret2
    exact ⟨⟨_, _, rfl, Or.inr ⟨hg.out, _, _, rfl⟩⟩, hb.out.trans (hb2.out.mono hb.out.size)⟩

end Go.Proofs.YtlpkdagdfopchaaGreatDoor
