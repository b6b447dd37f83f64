/- internal/stringslite.Clone f50 (the shelf's contract, laid at this program's numbers), strconv.syntaxError f44, toError f42. -/
import Derived.Test.YtlpkdagdfopchaaGreatDoorG22
import Derived.Shelf.Pu.Clone
import Derived.Lib.Strings
import Derived.Lib.Walk
import Derived.Deep.RegionWith
namespace Go.Proofs.YtlpkdagdfopchaaGreatDoor
open Go.RowKit
set_option linter.unusedVariables false
set_option linter.unusedSimpArgs false

open Go.Shelf in
def layCloneRen : Go.Shelf.Ren := ⟨fun | 25 => 50 | n => n, fun | 0 => 0 | 3 => 3 | 4 => 4 | 5 => 5 | 9 => 9 | 37 => 38 | 47 => 92 | n => n, fun n => n⟩
theorem layClone : LaysPu.n25 Tryz.prog layCloneRen :=
  { mixed := by kernel_rfl,
    f25 := Tryz.func50.trans (congrArg some (by kernel_rfl)),
    t0 := Tryz.underlying0,
    a0 := Tryz.isAgg0,
    z0 := Tryz.sizeOf0,
    v0 := Tryz.zeroValue0,
    i0 := by kernel_rfl,
    t3 := Tryz.underlying3,
    a3 := Tryz.isAgg3,
    z3 := Tryz.sizeOf3,
    v3 := Tryz.zeroValue3,
    i3 := by kernel_rfl,
    t4 := Tryz.underlying4,
    a4 := Tryz.isAgg4,
    z4 := Tryz.sizeOf4,
    v4 := Tryz.zeroValue4,
    i4 := by kernel_rfl,
    t5 := Tryz.underlying5,
    a5 := Tryz.isAgg5,
    z5 := Tryz.sizeOf5,
    v5 := Tryz.zeroValue5,
    i5 := by kernel_rfl,
    t9 := Tryz.underlying9,
    a9 := Tryz.isAgg9,
    z9 := Tryz.sizeOf9,
    v9 := Tryz.zeroValue9,
    i9 := by kernel_rfl,
    t37 := Tryz.underlying38,
    a37 := Tryz.isAgg38,
    z37 := Tryz.sizeOf38,
    v37 := Tryz.zeroValue38,
    i37 := by kernel_rfl,
    t47 := Tryz.underlying92,
    a47 := Tryz.isAgg92,
    z47 := Tryz.sizeOf92,
    v47 := Tryz.zeroValue92,
    i47 := by kernel_rfl }

theorem clone_calls (s : ByteArray) (w : World) (hlim : s.size ≤ 140737488355328) :
    Calls Tryz.prog 50 #[.string s] w fun e w' => e = .returned (.string s) ∧ Below w.heap.size w w' :=
  AnyPu.stringslite_Clone layClone s w (Nat.le_trans hlim (by decide))


set_option maxHeartbeats 4000000 in
set_option maxRecDepth 100000 in
theorem syntaxError_calls (fn s : ByteArray) (ev : Value) (w : World) (hlim : s.size ≤ 140737488355328) (h0 : 0 < s.size) (hw : 0 < w.heap.size) (hv : w.cell? ⟨0, 0, none⟩ = some ev) (hev : ∃ te pe, ev = .iface te pe) :
    Calls Tryz.prog 44 #[.string fn, .string s] w fun e w' => (∃ N, e = .returned (.pointer (some ⟨N, 0, none⟩))) ∧ Below w.heap.size w w' := by
  obtain ⟨te, pe, rfl⟩ := hev
  have hvd : w.drew.cell? ⟨0, 0, none⟩ = some (.iface te pe) := hv
  go_enter Tryz.func44, Tryz.ntmps44
  go_wp2_with fail
  go_region_with (
    go_at_call 50
    refine (clone_calls s _ hlim).mono ?_
    rintro e w2 ⟨rfl, hbel⟩
    have hv2 : w2.cell? ⟨0, 0, none⟩ = some (.iface te pe) := (hbel.cell (show (⟨0, 0, none⟩ : Addr).block < w.drew.heap.size from hw)).trans hvd)
  all_goals
    go_wp2_with fail
    go_ret
    exact ⟨⟨_, rfl⟩, ((Below.drew (Below.refl _ w)).trans hbel).alloc hbel.size _⟩

set_option maxRecDepth 100000 in
theorem toError_calls (fn s : ByteArray) (b c : Int) (ev : Value) (w : World) (hlim : s.size ≤ 140737488355328) (h0 : 0 < s.size) (hw : 0 < w.heap.size) (hv : w.cell? ⟨0, 0, none⟩ = some ev) (hev : ∃ te pe, ev = .iface te pe) :
    Calls Tryz.prog 42 #[.string fn, .string s, .int .i64 b, .int .i64 c, .iface 53 (.int .i64 2)] w fun e w' => (∃ N, e = .returned (.iface 54 (.pointer (some ⟨N, 0, none⟩)))) ∧ Below w.heap.size w w' := by
  have he : ∀ w : World, (binOp .eql 46 (.iface 53 (.int .i64 2)) (.iface 53 (.int .i64 2))).run Tryz.prog w = .ok (.bool true) w := fun w => by kernel_rfl
  go_enter Tryz.func42, Tryz.ntmps42
  go_wp2_with fail
  refine (syntaxError_calls fn s ev _ hlim h0 hw hv hev).mono ?_
  rintro e w2 ⟨⟨N, rfl⟩, hb⟩
  go_wp2_with fail
  go_ret
  exact ⟨⟨N, rfl⟩, hb⟩

/-- What ParseFloat answers, as far as it is asked. -/
structure PFPost (nil : Bool) (w : World) (r : Ending) (w' : World) : Prop where
  ret : ∃ x err, r = .returned (.tuple #[.float .f64 x, err]) ∧ (nil = true → err = .nilIface) ∧ (nil = false → ∃ t u, err = .iface t u)
  below : Below w.heap.size w w'

set_option maxRecDepth 100000 in
theorem prefix_letter (s : ByteArray) (B : Int) (hB : B ≠ 32) (w : World) (hs : 0 < s.size) (hsz : s.size ≤ 140737488355328) (h : (65 ≤ s[0].toNat ∧ s[0].toNat ≤ 90) ∨ (97 ≤ s[0].toNat ∧ s[0].toNat ≤ 122)) (hi : s[0].toNat ≠ 105 ∧ s[0].toNat ≠ 73 ∧ s[0].toNat ≠ 110 ∧ s[0].toNat ≠ 78) :
    Calls Tryz.prog 43 #[.string s, .int .i64 B] w fun r w' => r = .returned (.tuple #[.float .f64 0, .int .i64 0, .iface 53 (.int .i64 2)]) ∧ w' = w := by
  have hB2 : (B == 32) = false := by simp; omega
  go_enter Tryz.func43, Tryz.ntmps43
  go_wp2_with fail
  refine (atof_letter s _ hs hsz h hi).mono ?_
  rintro e w1 ⟨rfl, rfl⟩
  go_wp2_with fail
  refine bodyPost_ret (results_tmp3 rfl _ _ _) rfl ?_
  exact ⟨rfl, rfl⟩
set_option maxRecDepth 100000 in
theorem prefix_fig (s : ByteArray) (B : Int) (hB : B ≠ 32) (w : World) (hs1 : 1 ≤ s.size) (hs : s.size ≤ 199) (hF : Hid (FigB s)) (hE : Hid (Env w w.heap.size)) :
    Calls Tryz.prog 43 #[.string s, .int .i64 B] w fun r w' => AtofPost s w r w' := by
  have hB2 : (B == 32) = false := by simp; omega
  go_enter Tryz.func43, Tryz.ntmps43
  go_wp2_with fail
  refine (atof_calls s _ hs1 hs hF hE).mono ?_
  rintro e w1 ⟨⟨m, p, tr, n, ok, x, err, hRF, rfl, h1, h2⟩, hb⟩
  have hr := Lib.hid hRF
  have h1 := Lib.hid h1
  have h2 := Lib.hid h2
  go_wp2_with fail
  refine bodyPost_ret (results_tmp3 rfl _ _ _) rfl ?_
  exact ⟨⟨m, p, tr, n, ok, x, err, hr.out, rfl, h1.out, h2.out⟩, hb⟩
set_option maxRecDepth 100000 in
theorem iparse_letter (s : ByteArray) (B : Int) (hB : B ≠ 32) (w : World) (hs : 0 < s.size) (hsz : s.size ≤ 140737488355328) (h : (65 ≤ s[0].toNat ∧ s[0].toNat ≤ 90) ∨ (97 ≤ s[0].toNat ∧ s[0].toNat ≤ 122)) (hi : s[0].toNat ≠ 105 ∧ s[0].toNat ≠ 73 ∧ s[0].toNat ≠ 110 ∧ s[0].toNat ≠ 78) :
    Calls Tryz.prog 41 #[.string s, .int .i64 B] w fun r w' => r = .returned (.tuple #[.float .f64 0, .iface 53 (.int .i64 2)]) ∧ w' = w := by
  have hne : ((0 : Int) != (s.size : Int)) = true := by simp; omega
  have hne0 : ¬ s = ByteArray.empty := fun e => by subst e; simp at hs
  go_enter Tryz.func41, Tryz.ntmps41
  go_wp2_with fail
  refine (prefix_letter s B hB _ hs hsz h hi).mono ?_
  rintro e w1 ⟨rfl, rfl⟩
  go_wp2_with fail
  go_ret2
  exact ⟨rfl, rfl⟩

end Go.Proofs.YtlpkdagdfopchaaGreatDoor
