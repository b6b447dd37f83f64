/- internal/stringslite.Clone f50 (the shelf's proof, at this program's own numbers), strconv.syntaxError f44, toError f42. -/
import Derived.Test.YtlpkdagdfopchaaGreatDoorG22
import Derived.Lib.Strings
import Derived.Lib.Walk
import Derived.Lib.BufferWrite
import Derived.Lib.UnsafeStr
import Derived.Deep.RegionWith
namespace Go.Proofs.YtlpkdagdfopchaaGreatDoor
open Go.RowKit
set_option linter.unusedVariables false
set_option linter.unusedSimpArgs false

set_option maxHeartbeats 4000000 in
set_option maxRecDepth 100000 in
theorem clone_calls (s : ByteArray) (w : World) (hlim : s.size ≤ 140737488355328) (h0 : 0 < s.size) :
    Calls Tryz.prog 50 #[.string s] w fun e w' => e = .returned (.string s) ∧ Below w.heap.size w w' := by
  have hne0 : ¬ s = ByteArray.empty := fun e => by subst e; simp at h0
  obtain ⟨i0, hi, hz0, hz1, hz2⟩ := info_parts (P := Tryz.prog) (e := 5) (z := .int .u8 0) (size := 1) (bytes := 1) (by kernel_rfl)
  have t38 : Tryz.prog.underlying 38 = some (.slice 5) := by kernel_rfl
  have t92 : Tryz.prog.underlying 92 = some (.pointer 5) := by kernel_rfl
  have hinfo : (Tryz.prog.info? 5).map (·.size) = some 1 := by rw [hi]; simp [hz1]
  have hco : Tryz.prog.cellsOf 5 = 1 := by simp [Program.cellsOf, hi, hz1]
  obtain ⟨M, hM⟩ : ∃ M, M = madeCells (Value.int .u8 0).cells (((s.size : Nat) : Int).toNat * i0.size) := ⟨_, rfl⟩
  have hMs : M.size = s.size := by rw [hM, size_madeCells, hz1]; simp
  have hmk : ∀ W : World, (Instr.makeSlice 38 (.int .i64 (s.size : Int)) (.int .i64 (s.size : Int))).run Tryz.prog W = .ok (.slice (some ⟨W.heap.size, 0, none⟩) s.size s.size) (W.alloc (.cells M 5)) := fun W => by
    have h := run_make (P := Tryz.prog) W 38 5 i0 (.int .u8 0) t38 hi hz0 .i64 .i64 (s.size : Int) (s.size : Int) (by omega) (by omega) (by rw [hz2]; omega) (by omega)
    rw [← hM] at h
    simpa using h
  clear hM
  have hcp := Lib.run_copy_row_string (P := Tryz.prog) (w.alloc (.cells M 5)) 38 9 3 5 w.heap.size 0 s.size s.size s M 5 t38 hinfo (heap_alloc_new w _) (Nat.le_refl _) (by omega)
  obtain ⟨Y, hY⟩ : ∃ Y, Y = (M.toList.take 0 ++ Lib.byteCells s.data.toList ++ M.toList.drop (0 + s.size)).toArray := ⟨_, rfl⟩
  rw [← hY] at hcp
  have hYl : Y.toList = Lib.byteCells s.data.toList := by
    rw [hY, List.toList_toArray, List.take_zero, List.nil_append, List.drop_of_length_le (by rw [Array.length_toList]; omega), List.append_nil]
  have hYs : Y.size = s.size := by rw [← Array.length_toList, hYl, Lib.byteCells_length, ← Lib.size_eq]
  have hgY : ((w.alloc (.cells M 5)).setRow w.heap.size Y).heap[w.heap.size]? = some (.cells Y 5 (0, 0)) := setRow_heap _ _ M _ 5 (0, 0) (heap_alloc_new w _)
  have hne : s.data.toList ≠ [] := fun e => by
    have : s.size = 0 := by rw [Lib.size_eq, e]; rfl
    omega
  have hUS := Lib.run_unsafeString_row (P := Tryz.prog) ((w.alloc (.cells M 5)).setRow w.heap.size Y) 92 3 9 5 t92 hco w.heap.size Y.size (by unfold World.shape?; rw [hgY]) s.data.toList hne (by rw [← Lib.size_eq]; omega) (by rw [← Lib.size_eq]; omega)
    (fun j x hx => Lib.cells_of_row hgY Y.size j _ (by rw [List.take_of_length_le (by rw [Array.length_toList]; exact Nat.le_refl _), hYl]; simp [Lib.byteCells, hx]))
  rw [← Lib.size_eq] at hUS
  clear hY
  go_enter Tryz.func50, Tryz.ntmps50
  go_wp2_with fail
  go_ret
  have hb1 : Below w.heap.size w (w.alloc (.cells M 5)) := (Below.refl _ w).alloc (Nat.le_refl _) _
  have hb2 : Below w.heap.size (w.alloc (.cells M 5)) ((w.alloc (.cells M 5)).setRow w.heap.size Y) := ⟨rfl, rfl, rfl, by simp, fun k hk => setRow_other _ _ _ _ (by omega)⟩
  exact ⟨rfl, Lib.below_freeze (hb1.trans hb2) (p := ⟨w.heap.size, 0, none⟩) (Nat.le_refl _) _⟩

set_option maxHeartbeats 4000000 in
set_option maxRecDepth 100000 in
theorem syntaxError_calls (fn s : ByteArray) (ev : Value) (w : World) (hlim : s.size ≤ 140737488355328) (h0 : 0 < s.size) (hw : 0 < w.heap.size) (hv : w.cell? ⟨0, 0, none⟩ = some ev) (hev : ∃ te pe, ev = .iface te pe) :
    Calls Tryz.prog 44 #[.string fn, .string s] w fun e w' => (∃ N, e = .returned (.pointer (some ⟨N, 0, none⟩))) ∧ Below w.heap.size w w' := by
  obtain ⟨te, pe, rfl⟩ := hev
  have hvd : w.drew.cell? ⟨0, 0, none⟩ = some (.iface te pe) := hv
  go_enter Tryz.func44, Tryz.ntmps44
  go_wp2_with fail
  go_region_with (
    go_at_call 50
    refine (clone_calls s _ hlim h0).mono ?_
    rintro e w2 ⟨rfl, hbel⟩
    have hv2 : w2.cell? ⟨0, 0, none⟩ = some (.iface te pe) := (hbel.cell (show (⟨0, 0, none⟩ : Addr).block < w.drew.heap.size from hw)).trans hvd)
  all_goals
    go_wp2_with fail
    go_ret
    exact ⟨⟨_, rfl⟩, ((Below.drew (Below.refl _ w)).trans hbel).alloc hbel.size _⟩

set_option maxRecDepth 100000 in
theorem toError_calls (fn s : ByteArray) (b c : Int) (ev : Value) (w : World) (hlim : s.size ≤ 140737488355328) (h0 : 0 < s.size) (hw : 0 < w.heap.size) (hv : w.cell? ⟨0, 0, none⟩ = some ev) (hev : ∃ te pe, ev = .iface te pe) :
    Calls Tryz.prog 42 #[.string fn, .string s, .int .i64 b, .int .i64 c, .iface 53 (.int .i64 2)] w fun e w' => (∃ N, e = .returned (.iface 54 (.pointer (some ⟨N, 0, none⟩)))) ∧ Below w.heap.size w w' := by
  have he : ∀ w : World, (binOp .eql 46 (.iface 53 (.int .i64 2)) (.iface 53 (.int .i64 2))).run Tryz.prog w = .ok (.bool true) w := fun w => by kernel_rfl
  go_enter Tryz.func42, Tryz.ntmps42
  go_wp2_with fail
  refine (syntaxError_calls fn s ev _ hlim h0 hw hv hev).mono ?_
  rintro e w2 ⟨⟨N, rfl⟩, hb⟩
  go_wp2_with fail
  go_ret
  exact ⟨⟨N, rfl⟩, hb⟩

/-- What ParseFloat answers, as far as it is asked. -/
structure PFPost (nil : Bool) (w : World) (r : Ending) (w' : World) : Prop where
  ret : ∃ x err, r = .returned (.tuple #[.float .f64 x, err]) ∧ (nil = true → err = .nilIface) ∧ (nil = false → ∃ t u, err = .iface t u)
  below : Below w.heap.size w w'

set_option maxRecDepth 100000 in
theorem prefix_letter (s : ByteArray) (B : Int) (hB : B ≠ 32) (w : World) (hs : 0 < s.size) (hsz : s.size ≤ 140737488355328) (h : (65 ≤ s[0].toNat ∧ s[0].toNat ≤ 90) ∨ (97 ≤ s[0].toNat ∧ s[0].toNat ≤ 122)) (hi : s[0].toNat ≠ 105 ∧ s[0].toNat ≠ 73 ∧ s[0].toNat ≠ 110 ∧ s[0].toNat ≠ 78) :
    Calls Tryz.prog 43 #[.string s, .int .i64 B] w fun r w' => r = .returned (.tuple #[.float .f64 0, .int .i64 0, .iface 53 (.int .i64 2)]) ∧ w' = w := by
  have hB2 : (B == 32) = false := by simp; omega
  go_enter Tryz.func43, Tryz.ntmps43
  go_wp2_with fail
  refine (atof_letter s _ hs hsz h hi).mono ?_
  rintro e w1 ⟨rfl, rfl⟩
  go_wp2_with fail
  refine bodyPost_ret (results_tmp3 rfl _ _ _) rfl ?_
  exact ⟨rfl, rfl⟩
set_option maxRecDepth 100000 in
theorem prefix_fig (s : ByteArray) (B : Int) (hB : B ≠ 32) (w : World) (hs1 : 1 ≤ s.size) (hs : s.size ≤ 199) (hF : Hid (FigB s)) (hE : Hid (Env w w.heap.size)) :
    Calls Tryz.prog 43 #[.string s, .int .i64 B] w fun r w' => AtofPost s w r w' := by
  have hB2 : (B == 32) = false := by simp; omega
  go_enter Tryz.func43, Tryz.ntmps43
  go_wp2_with fail
  refine (atof_calls s _ hs1 hs hF hE).mono ?_
  rintro e w1 ⟨⟨m, p, tr, n, ok, x, err, hRF, rfl, h1, h2⟩, hb⟩
  have hr := Lib.hid hRF
  have h1 := Lib.hid h1
  have h2 := Lib.hid h2
  go_wp2_with fail
  refine bodyPost_ret (results_tmp3 rfl _ _ _) rfl ?_
  exact ⟨⟨m, p, tr, n, ok, x, err, hr.out, rfl, h1.out, h2.out⟩, hb⟩
set_option maxRecDepth 100000 in
theorem iparse_letter (s : ByteArray) (B : Int) (hB : B ≠ 32) (w : World) (hs : 0 < s.size) (hsz : s.size ≤ 140737488355328) (h : (65 ≤ s[0].toNat ∧ s[0].toNat ≤ 90) ∨ (97 ≤ s[0].toNat ∧ s[0].toNat ≤ 122)) (hi : s[0].toNat ≠ 105 ∧ s[0].toNat ≠ 73 ∧ s[0].toNat ≠ 110 ∧ s[0].toNat ≠ 78) :
    Calls Tryz.prog 41 #[.string s, .int .i64 B] w fun r w' => r = .returned (.tuple #[.float .f64 0, .iface 53 (.int .i64 2)]) ∧ w' = w := by
  have hne : ((0 : Int) != (s.size : Int)) = true := by simp; omega
  have hne0 : ¬ s = ByteArray.empty := fun e => by subst e; simp at hs
  go_enter Tryz.func41, Tryz.ntmps41
  go_wp2_with fail
  refine (prefix_letter s B hB _ hs hsz h hi).mono ?_
  rintro e w1 ⟨rfl, rfl⟩
  go_wp2_with fail
  go_ret2
  exact ⟨rfl, rfl⟩

end Go.Proofs.YtlpkdagdfopchaaGreatDoor
