/- ParseFloat of nothing; figures and points counted. -/
import Derived.Test.YtlpkdagdfopchaaGreatDoorG25
import Derived.Test.YtlpkdagdfopchaaGreatDoorG27
namespace Go.Proofs.YtlpkdagdfopchaaGreatDoor
open Go.RowKit
set_option linter.unusedVariables false
set_option linter.unusedSimpArgs false

def emptyB : ByteArray := ⟨#[]⟩
set_option maxRecDepth 100000 in
theorem special_empty (w : World) : Calls Tryz.prog 53 #[.string emptyB] w fun r w' => r = .returned (.tuple #[.float .f64 0, .int .i64 0, .bool false]) ∧ w' = w := by
  unfold emptyB
  go_enter Tryz.func53, Tryz.ntmps53
  go_wp2_with fail
  refine bodyPost_ret (results_tmp3 rfl _ _ _) rfl ?_
  exact ⟨rfl, rfl⟩
set_option maxRecDepth 100000 in
theorem readFloat_empty (w : World) : Calls Tryz.prog 54 #[.string emptyB] w fun r w' => r = .returned (.tuple #[.int .u64 0, .int .i64 0, .bool false, .bool false, .bool false, .int .i64 0, .bool false]) ∧ w' = w := by
  unfold emptyB
  go_enter Tryz.func54, Tryz.ntmps54
  go_wp2
  go_step3
  go_wp2_with fail
  rw [Exit.noGoto_ret]
  refine bodyPost_ret (results_tmp7 rfl _ _ _) rfl ?_
  exact ⟨rfl, rfl⟩
set_option maxRecDepth 100000 in
theorem atof_empty (w : World) : Calls Tryz.prog 49 #[.string emptyB] w fun r w' => r = .returned (.tuple #[.float .f64 0, .int .i64 0, .iface 53 (.int .i64 2)]) ∧ w' = w := by
  go_enter Tryz.func49, Tryz.ntmps49
  go_wp2_with fail
  refine (special_empty _).mono ?_
  rintro e w1 ⟨rfl, rfl⟩
  go_wp2_with fail
  refine (readFloat_empty _).mono ?_
  rintro e w1 ⟨rfl, rfl⟩
  go_wp2_with fail
  refine bodyPost_ret (results_tmp3 rfl _ _ _) rfl ?_
  exact ⟨rfl, rfl⟩
set_option maxRecDepth 100000 in
theorem iparse_empty (B : Int) (hB : B ≠ 32) (w : World) : Calls Tryz.prog 41 #[.string emptyB, .int .i64 B] w fun r w' => r = .returned (.tuple #[.float .f64 0, .iface 53 (.int .i64 2)]) ∧ w' = w := by
  have hp : ∀ w : World, Calls Tryz.prog 43 #[.string emptyB, .int .i64 B] w fun r w' => r = .returned (.tuple #[.float .f64 0, .int .i64 0, .iface 53 (.int .i64 2)]) ∧ w' = w := fun w => by
    have hB2 : (B == 32) = false := by simp; omega
    go_enter Tryz.func43, Tryz.ntmps43
    go_wp2_with fail
    refine (atof_empty _).mono ?_
    rintro e w1 ⟨rfl, rfl⟩
    go_wp2_with fail
    refine bodyPost_ret (results_tmp3 rfl _ _ _) rfl ?_
    exact ⟨rfl, rfl⟩
  have hp := Lib.hid hp
  have hs : emptyB.size = 0 := rfl
  go_enter Tryz.func41, Tryz.ntmps41
  go_wp2_with fail
  refine (hp.out _).mono ?_
  rintro e w1 ⟨rfl, rfl⟩
  go_wp2_with fail
  go_ret2
  exact ⟨rfl, rfl⟩
set_option maxRecDepth 100000 in
theorem clone_empty (w : World) : Calls Tryz.prog 50 #[.string emptyB] w fun e w' => e = .returned (.string emptyB) ∧ Below w.heap.size w w' := by
  unfold emptyB
  go_enter Tryz.func50, Tryz.ntmps50
  go_wp2_with fail
  go_ret
  exact ⟨rfl, Below.refl _ _⟩
set_option maxHeartbeats 4000000 in
set_option maxRecDepth 100000 in
theorem syntaxError_empty (fn : ByteArray) (ev : Value) (w : World) (hw : 0 < w.heap.size) (hv : w.cell? ⟨0, 0, none⟩ = some ev) (hev : ∃ te pe, ev = .iface te pe) :
    Calls Tryz.prog 44 #[.string fn, .string emptyB] w fun e w' => (∃ N, e = .returned (.pointer (some ⟨N, 0, none⟩))) ∧ Below w.heap.size w w' := by
  obtain ⟨te, pe, rfl⟩ := hev
  have hvd : w.drew.cell? ⟨0, 0, none⟩ = some (.iface te pe) := hv
  go_enter Tryz.func44, Tryz.ntmps44
  go_wp2_with fail
  go_region_with (
    go_at_call 50
    refine (clone_empty _).mono ?_
    rintro e w2 ⟨rfl, hbel⟩
    have hv2 : w2.cell? ⟨0, 0, none⟩ = some (.iface te pe) := (hbel.cell (show (⟨0, 0, none⟩ : Addr).block < w.drew.heap.size from hw)).trans hvd)
  all_goals
    go_wp2_with fail
    go_ret
    exact ⟨⟨_, rfl⟩, ((Below.drew (Below.refl _ w)).trans hbel).alloc hbel.size _⟩
set_option maxRecDepth 100000 in
theorem parse_empty (B : Int) (hB : B ≠ 32) (w : World) (ev : Value) (hw : 0 < w.heap.size) (hv : w.cell? ⟨0, 0, none⟩ = some ev) (hev : ∃ te pe, ev = .iface te pe) :
    Calls Tryz.prog 36 #[.string emptyB, .int .i64 B] w fun r w' => PF False w r w' := by
  have hn1 : ∀ (u : Value) (w : World), (binOp .neq 46 (.iface 53 u) .nilIface).run Tryz.prog w = .ok (.bool true) w := fun u w => by kernel_rfl
  have ht : ∀ (fn : ByteArray) (b c : Int) (w : World), 0 < w.heap.size → w.cell? ⟨0, 0, none⟩ = some ev → Calls Tryz.prog 42 #[.string fn, .string emptyB, .int .i64 b, .int .i64 c, .iface 53 (.int .i64 2)] w fun e w' => (∃ N, e = .returned (.iface 54 (.pointer (some ⟨N, 0, none⟩)))) ∧ Below w.heap.size w w' := fun fn b c w hw hv => by
    have he : ∀ w : World, (binOp .eql 46 (.iface 53 (.int .i64 2)) (.iface 53 (.int .i64 2))).run Tryz.prog w = .ok (.bool true) w := fun w => by kernel_rfl
    go_enter Tryz.func42, Tryz.ntmps42
    go_wp2_with fail
    refine (syntaxError_empty fn ev _ hw hv hev).mono ?_
    rintro e w2 ⟨⟨N, rfl⟩, hb⟩
    go_wp2_with fail
    go_ret
    exact ⟨⟨N, rfl⟩, hb⟩
  have ht := Lib.hid ht
  go_enter Tryz.func36, Tryz.ntmps36
  go_wp2_with fail
  refine (iparse_empty B hB _).mono ?_
  rintro e w1 ⟨rfl, rfl⟩
  go_wp2_with fail
  refine (ht.out _ _ _ _ hw hv).mono ?_
  rintro e w2 ⟨⟨N, rfl⟩, hb⟩
  go_wp2_with fail
  go_ret2
  exact ⟨⟨_, _, rfl, Or.inr ⟨id, _, _, rfl⟩⟩, hb⟩

theorem two_count (p : UInt8 → Bool) : ∀ l : List UInt8, 1 < List.countP p l ↔ ∃ (i j : Nat) (x y : UInt8), i < j ∧ l[i]? = some x ∧ l[j]? = some y ∧ p x = true ∧ p y = true
  | [] => by simp
  | a :: l => by
    have ih := two_count p l
    have one : 0 < List.countP p l ↔ ∃ (j : Nat) (y : UInt8), l[j]? = some y ∧ p y = true := by
      rw [List.countP_pos_iff]
      constructor
      · rintro ⟨y, hy, h⟩
        obtain ⟨j, hj⟩ := List.mem_iff_getElem?.1 hy
        exact ⟨j, y, hj, h⟩
      · rintro ⟨j, y, hj, h⟩
        exact ⟨y, List.mem_iff_getElem?.2 ⟨j, hj⟩, h⟩
    rw [List.countP_cons]
    constructor
    · intro h
      by_cases hp : p a = true
      · simp only [hp, if_true] at h
        obtain ⟨j, y, hj, hy⟩ := one.1 (by omega)
        exact ⟨0, j + 1, a, y, by omega, rfl, hj, hp, hy⟩
      · simp only [hp] at h
        obtain ⟨i, j, x, y, h1, h2, h3, h4, h5⟩ := ih.1 (by simpa using h)
        exact ⟨i + 1, j + 1, x, y, by omega, h2, h3, h4, h5⟩
    · rintro ⟨i, j, x, y, h1, h2, h3, h4, h5⟩
      obtain ⟨j, rfl⟩ : ∃ k, j = k + 1 := ⟨j - 1, by omega⟩
      rw [List.getElem?_cons_succ] at h3
      rcases Nat.eq_zero_or_pos i with e | e
      · subst e
        rw [List.getElem?_cons_zero] at h2
        injection h2 with h2
        subst h2
        have := one.2 ⟨j, y, h3, h5⟩
        simp only [h4, if_true]
        omega
      · obtain ⟨i, rfl⟩ : ∃ k, i = k + 1 := ⟨i - 1, by omega⟩
        rw [List.getElem?_cons_succ] at h2
        have := ih.2 ⟨i, j, x, y, by omega, h2, h3, h4, h5⟩
        omega
theorem get_data (s : ByteArray) (i : Nat) (x : UInt8) : s.data.toList[i]? = some x ↔ ∃ h : i < s.size, s[i] = x := by
  constructor
  · intro h
    obtain ⟨h1, h2⟩ := List.getElem?_eq_some_iff.1 h
    have h3 : i < s.size := by rw [Array.length_toList] at h1; exact h1
    exact ⟨h3, by rw [← h2]; simp [ByteArray.getElem_eq_getElem_data]⟩
  · rintro ⟨h, rfl⟩
    rw [List.getElem?_eq_some_iff]
    exact ⟨by rw [Array.length_toList]; exact h, by simp [ByteArray.getElem_eq_getElem_data]⟩
theorem oneDot_count (s : ByteArray) : OneDot s s.size ↔ s.data.toList.countP dotC ≤ 1 := by
  rw [← Nat.not_lt, two_count]
  constructor
  · rintro h ⟨i, j, x, y, hij, hx, hy, px, py⟩
    obtain ⟨h1, rfl⟩ := (get_data s i x).1 hx
    obtain ⟨h2, rfl⟩ := (get_data s j y).1 hy
    exact h i j h1 h2 hij h2 ⟨by simpa [dotC] using px, by simpa [dotC] using py⟩
  · intro h i j hi hj hij _ hh
    exact h ⟨i, j, s[i], s[j], hij, (get_data s i _).2 ⟨hi, rfl⟩, (get_data s j _).2 ⟨hj, rfl⟩, by simp [dotC, hh.1], by simp [dotC, hh.2]⟩
theorem figB_count (s : ByteArray) (h : s.data.toList.countP othC = 0) : FigB s := by
  intro j hj
  have := List.countP_eq_zero.1 h s[j] (getElem_mem_data s j hj)
  simp [othC, dotC, digitC] at this
  omega
theorem hasFig_count (s : ByteArray) (hF : FigB s) : HasFig s s.size ↔ 0 < s.data.toList.countP digitC := by
  rw [List.countP_pos_iff]
  constructor
  · rintro ⟨j, h1, h2, h3⟩
    have := hF j h1
    exact ⟨s[j], getElem_mem_data s j h1, by simp [digitC]; omega⟩
  · rintro ⟨x, hx, h⟩
    obtain ⟨j, hj⟩ := List.mem_iff_getElem?.1 hx
    obtain ⟨h1, rfl⟩ := (get_data s j x).1 hj
    refine ⟨j, h1, h1, ?_⟩
    simp [digitC] at h
    omega

end Go.Proofs.YtlpkdagdfopchaaGreatDoor
