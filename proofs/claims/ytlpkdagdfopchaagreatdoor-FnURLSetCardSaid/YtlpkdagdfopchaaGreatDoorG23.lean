/- A decimal as it is made: all noughts. -/
import Derived.Test.YtlpkdagdfopchaaGreatDoorG21
namespace Go.Proofs.YtlpkdagdfopchaaGreatDoor
open Go.RowKit
set_option linter.unusedVariables false
set_option linter.unusedSimpArgs false
def okz (v : Option Value) : Bool := match v with
  | some (.int .u8 0) => true
  | _ => false
theorem okz_of {v : Option Value} (h : okz v = true) : v = some (.int .u8 0) := by
  unfold okz at h
  split at h
  · rfl
  · simp at h
set_option maxRecDepth 100000 in
theorem zero84a : (List.range 800).all (fun j => okz (Tryz.zeroCells84[j]?)) = true := by kernel_rfl
theorem zero84b : Tryz.zeroCells84[800]? = some (.int .i64 0) := by kernel_rfl
theorem zero84c : Tryz.zeroCells84[801]? = some (.int .i64 0) := by kernel_rfl
theorem zero84d : Tryz.zeroCells84[802]? = some (.bool false) := by kernel_rfl
theorem zero84e : Tryz.zeroCells84[803]? = some (.bool false) := by kernel_rfl
theorem decZero (w : World) (C : Nat) (hC : C = w.heap.size) : DecAt (w.alloc (Obj.cells Tryz.zeroCells84 84)) C (fun _ => 0) (0 : Nat) 0 := by
  have hc : ∀ j, (w.alloc (Obj.cells Tryz.zeroCells84 84)).cell? ⟨C, j, none⟩ = Tryz.zeroCells84[j]? := fun j => World.cell?_alloc_at _ _ _ _ hC
  refine ⟨fun j hj => ?_, fun j hj => World.frozen?_alloc_at _ _ _ _ hC, fun j => by decide, ?_, ?_, ⟨false, ?_⟩, ⟨false, ?_⟩⟩
  · rw [hc]
    exact okz_of (List.all_eq_true.1 zero84a j (List.mem_range.2 hj))
  · rw [hc]; exact zero84b
  · rw [hc]; exact zero84c
  · rw [hc]; exact zero84d
  · rw [hc]; exact zero84e
end Go.Proofs.YtlpkdagdfopchaaGreatDoor
