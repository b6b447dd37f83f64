/- spec.Fields. -/
import Derived.Test.YtmgkolcpomaceaaJ1
namespace Go.Proofs.Ytmgkolcpomaceaa
open Go.RowKit
set_option linter.unusedVariables false
set_option linter.unusedSimpArgs false

def fieldsL : List Pr := [(⟨#[66, 97, 99, 107, 103, 114, 111, 117, 110, 100, 73, 109, 97, 103, 101, 85, 82, 76, 115]⟩, ⟨#[98, 97, 99, 107, 103, 114, 111, 117, 110, 100, 45, 105, 109, 97, 103, 101]⟩),
  (⟨#[70, 111, 110, 116, 70, 97, 109, 105, 108, 121]⟩, ⟨#[102, 111, 110, 116, 45, 102, 97, 109, 105, 108, 121]⟩),
  (⟨#[68, 105, 115, 112, 108, 97, 121]⟩, ⟨#[100, 105, 115, 112, 108, 97, 121]⟩),
  (⟨#[66, 97, 99, 107, 103, 114, 111, 117, 110, 100, 67, 111, 108, 111, 114]⟩, ⟨#[98, 97, 99, 107, 103, 114, 111, 117, 110, 100, 45, 99, 111, 108, 111, 114]⟩),
  (⟨#[66, 97, 99, 107, 103, 114, 111, 117, 110, 100, 80, 111, 115, 105, 116, 105, 111, 110]⟩, ⟨#[98, 97, 99, 107, 103, 114, 111, 117, 110, 100, 45, 112, 111, 115, 105, 116, 105, 111, 110]⟩),
  (⟨#[66, 97, 99, 107, 103, 114, 111, 117, 110, 100, 82, 101, 112, 101, 97, 116]⟩, ⟨#[98, 97, 99, 107, 103, 114, 111, 117, 110, 100, 45, 114, 101, 112, 101, 97, 116]⟩),
  (⟨#[66, 97, 99, 107, 103, 114, 111, 117, 110, 100, 83, 105, 122, 101]⟩, ⟨#[98, 97, 99, 107, 103, 114, 111, 117, 110, 100, 45, 115, 105, 122, 101]⟩),
  (⟨#[67, 111, 108, 111, 114]⟩, ⟨#[99, 111, 108, 111, 114]⟩),
  (⟨#[72, 101, 105, 103, 104, 116]⟩, ⟨#[104, 101, 105, 103, 104, 116]⟩),
  (⟨#[87, 105, 100, 116, 104]⟩, ⟨#[119, 105, 100, 116, 104]⟩),
  (⟨#[76, 101, 102, 116]⟩, ⟨#[108, 101, 102, 116]⟩),
  (⟨#[82, 105, 103, 104, 116]⟩, ⟨#[114, 105, 103, 104, 116]⟩),
  (⟨#[84, 111, 112]⟩, ⟨#[116, 111, 112]⟩),
  (⟨#[66, 111, 116, 116, 111, 109]⟩, ⟨#[98, 111, 116, 116, 111, 109]⟩),
  (⟨#[70, 111, 110, 116, 87, 101, 105, 103, 104, 116]⟩, ⟨#[102, 111, 110, 116, 45, 119, 101, 105, 103, 104, 116]⟩),
  (⟨#[80, 97, 100, 100, 105, 110, 103]⟩, ⟨#[112, 97, 100, 100, 105, 110, 103]⟩),
  (⟨#[90, 73, 110, 100, 101, 120]⟩, ⟨#[122, 45, 105, 110, 100, 101, 120]⟩)]
def fieldCells : Array Value := (fieldsL.flatMap fun q => [Value.string q.1, Value.string q.2]).toArray
theorem fields_at (w : World) : PairsAt (w.alloc (Obj.cells fieldCells 44)) (some ⟨w.heap.size, 0, none⟩) fieldsL := by
  intro k hk
  have hk' : k < 17 := hk
  refine ⟨⟨w.heap.size, 0, none⟩, rfl, by simp, ?_, ?_⟩
  · rw [show (⟨w.heap.size, 0, none⟩ : Addr).add (k * 2) = ⟨w.heap.size, k * 2, none⟩ by unfold Addr.add; split <;> simp_all, World.cell?_alloc_new]
    rcases k with _ | _ | _ | _ | _ | _ | _ | _ | _ | _ | _ | _ | _ | _ | _ | _ | _ | k
    all_goals first | rfl | omega
  · rw [show (⟨w.heap.size, 0, none⟩ : Addr).add (k * 2) = ⟨w.heap.size, k * 2, none⟩ by unfold Addr.add; split <;> simp_all, World.cell?_alloc_new]
    rcases k with _ | _ | _ | _ | _ | _ | _ | _ | _ | _ | _ | _ | _ | _ | _ | _ | _ | k
    all_goals first | rfl | omega
set_option maxHeartbeats 4000000 in
set_option maxRecDepth 100000 in
theorem fields_calls (w : World) :
    Calls Try.prog 40 #[] w fun e w' => ∃ g : Nat, e = .returned (.slice (some ⟨g, 0, none⟩) 17 17) ∧ PairsAt w' (some ⟨g, 0, none⟩) fieldsL ∧ Below w.heap.size w w' := by
  go_enter Try.func40, Try.ntmps40
  go_wp2_with fail
  go_ret
  exact ⟨w.heap.size, rfl, fields_at w, (Below.refl _ _).alloc (Nat.le_refl _) _⟩
end Go.Proofs.Ytmgkolcpomaceaa
