/- Slices of pairs among what was read: with the room that they have. -/
import Derived.Test.YtlpkdagdfopchaaR0
namespace Go.Proofs.Ytlpkdagdfopchaa
open Go.RowKit Go.ChangeShapes Go.WideShapes Go.ChangeAt Go.Deep

set_option maxRecDepth 100000 in
theorem pairsCap_open {H : Type} {enc : TypeId × Value → H} {W : World} {base : Nat} {v : Value} {d : DataW H} {p : List MemPlace} (hv : Value.okWide Try.prog W .any base 22 v) (h : DataW.Trod enc Try.prog W 0 (fun _ => true) true 22 v d p) :
    ∃ (A : Option Addr) (l : List Pr) (cap : Nat), v = .slice A l.length cap ∧ l.length ≤ cap ∧ PairsAt W A l := by
  obtain ⟨a0, len, cap, rfl⟩ := okWide_slice Try.underlying22 hv
  obtain ⟨fuel, hf⟩ := h
  rcases open_slice_fields Try.underlying22 Try.underlying27 (by kernel_rfl) (by kernel_rfl) hf with ⟨hcs, _⟩ | ⟨a, len', cap', m, D, Pl, hcs, _, hl, _, hm, _, hi⟩
  · simp [Value.cells] at hcs
    obtain ⟨rfl, rfl, rfl⟩ := hcs
    exact ⟨none, [], 0, rfl, Nat.le_refl _, fun k hk => by simp at hk⟩
  · simp [Value.cells] at hcs
    obtain ⟨rfl, rfl, rfl⟩ := hcs
    simp at hm
    have hx : ∀ i, i < len → ∃ q : Pr, W.cell? (a.add (i * 2)) = some (.string q.1) ∧ W.cell? (a.add (i * 2 + 1)) = some (.string q.2) := by
      intro i hi'
      obtain ⟨ys, n, _, _, _, hf⟩ := hi i (by omega)
      obtain ⟨v0, y0, hc0, _, ht0⟩ := hf 0 _ rfl
      obtain ⟨v1, y1, hc1, _, ht1⟩ := hf 1 _ rfl
      obtain ⟨s0, e0, _⟩ := DataW.trod_string Try.underlying9 ht0
      obtain ⟨s1, e1, _⟩ := DataW.trod_string Try.underlying9 ht1
      simp at e0 e1
      subst e0 e1
      exact ⟨(s0, s1), hc0, hc1⟩
    have hcl : ∀ i, ∃ q : Pr, i < len → W.cell? (a.add (i * 2)) = some (.string q.1) ∧ W.cell? (a.add (i * 2 + 1)) = some (.string q.2) := fun i => by
      by_cases hi' : i < len
      · obtain ⟨q, hq⟩ := hx i hi'
        exact ⟨q, fun _ => hq⟩
      · exact ⟨(⟨#[]⟩, ⟨#[]⟩), fun h => absurd h hi'⟩
    refine ⟨some a, (List.range len).map (fun i => (hcl i).choose), cap, by simp, by simpa using hl, fun k hk => ?_⟩
    have hk' : k < len := by simpa using hk
    have hq := (hcl k).choose_spec hk'
    have e : ((List.range len).map (fun i => (hcl i).choose))[k] = (hcl k).choose := by simp
    refine ⟨a, rfl, ?_, by rw [e]; exact hq.1, ?_⟩
    · have := World.block_lt_of_cell? W _ hq.1
      rwa [add_block] at this
    · rw [e, ← hq.2]
      congr 1
      unfold Addr.add
      by_cases h0 : k * 2 = 0 <;> simp [h0, Nat.add_assoc]

end Go.Proofs.Ytlpkdagdfopchaa
