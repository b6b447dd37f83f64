/- An insertion of texts, plainly; texts in memory that are swapped. -/
import Derived.Test.YtlpkdagdfopchaaQ3
import Derived.Sort.KeysCollected
namespace Go.Proofs.Ytlpkdagdfopchaa
open Go.RowKit Go.Maps
set_option linter.unusedVariables false
set_option linter.unusedSimpArgs false

def atB (M : List ByteArray) (j : Nat) : ByteArray := M.getD j ⟨#[]⟩
def leT (a b : ByteArray) : Prop := a.data.toList ≤ b.data.toList
def swapT (M : List ByteArray) (k : Nat) : List ByteArray := (M.set k (atB M (k - 1))).set (k - 1) (atB M k)
theorem atB_at (M : List ByteArray) (j : Nat) (h : j < M.length) : atB M j = M[j] := by
  rw [atB, List.getD_eq_getElem?_getD, List.getElem?_eq_getElem h]; rfl
theorem swapT_len (M : List ByteArray) (k : Nat) : (swapT M k).length = M.length := by simp [swapT]
theorem swapT_perm (M : List ByteArray) (k : Nat) (hk : k < M.length) : (swapT M k).Perm M := by
  have h1 : k - 1 < M.length := by omega
  rw [swapT, atB_at M k hk, atB_at M (k - 1) h1]
  exact List.set_set_perm hk h1
theorem swapT_at (M : List ByteArray) (k j : Nat) (hk0 : 0 < k) (hk : k < M.length) (hj : j < M.length) : atB (swapT M k) j = if j = k - 1 then atB M k else if j = k then atB M (k - 1) else atB M j := by
  rw [atB_at _ j (by rw [swapT_len]; exact hj)]
  simp only [swapT, List.getElem_set]
  by_cases h1 : j = k - 1
  · rw [if_pos h1.symm, if_pos h1]
  · rw [if_neg (fun h => h1 h.symm), if_neg h1]
    by_cases h2 : j = k
    · rw [if_pos h2.symm, if_pos h2]
    · rw [if_neg (fun h => h2 h.symm), if_neg h2, atB_at M j hj]
/-- The first i are in order. -/
def SortedTo (M : List ByteArray) (i : Nat) : Prop := ∀ a b, a < b → b < i → leT (atB M a) (atB M b)
/-- .. but the one at place k, which is to go further down. -/
def SinkAt (M : List ByteArray) (i k : Nat) : Prop := (∀ a b, a < b → b ≤ i → a ≠ k → b ≠ k → leT (atB M a) (atB M b)) ∧ (∀ b, k < b → b ≤ i → leT (atB M k) (atB M b))
theorem sink_start {M : List ByteArray} {i : Nat} (h : SortedTo M i) : SinkAt M i i :=
  ⟨fun a b hab hb ha hb2 => h a b hab (by omega), fun b hb hb2 => by omega⟩
theorem sink_end {M : List ByteArray} {i k : Nat} (hki : k ≤ i) (h : SinkAt M i k) (he : k = 0 ∨ leT (atB M (k - 1)) (atB M k)) : SortedTo M (i + 1) := by
  intro a b hab hb
  by_cases ha : a = k
  · subst ha; exact h.2 b hab (by omega)
  · by_cases hbk : b = k
    · subst hbk
      rcases he with h0 | h0
      · omega
      · by_cases hk1 : a = b - 1
        · rw [hk1]; exact h0
        · exact List.le_trans (h.1 a (b - 1) (by omega) (by omega) ha (by omega)) h0
    · exact h.1 a b hab (by omega) ha hbk
theorem sink_swap {M : List ByteArray} {i k : Nat} (hki : k ≤ i) (hi : i < M.length) (hk0 : 0 < k) (h : SinkAt M i k) (hlt : leT (atB M k) (atB M (k - 1))) : SinkAt (swapT M k) i (k - 1) := by
  have e := fun j hj => swapT_at M k j hk0 (by omega) hj
  refine ⟨fun a b hab hb ha hb2 => ?_, fun b hb hb2 => ?_⟩
  · rw [e a (by omega), e b (by omega), if_neg ha, if_neg hb2]
    by_cases hak : a = k
    · rw [if_pos hak, if_neg (show ¬ b = k by omega)]
      exact h.1 (k - 1) b (by omega) hb (by omega) (by omega)
    · rw [if_neg hak]
      by_cases hbk : b = k
      · rw [if_pos hbk]
        exact h.1 a (k - 1) (by omega) (by omega) hak (by omega)
      · rw [if_neg hbk]
        exact h.1 a b hab hb hak hbk
  · rw [e (k - 1) (by omega), e b (by omega), if_pos rfl, if_neg (show ¬ b = k - 1 by omega)]
    by_cases hbk : b = k
    · rw [if_pos hbk]; exact hlt
    · rw [if_neg hbk]; exact h.2 b (by omega) hb2
theorem sorted_pairwise {M : List ByteArray} (h : SortedTo M M.length) : M.Pairwise leT := by
  rw [List.pairwise_iff_getElem]
  intro i j hi hj hij
  have := h i j hij hj
  rwa [atB_at M i hi, atB_at M j hj] at this
/-- Two lists of the same texts in order are one. -/
theorem sorted_eq {M N : List ByteArray} (h : M.Pairwise leT) (h' : N.Pairwise leT) (hp : M.Perm N) : M = N :=
  List.Perm.eq_of_pairwise (le := leT) (fun a b _ _ h1 h2 => WideShapes.bytes_inj (List.le_antisymm h1 h2)) h h' hp
/-- The texts of a slice, each in a cell that may be written. -/
def TextsAt (w : World) (g : Nat) (M : List ByteArray) : Prop := g < w.heap.size ∧ ∀ j, j < M.length → w.cell? ⟨g, j, none⟩ = some (.string (atB M j)) ∧ w.frozen? ⟨g, j, none⟩ = false
theorem TextsAt.strs {w : World} {g : Nat} {M : List ByteArray} (h : TextsAt w g M) : StrsAt w (some ⟨g, 0, none⟩) M := fun k hk => by
  refine ⟨_, rfl, h.1, ?_⟩
  have : (⟨g, 0, none⟩ : Addr).add k = ⟨g, k, none⟩ := by unfold Addr.add; split <;> simp_all
  rw [this, (h.2 k hk).1, atB_at M k hk]
theorem TextsAt.below {w w1 : World} {g : Nat} {M : List ByteArray} (h : TextsAt w g M) (hb : Below w.heap.size w w1) : TextsAt w1 g M :=
  ⟨Nat.lt_of_lt_of_le h.1 hb.size, fun j hj => ⟨(hb.cell (p := ⟨g, j, none⟩) h.1).trans (h.2 j hj).1, (hb.frozen (p := ⟨g, j, none⟩) h.1).trans (h.2 j hj).2⟩⟩
theorem TextsAt.swap {w : World} {g : Nat} {M : List ByteArray} (h : TextsAt w g M) {k : Nat} (hk0 : 0 < k) (hk : k < M.length) :
    TextsAt ((w.setCell ⟨g, k, none⟩ (.string (atB M (k - 1)))).setCell ⟨g, k - 1, none⟩ (.string (atB M k))) g (swapT M k) := by
  have near : ∀ (w : World) (i j : Nat) (v : Value), i ≠ j → (w.setCell ⟨g, i, none⟩ v).cell? ⟨g, j, none⟩ = w.cell? ⟨g, j, none⟩ := fun w i j v hij =>
    World.cell?_setCell_other _ _ _ _ (by intro e; simp only [Addr.mk.injEq] at e; exact hij e.2.1)
  refine ⟨by simp [World.setCell]; exact h.1, fun j hj => ?_⟩
  rw [swapT_len] at hj
  refine ⟨?_, by rw [World.frozen?_setCell, World.frozen?_setCell]; exact (h.2 j hj).2⟩
  rw [swapT_at M k j hk0 hk hj]
  have hc1 : (w.setCell ⟨g, k, none⟩ (.string (atB M (k - 1)))).cell? ⟨g, k - 1, none⟩ = some (.string (atB M (k - 1))) := by rw [near _ _ _ _ (by omega)]; exact (h.2 (k - 1) (by omega)).1
  by_cases h1 : j = k - 1
  · rw [if_pos h1, h1]; exact World.cell?_setCell_same _ _ _ hc1
  · rw [if_neg h1, near _ _ _ _ (fun e => h1 e.symm)]
    by_cases h2 : j = k
    · rw [if_pos h2, h2]; exact World.cell?_setCell_same _ _ _ (h.2 k hk).1
    · rw [if_neg h2, near _ _ _ _ (fun e => h2 e.symm)]; exact (h.2 j hj).1
end Go.Proofs.Ytlpkdagdfopchaa
