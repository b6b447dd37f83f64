/- URLSetSanitized f17: plainly. -/
import Derived.Test.YtlpkdagdfopchaaGreatDoorG35
namespace Go.Proofs.YtlpkdagdfopchaaGreatDoor
open Go.RowKit
set_option linter.unusedVariables false
set_option linter.unusedSimpArgs false

theorem say_of {n : Nat} {l o R : List UInt8} (h : setL (n + 1) l o = (R, true)) : (specSafe (bl (uOf l))).2 = true ∧ (measR (mOf l)).2 = true := by
  apply Decidable.byContradiction
  intro hn
  rw [setL_no hn] at h
  injection h with _ h
  simp at h
theorem safe_empty : (specSafe (bl [])).2 = true := by decide +kernel
theorem setL_nil (n : Nat) (o : List UInt8) : setL (n + 1) [] o = (o, true) := by
  have h1 : uOf [] = [] := rfl
  have h2 : mOf [] = [] := rfl
  rw [setL_end (by rw [h1, h2]; exact ⟨safe_empty, rfl⟩) rfl, nextL, h1]
  simp
theorem headL_len (l : List UInt8) : (headL l).length ≤ l.length + 2 := by
  unfold headL
  split
  · simp
  · split <;> simp
theorem tailL_len (l : List UInt8) : (tailL l).length ≤ l.length + 3 := by
  unfold tailL
  split
  · simp
  · split
    · simp
    · omega
theorem commaL_len (l : List UInt8) : (commaL l).length ≤ l.length + 5 := by
  have a := headL_len l
  have b := tailL_len (headL l)
  unfold commaL
  omega
theorem next_len (l o : List UInt8) : (nextL l o).length ≤ o.length + 9 + (uOf l).length + (mOf l).length := by
  unfold nextL addL
  have := commaL_len (uOf l)
  split
  · simp only [List.length_append]
    have h1 : (if o = [] then ([] : List UInt8) else o ++ [32, 44, 32]).length ≤ o.length + 3 := by split <;> simp
    have h2 : (if mOf l = [] then ([] : List UInt8) else [32] ++ mOf l).length ≤ (mOf l).length + 1 := by split <;> simp
    omega
  · omega
theorem tw_dw (p : UInt8 → Bool) (l : List UInt8) : (l.takeWhile p).length + (l.dropWhile p).length = l.length := by
  rw [← List.length_append, List.takeWhile_append_dropWhile]
theorem round_len (l : List UInt8) : (uOf l).length + (mOf l).length + (rOf l).length ≤ l.length := by
  have a := tw_dw spaceC l
  have b := tw_dw notSp (l.dropWhile spaceC)
  have c := tw_dw spaceC ((l.dropWhile spaceC).dropWhile notSp)
  have d := tw_dw notMe (l2Of l)
  have e := tw_dw spaceC ((l2Of l).dropWhile notMe)
  unfold uOf mOf rOf l2Of at *
  omega

end Go.Proofs.YtlpkdagdfopchaaGreatDoor
