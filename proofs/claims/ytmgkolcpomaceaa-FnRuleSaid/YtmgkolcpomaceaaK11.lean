/- A text's lines, plainly. -/
import Derived.Test.YtmgkolcpomaceaaB9
import Derived.Test.YtmgkolcpomaceaaB8
namespace Go.Proofs.Ytmgkolcpomaceaa
open Go.RowKit
set_option linter.unusedVariables false

def linesL : List UInt8 → List (List UInt8)
  | [] => [[]]
  | c :: r => if c == 10 then [] :: linesL r else (c :: (linesL r).headD []) :: (linesL r).tail
def linesB (s : ByteArray) : List ByteArray := (linesL s.data.toList).map fun x => ⟨x.toArray⟩
theorem linesL_seg (a r : List UInt8) (h : a.all (fun c => !(c == 10)) = true) : linesL (a ++ 10 :: r) = a :: linesL r := by
  induction a with
  | nil => simp [linesL]
  | cons c a ih =>
    simp only [List.all_cons, Bool.and_eq_true] at h
    have hc : (c == 10) = false := by simpa using h.1
    rw [List.cons_append, linesL, hc, ih h.2]
    simp
theorem linesL_last (a : List UInt8) (h : a.all (fun c => !(c == 10)) = true) : linesL a = [a] := by
  induction a with
  | nil => rfl
  | cons c a ih =>
    simp only [List.all_cons, Bool.and_eq_true] at h
    have hc : (c == 10) = false := by simpa using h.1
    rw [linesL, hc, ih h.2]
    simp
theorem linesL_len (l : List UInt8) : (linesL l).length ≤ l.length + 1 ∧ 0 < (linesL l).length := by
  induction l with
  | nil => simp [linesL]
  | cons c r ih =>
    rw [linesL]
    split
    · simp only [List.length_cons]; omega
    · simp only [List.length_cons, List.length_tail]; omega
end Go.Proofs.Ytmgkolcpomaceaa
