/- A list's text in a style, plainly. -/
import Derived.Test.YtmgkolcpomaceaaK9
import Derived.Test.YtmgkolcpomaceaaK12
import Derived.Test.YtmgkolcpomaceaaE7
namespace Go.Proofs.Ytmgkolcpomaceaa
open Go.RowKit
set_option linter.unusedVariables false
set_option linter.unusedSimpArgs false

theorem linesL_mem (l : List UInt8) : ∀ x ∈ linesL l, x.length ≤ l.length ∧ ∀ c ∈ x, c ∈ l := by
  induction l with
  | nil => simp [linesL]
  | cons c r ih =>
    intro x hx
    rw [linesL] at hx
    split at hx
    · rcases List.mem_cons.1 hx with rfl | hx
      · simp
      · have := ih x hx
        exact ⟨by simp; omega, fun d hd => List.mem_cons_of_mem _ (this.2 d hd)⟩
    · rcases List.mem_cons.1 hx with rfl | hx
      · have hl := (linesL_len r).2
        cases hr : linesL r with
        | nil => rw [hr] at hl; simp at hl
        | cons y ys =>
          have := ih y (by rw [hr]; simp)
          refine ⟨by simp; omega, fun d hd => ?_⟩
          rcases List.mem_cons.1 hd with rfl | hd
          · simp
          · exact List.mem_cons_of_mem _ (this.2 d (by simpa using hd))
      · have := ih x (List.mem_of_mem_tail hx)
        exact ⟨by simp; omega, fun d hd => List.mem_cons_of_mem _ (this.2 d hd)⟩
theorem linesB_mem {s x : ByteArray} (h : x ∈ linesB s) : x.size ≤ s.size ∧ (asciiB s = true → asciiB x = true) := by
  rw [linesB, List.mem_map] at h
  obtain ⟨y, hy, rfl⟩ := h
  obtain ⟨h1, h2⟩ := linesL_mem _ y hy
  have e1 : (⟨y.toArray⟩ : ByteArray).size = y.length := by show y.toArray.size = _; simp
  have e2 : s.data.toList.length = s.size := by simp
  refine ⟨by rw [e1]; omega, fun ha => ?_⟩
  rw [asciiB, List.all_eq_true] at ha ⊢
  exact fun c hc => ha c (h2 c hc)
def sanS (s : ByteArray) : ByteArray := if (specSafe s).1 = true then s else innoc
def lineT (fam : Bool) (x : ByteArray) : List UInt8 := if fam = true then (famS x).data.toList else [117, 114, 108, 40] ++ (quoS (sanS x)).data.toList ++ [41]
def joinD (fam : Bool) : List ByteArray → List UInt8
  | [] => []
  | x :: xs => lineT fam x ++ xs.flatMap fun y => [44, 32] ++ lineT fam y
theorem joinD_snoc (fam : Bool) (l : List ByteArray) (x : ByteArray) : joinD fam (l ++ [x]) = (if l = [] then [] else joinD fam l ++ [44, 32]) ++ lineT fam x := by
  cases l with
  | nil => simp [joinD]
  | cons y l => simp [joinD]
end Go.Proofs.Ytmgkolcpomaceaa
