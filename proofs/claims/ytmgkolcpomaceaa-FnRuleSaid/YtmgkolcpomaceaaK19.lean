/- The pieces of StyleFromProperties' text, plainly. -/
import Derived.Test.YtmgkolcpomaceaaK18
namespace Go.Proofs.Ytmgkolcpomaceaa
open Go.RowKit
set_option linter.unusedVariables false
set_option linter.unusedSimpArgs false

def fieldAt (i : Nat) : Pr := fieldsL.getD i (⟨#[]⟩, ⟨#[]⟩)
def nmL (i : Nat) : List UInt8 := (fieldAt i).2.data.toList
/-- The text of a list of texts, and of one text. -/
def pieceL (fam : Bool) (i : Nat) (ls : List ByteArray) : List UInt8 := if ls = [] then [] else nmL i ++ [58] ++ joinI fam ls ++ [59]
def pieceS (i : Nat) (x v : ByteArray) : List UInt8 := if (x.toList == []) = true then [] else nmL i ++ [58] ++ v.data.toList ++ [59]
def piece (l0 l1 : List ByteArray) (s : Nat → ByteArray) : Nat → List UInt8
  | 0 => pieceL false 0 l0
  | 1 => pieceL true 1 l1
  | 2 => pieceS 2 (s 2) (shownS (s 2))
  | i => pieceS i (s i) (regS (s i))
def textP (l0 l1 : List ByteArray) (s : Nat → ByteArray) (k : Nat) : List UInt8 := (List.range k).flatMap (piece l0 l1 s)
theorem textP_succ (l0 l1 : List ByteArray) (s : Nat → ByteArray) (k : Nat) : textP l0 l1 s (k + 1) = textP l0 l1 s k ++ piece l0 l1 s k := by
  rw [textP, List.range_succ, List.flatMap_append]; simp [textP]
def valO (o : Option Pr) : ByteArray := match o with | some p => p.2 | none => ⟨#[]⟩
def lnsO (o : Option Pr) : List ByteArray := match o with | some p => linesB p.2 | none => []
theorem nil_toList : (⟨#[]⟩ : ByteArray).toList = [] := by rw [ByteArray.toList_eq]
theorem find_name {l : List Pr} {n : ByteArray} {p : Pr} (h : findN l n = some p) : sameN p.1 n = true := by
  have := List.find?_some h
  exact this
theorem linesB_ne (s : ByteArray) : linesB s ≠ [] := by
  intro h
  have h1 := (linesL_len s.data.toList).2
  have h2 := congrArg List.length h
  simp [linesB] at h2
  rw [h2] at h1
  simp at h1
theorem toList_disp : (⟨#[68, 105, 115, 112, 108, 97, 121]⟩ : ByteArray).toList = [68, 105, 115, 112, 108, 97, 121] := by rw [ByteArray.toList_eq]
theorem same_list {n m : ByteArray} (L : List UInt8) (hm : m.toList = L) : (n.toList == L) = sameN n m := by rw [sameN, hm]
/-- Which property a name is. -/
def kindOk (f : Pr) : Nat → Prop
  | 0 => listB f.1 = true ∧ ∀ s, implV f.1 s = joinI false (linesB s)
  | 1 => listB f.1 = true ∧ ∀ s, implV f.1 s = joinI true (linesB s)
  | 2 => listB f.1 = false ∧ ∀ s, implV f.1 s = (shownS s).data.toList
  | _ => listB f.1 = false ∧ ∀ s, implV f.1 s = (regS s).data.toList
def kindN (f : Pr) : Nat := if f.1.data.toList = [66, 97, 99, 107, 103, 114, 111, 117, 110, 100, 73, 109, 97, 103, 101, 85, 82, 76, 115] then 0 else if f.1.data.toList = [70, 111, 110, 116, 70, 97, 109, 105, 108, 121] then 1 else if f.1.data.toList = [68, 105, 115, 112, 108, 97, 121] then 2 else 3
theorem listB_eq (n : ByteArray) : listB n = ((n.data.toList == [70, 111, 110, 116, 70, 97, 109, 105, 108, 121]) || (n.data.toList == [66, 97, 99, 107, 103, 114, 111, 117, 110, 100, 73, 109, 97, 103, 101, 85, 82, 76, 115])) := by
  rw [listB, sameN, sameN, toList_fam, toList_img, ByteArray.toList_eq]
theorem kind_ok (f : Pr) : kindOk f (kindN f) := by
  unfold kindN
  by_cases h0 : f.1.data.toList = [66, 97, 99, 107, 103, 114, 111, 117, 110, 100, 73, 109, 97, 103, 101, 85, 82, 76, 115]
  · rw [if_pos h0]
    refine ⟨by rw [listB_eq, h0]; rfl, fun s => ?_⟩
    unfold implV
    rw [ByteArray.toList_eq]
    show (if (f.1.data.toList == _) = true then _ else _) = _
    rw [h0]; rfl
  · rw [if_neg h0]
    by_cases h1 : f.1.data.toList = [70, 111, 110, 116, 70, 97, 109, 105, 108, 121]
    · rw [if_pos h1]
      refine ⟨by rw [listB_eq, h1]; rfl, fun s => ?_⟩
      unfold implV
      rw [ByteArray.toList_eq]
      show (if (f.1.data.toList == _) = true then _ else _) = _
      rw [h1]; rfl
    · rw [if_neg h1]
      by_cases h2 : f.1.data.toList = [68, 105, 115, 112, 108, 97, 121]
      · rw [if_pos h2]
        refine ⟨by rw [listB_eq, h2]; rfl, fun s => ?_⟩
        unfold implV
        rw [ByteArray.toList_eq]
        show (if (f.1.data.toList == _) = true then _ else _) = _
        rw [h2]; rfl
      · rw [if_neg h2]
        refine ⟨by rw [listB_eq, beq_eq_false_iff_ne.2 h0, beq_eq_false_iff_ne.2 h1]; rfl, fun s => ?_⟩
        unfold implV
        rw [ByteArray.toList_eq]
        show (if (f.1.data.toList == _) = true then _ else if (f.1.data.toList == _) = true then _ else if (f.1.data.toList == _) = true then _ else _) = _
        rw [beq_eq_false_iff_ne.2 h0, beq_eq_false_iff_ne.2 h1, beq_eq_false_iff_ne.2 h2]; rfl
theorem piece_row (l : List Pr) (hf : Fresh l) (f : Pr) : rowI l f = match findN l f.1 with
    | some p => if (p.2.toList.isEmpty && !(listB f.1)) = true then [] else f.2.data.toList ++ [58] ++ implV f.1 p.2 ++ [59]
    | none => [] := by
  rw [rowI_find l hf f]
  cases h : findN l f.1 with
  | none => rfl
  | some p =>
    have h1 : hitB f p = true := find_name h
    show itemI f p = if (p.2.toList.isEmpty && !(listB f.1)) = true then [] else f.2.data.toList ++ [58] ++ implV f.1 p.2 ++ [59]
    unfold itemI toldB blankB
    rw [h1]
    cases (p.2.toList.isEmpty && !(listB f.1)) <;> rfl
theorem row0 (l : List Pr) (hf : Fresh l) (f : Pr) (hk : kindN f = 0) : rowI l f = if lnsO (findN l f.1) = [] then [] else f.2.data.toList ++ [58] ++ joinI false (lnsO (findN l f.1)) ++ [59] := by
  have hko := kind_ok f
  rw [hk] at hko
  rw [piece_row l hf f]
  cases h : findN l f.1 with
  | none => rfl
  | some p =>
    show (if (p.2.toList.isEmpty && !(listB f.1)) = true then [] else _) = if linesB p.2 = [] then [] else f.2.data.toList ++ [58] ++ joinI false (linesB p.2) ++ [59]
    rw [hko.1, if_neg (linesB_ne _), hko.2]; simp
theorem row1 (l : List Pr) (hf : Fresh l) (f : Pr) (hk : kindN f = 1) : rowI l f = if lnsO (findN l f.1) = [] then [] else f.2.data.toList ++ [58] ++ joinI true (lnsO (findN l f.1)) ++ [59] := by
  have hko := kind_ok f
  rw [hk] at hko
  rw [piece_row l hf f]
  cases h : findN l f.1 with
  | none => rfl
  | some p =>
    show (if (p.2.toList.isEmpty && !(listB f.1)) = true then [] else _) = if linesB p.2 = [] then [] else f.2.data.toList ++ [58] ++ joinI true (linesB p.2) ++ [59]
    rw [hko.1, if_neg (linesB_ne _), hko.2]; simp
theorem row2 (l : List Pr) (hf : Fresh l) (f : Pr) (hk : kindN f = 2) : rowI l f = if ((valO (findN l f.1)).toList == []) = true then [] else f.2.data.toList ++ [58] ++ (shownS (valO (findN l f.1))).data.toList ++ [59] := by
  have hko := kind_ok f
  rw [hk] at hko
  rw [piece_row l hf f]
  cases h : findN l f.1 with
  | none => show [] = if ((⟨#[]⟩ : ByteArray).toList == []) = true then [] else _
            rw [nil_toList]; rfl
  | some p =>
    show (if (p.2.toList.isEmpty && !(listB f.1)) = true then [] else _) = if (p.2.toList == []) = true then [] else f.2.data.toList ++ [58] ++ (shownS p.2).data.toList ++ [59]
    rw [hko.1, hko.2, emp_iff]; simp
theorem row3 (l : List Pr) (hf : Fresh l) (f : Pr) (hk : kindN f = 3) : rowI l f = if ((valO (findN l f.1)).toList == []) = true then [] else f.2.data.toList ++ [58] ++ (regS (valO (findN l f.1))).data.toList ++ [59] := by
  have hko := kind_ok f
  rw [hk] at hko
  rw [piece_row l hf f]
  cases h : findN l f.1 with
  | none => show [] = if ((⟨#[]⟩ : ByteArray).toList == []) = true then [] else _
            rw [nil_toList]; rfl
  | some p =>
    show (if (p.2.toList.isEmpty && !(listB f.1)) = true then [] else _) = if (p.2.toList == []) = true then [] else f.2.data.toList ++ [58] ++ (regS p.2).data.toList ++ [59]
    rw [hko.1, hko.2, emp_iff]; simp
def stS (l : List Pr) (i : Nat) : ByteArray := valO (findN l (fieldAt i).1)
def stL (l : List Pr) (i : Nat) : List ByteArray := lnsO (findN l (fieldAt i).1)
theorem implT_range (l : List Pr) : implT l = (List.range 17).flatMap fun i => rowI l (fieldAt i) := rfl
theorem kinds : kindN (fieldAt 0) = 0 ∧ kindN (fieldAt 1) = 1 ∧ kindN (fieldAt 2) = 2 ∧ ∀ i, i < 17 → 3 ≤ i → kindN (fieldAt i) = 3 := by decide
theorem text_impl (l : List Pr) (hf : Fresh l) : textP (stL l 0) (stL l 1) (stS l) 17 = implT l := by
  rw [implT_range, textP]
  refine flatMap_congr' _ fun i hi => ?_
  have hi' : i < 17 := by simpa using hi
  obtain ⟨k0, k1, k2, k3⟩ := kinds
  rcases i with _ | _ | _ | i
  · exact (row0 l hf _ k0).symm
  · exact (row1 l hf _ k1).symm
  · exact (row2 l hf _ k2).symm
  · exact (row3 l hf _ (k3 _ hi' (by omega))).symm
end Go.Proofs.Ytmgkolcpomaceaa
