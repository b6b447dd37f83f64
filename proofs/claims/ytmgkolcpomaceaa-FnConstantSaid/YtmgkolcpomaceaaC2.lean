/- FnConstant: the plain facts on texts of declarations, and the walk. -/
import Derived.Test.YtmgkolcpomaceaaC1
import Derived.Test.YtmgkolcpomaceaaB3
namespace Go.Proofs.Ytmgkolcpomaceaa
open Go.RowKit

def declB (p : Pr) : ByteArray := p.1 ++ ⟨#[58, 32]⟩ ++ p.2 ++ ⟨#[59]⟩
def textOf : List Pr → ByteArray
  | [] => ⟨#[]⟩
  | l@(_ :: _) => l.foldl (fun acc p => acc ++ declB p) ⟨#[]⟩
theorem textOf_eq (l : List Pr) : textOf l = l.foldl (fun acc p => acc ++ declB p) ⟨#[]⟩ := by cases l <;> rfl
theorem textOf_snoc (l : List Pr) (p : Pr) : textOf (l ++ [p]) = textOf l ++ declB p := by
  rw [textOf_eq, textOf_eq, List.foldl_append]; rfl
theorem textOf_take_succ (l : List Pr) (k : Nat) (h : k < l.length) : textOf (l.take (k + 1)) = textOf (l.take k) ++ declB l[k] := by
  rw [List.take_succ_eq_append_getElem h, textOf_snoc]
def wordP (p : Pr) : Bool := wordB p.1 && wordB p.2
theorem wordB_size {s : ByteArray} (h : wordB s = true) : 1 ≤ s.size ∧ s.size ≤ 10 := by
  simp [wordB] at h; exact h.2
theorem wordB_low {s : ByteArray} (h : wordB s = true) : ∀ c ∈ s.data.toList, lowB c = true := by
  simp only [wordB, Bool.and_eq_true, List.all_eq_true] at h; exact h.1
theorem declB_size {p : Pr} (h : wordP p = true) : (declB p).size ≤ 23 := by
  simp only [wordP, Bool.and_eq_true] at h
  have h1 := wordB_size h.1
  have h2 := wordB_size h.2
  simp only [declB, ByteArray.size_append]
  have e1 : (ByteArray.mk #[58, 32]).size = 2 := rfl
  have e2 : (ByteArray.mk #[59]).size = 1 := rfl
  omega
def okC (c : UInt8) : Bool := lowB c || c == 58 || c == 32 || c == 59
theorem declB_data (p : Pr) : (declB p).data.toList = p.1.data.toList ++ ([58, 32] ++ (p.2.data.toList ++ [59])) := by
  simp [declB, ByteArray.data_append]
theorem declB_ok {p : Pr} (h : wordP p = true) : ∀ c ∈ (declB p).data.toList, okC c = true := by
  simp only [wordP, Bool.and_eq_true] at h
  intro c hc
  rw [declB_data] at hc
  simp only [List.mem_append, List.mem_cons, List.not_mem_nil, or_false] at hc
  rcases hc with hc | (rfl | rfl) | hc | rfl
  · simp [okC, wordB_low h.1 c hc]
  · decide
  · decide
  · simp [okC, wordB_low h.2 c hc]
  · decide
theorem textOf_ok (l : List Pr) (h : l.all wordP = true) : ∀ c ∈ (textOf l).data.toList, okC c = true := by
  induction l using revInd with
  | nil => intro c hc; simp [textOf] at hc
  | snoc l p ih =>
    rw [List.all_append, Bool.and_eq_true] at h
    rw [textOf_snoc]
    intro c hc
    rw [ByteArray.data_append, Array.toList_append, List.mem_append] at hc
    rcases hc with hc | hc
    · exact ih h.1 c hc
    · exact declB_ok (by simpa using h.2) c hc
theorem textOf_size (l : List Pr) (h : l.all wordP = true) : (textOf l).size ≤ 23 * l.length := by
  induction l using revInd with
  | nil => simp [textOf]; rfl
  | snoc l p ih =>
    rw [List.all_append, Bool.and_eq_true] at h
    rw [textOf_snoc, ByteArray.size_append]
    have := ih h.1
    have := declB_size (p := p) (by simpa using h.2)
    simp; omega
theorem textOf_last (l : List Pr) (h : l.all wordP = true) (hne : l ≠ []) : ∃ (X : List UInt8) (c : UInt8), (textOf l).data.toList = X ++ [c] ++ [59] ∧ lowB c = true ∧ (58 : UInt8) ∈ X := by
  obtain ⟨l', p, rfl⟩ := snoc_of_ne hne
  rw [List.all_append, Bool.and_eq_true] at h
  have hp : wordP p = true := by simpa using h.2
  simp only [wordP, Bool.and_eq_true] at hp
  have hn : p.2.data.toList ≠ [] := by
    have := (wordB_size hp.2).1
    intro he
    have e : p.2.data.toList.length = 0 := by rw [he]; rfl
    have : p.2.size = p.2.data.toList.length := by simp
    omega
  obtain ⟨Y, c, hy⟩ := snoc_of_ne hn
  refine ⟨(textOf l').data.toList ++ (p.1.data.toList ++ ([58, 32] ++ Y)), c, ?_, ?_, ?_⟩
  · rw [textOf_snoc, ByteArray.data_append, Array.toList_append, declB_data, hy]; simp
  · exact wordB_low hp.2 c (by rw [hy]; simp)
  · simp
theorem textOf_pos (l : List Pr) (h : l.all wordP = true) (hne : l ≠ []) : 2 ≤ (textOf l).size := by
  obtain ⟨X, c, hX, _, _⟩ := textOf_last l h hne
  have : (textOf l).size = (textOf l).data.toList.length := by simp
  rw [this, hX]; simp
theorem endsB_one (s : ByteArray) (c : UInt8) (X : List UInt8) (hs : s.data.toList = X ++ [c]) : endsB s ⟨#[59]⟩ = (c == 59) := by
  have hl : s.size = X.length + 1 := by
    have : s.size = s.data.toList.length := by simp
    rw [this, hs]; simp
  have e2 : (ByteArray.mk #[59]).size = 1 := rfl
  unfold endsB
  rw [e2, hl, hs, decide_eq_true (by omega)]
  simp
theorem styleB_text (l : List Pr) (h : l.all wordP = true) (hne : l ≠ []) : styleB (textOf l) = true := by
  obtain ⟨X, c, hX, hc, h58⟩ := textOf_last l h hne
  have hok := textOf_ok l h
  have n60 : (textOf l).data.toList.contains 60 = false := by
    cases e : (textOf l).data.toList.contains 60
    · rfl
    · rw [List.contains_iff_mem] at e; exact absurd (hok _ e) (by decide)
  have n62 : (textOf l).data.toList.contains 62 = false := by
    cases e : (textOf l).data.toList.contains 62
    · rfl
    · rw [List.contains_iff_mem] at e; exact absurd (hok _ e) (by decide)
  have m58 : (textOf l).data.toList.contains 58 = true := by rw [List.contains_iff_mem, hX]; simp [h58]
  rw [styleB, n60, n62, m58, endsB_one _ 59 (X ++ [c]) hX]; rfl
theorem styleB_cut (l : List Pr) (h : l.all wordP = true) (hne : l ≠ []) : styleB ((textOf l).extract 0 ((textOf l).size - 1)) = false := by
  obtain ⟨X, c, hX, hc, h58⟩ := textOf_last l h hne
  have hl : (textOf l).size = X.length + 2 := by
    have : (textOf l).size = (textOf l).data.toList.length := by simp
    rw [this, hX]; simp
  have he : ((textOf l).extract 0 ((textOf l).size - 1)).data.toList = X ++ [c] := by
    rw [Lib.extract_data, hX, hl, List.drop_zero, List.take_left' (by simp)]
  rw [styleB, endsB_one _ c X he]
  have : (c == 59) = false := by
    rw [beq_eq_false_iff_ne]; rintro rfl; exact absurd hc (by decide)
  rw [this]; simp
theorem styleB_angle (a b t x' : ByteArray) (x : UInt8) (hx' : x' = ⟨#[x]⟩) (hx : x = 60 ∨ x = 62) : styleB (a ++ x' ++ b ++ t) = false := by
  subst hx'
  have hm : x ∈ (a ++ ⟨#[x]⟩ ++ b ++ t).data.toList := by simp [ByteArray.data_append]
  rcases hx with rfl | rfl
  · rw [styleB, List.contains_iff_mem.2 hm]; rfl
  · rw [styleB, List.contains_iff_mem.2 hm]; simp
end Go.Proofs.Ytmgkolcpomaceaa
