/- spec.commas f15, appendURLToSet f31. -/
import Derived.Test.YtlpkdagdfopchaaGreatDoorG29
namespace Go.Proofs.YtlpkdagdfopchaaGreatDoor
open Go.RowKit
set_option linter.unusedVariables false
set_option linter.unusedSimpArgs false

/-- A URL whose first and last sign is no comma. -/
def headL (l : List UInt8) : List UInt8 := match l with
  | [] => []
  | c :: t => if c.toNat = 44 then [37, 50, 99] ++ t else c :: t
def tailL (l : List UInt8) : List UInt8 := match l.getLast? with
  | none => []
  | some c => if c.toNat = 44 then l.dropLast ++ [37, 50, 99] else l
def commaL (l : List UInt8) : List UInt8 := tailL (headL l)

theorem nempty {s : ByteArray} (h : 0 < s.size) : s.toList.isEmpty = false := by
  rw [ByteArray.toList_eq]
  cases e : s.data.toList with
  | nil =>
    have : s.data.toList.length = 0 := by rw [e]; rfl
    rw [Array.length_toList] at this
    have : s.size = 0 := this
    omega
  | cons a l => rfl
theorem head_byte {s : ByteArray} (h : 0 < s.size) : s.data.toList = s[0] :: s.data.toList.drop 1 := by
  have := drop_byte s 0 h
  rwa [List.drop_zero] at this
theorem len_data (s : ByteArray) : s.data.toList.length = s.size := by rw [Array.length_toList]; rfl
theorem last_byte {s : ByteArray} (h : 0 < s.size) : s.data.toList = s.data.toList.take (s.size - 1) ++ [s[s.size - 1]] := by
  have h1 := take_succ_byte s (s.size - 1) (by omega)
  rw [Nat.sub_add_cancel h, List.take_of_length_le (by rw [len_data]; exact Nat.le_refl _)] at h1
  exact h1
theorem bytes_app (A B : ByteArray) : (A ++ B).data.toList = A.data.toList ++ B.data.toList := by simp

set_option maxHeartbeats 1000000 in
set_option maxRecDepth 100000 in
theorem commas_calls (s : ByteArray) (h0 : 0 < s.size) (hs : s.size ≤ 2147483647) (w : World) :
    Calls Tryz.prog 15 #[.string s] w fun e w' => (∃ A : ByteArray, e = .returned (.string A) ∧ A.data.toList = commaL s.data.toList ∧ A.size ≤ s.size + 6) ∧ w' = w := by
  have hne := nempty h0
  have hh := Lib.hid (head_byte h0)
  go_enter Tryz.func15, Tryz.ntmps15
  go_upto_if 9 with fail
  go_cut [0] (fun v wx => wx = w ∧ ∃ A : ByteArray, v = .string A ∧ 0 < A.size ∧ A.size ≤ s.size + 3 ∧ Hid (A.data.toList = headL s.data.toList))
  case first =>
    by_cases h44 : s[0].toNat = 44
    · have t44 : ((s[0].toNat : Int) == 44) = true := by simp; omega
      have hsz : (ByteArray.mk #[37, 50, 99] ++ s.extract 1 s.size).size = s.size + 2 := by
        rw [ByteArray.size_append, ByteArray.size_extract]
        show 3 + _ = _
        omega
      have hb : Hid ((ByteArray.mk #[37, 50, 99] ++ s.extract 1 s.size).data.toList = headL s.data.toList) := Lib.hid (by
        rw [bytes_app, ext_drop]
        conv => rhs; rw [hh.out]
        rw [headL, if_pos h44])
      have h44' := Lib.hid h44
      clear h44
      go_wp2_with fail
      go_meet
      exact ⟨(by first | rfl | trivial), _, rfl, by rw [hsz]; omega, by rw [hsz]; omega, hb⟩
    · have t44 : ((s[0].toNat : Int) == 44) = false := by simp; omega
      have hb : Hid (s.data.toList = headL s.data.toList) := Lib.hid (by
        conv => rhs; rw [hh.out]
        rw [headL, if_neg h44]
        exact hh.out)
      have h44' := Lib.hid h44
      clear h44
      go_wp2_with fail
      go_meet
      exact ⟨(by first | rfl | trivial), s, rfl, h0, by omega, hb⟩
  case rest =>
    obtain ⟨rfl, A, rfl, hA0, hA1, hA⟩ := hcut
    have hneA := nempty hA0
    have hl := Lib.hid (last_byte hA0)
    have hAl : A.size ≤ 2147483655 := by omega
    by_cases h44 : A[A.size - 1].toNat = 44
    · have t44 : ((A[A.size - 1].toNat : Int) == 44) = true := by simp; omega
      have hb : Hid ((A.extract 0 (A.size - 1) ++ ByteArray.mk #[37, 50, 99]).data.toList = commaL s.data.toList) := Lib.hid (by
        rw [bytes_app, ext_take, commaL, ← hA.out, tailL]
        conv => rhs; rw [hl.out]
        rw [List.getLast?_concat]
        simp only [h44, if_true]
        rw [List.dropLast_concat])
      have hsz : (A.extract 0 (A.size - 1) ++ ByteArray.mk #[37, 50, 99]).size = A.size + 2 := by
        rw [ByteArray.size_append, ByteArray.size_extract]
        show _ + 3 = _
        omega
      have h44' := Lib.hid h44
      clear h44
      go_wp2_with fail
      go_ret
      exact ⟨⟨_, rfl, hb.out, by rw [hsz]; omega⟩, rfl⟩
    · have t44 : ((A[A.size - 1].toNat : Int) == 44) = false := by simp; omega
      have hb : Hid (A.data.toList = commaL s.data.toList) := Lib.hid (by
        rw [commaL, ← hA.out, tailL]
        conv => rhs; rw [hl.out]
        rw [List.getLast?_concat]
        simp only [h44, if_false]
        exact hl.out)
      have h44' := Lib.hid h44
      clear h44
      go_wp2_with fail
      go_ret
      exact ⟨⟨_, rfl, hb.out, by omega⟩, rfl⟩

end Go.Proofs.YtlpkdagdfopchaaGreatDoor
