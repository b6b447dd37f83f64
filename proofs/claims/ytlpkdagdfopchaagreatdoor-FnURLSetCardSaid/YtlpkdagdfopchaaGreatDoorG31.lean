/- appendURLToSet f31. -/
import Derived.Test.YtlpkdagdfopchaaGreatDoorG30
namespace Go.Proofs.YtlpkdagdfopchaaGreatDoor
open Go.RowKit
set_option linter.unusedVariables false
set_option linter.unusedSimpArgs false

theorem ext_mid (s : ByteArray) (i j : Nat) (h : j ≤ s.size) : (s.extract i j).data.toList = (s.data.toList.take j).drop i := by
  simp [ByteArray.data_extract, List.drop_take]
def pctB : ByteArray := ⟨#[37, 50, 99]⟩
theorem commaL_plain {s : ByteArray} (h : 0 < s.size) (h1 : s[0].toNat ≠ 44) : commaL s.data.toList = if s[s.size - 1].toNat = 44 then s.data.toList.take (s.size - 1) ++ [37, 50, 99] else s.data.toList := by
  have e : headL s.data.toList = s.data.toList := by
    conv => lhs; rw [head_byte h]
    rw [headL, if_neg h1]
    exact (head_byte h).symm
  rw [commaL, e, tailL]
  conv => lhs; rw [last_byte h]
  rw [List.getLast?_concat]
  simp only []
  split
  · rw [List.dropLast_concat]
  · exact (last_byte h).symm
theorem commaL_first {s : ByteArray} (h : 1 < s.size) (h1 : s[0].toNat = 44) : commaL s.data.toList = if s[s.size - 1].toNat = 44 then [37, 50, 99] ++ ((s.data.toList.take (s.size - 1)).drop 1 ++ [37, 50, 99]) else [37, 50, 99] ++ s.data.toList.drop 1 := by
  have e : headL s.data.toList = [37, 50, 99] ++ s.data.toList.drop 1 := by
    conv => lhs; rw [head_byte (by omega)]
    rw [headL, if_pos h1]
  have e2 : s.data.toList.drop 1 = (s.data.toList.take (s.size - 1)).drop 1 ++ [s[s.size - 1]] := by
    conv => lhs; rw [last_byte (show 0 < s.size by omega)]
    rw [List.drop_append_of_le_length (by rw [List.length_take, len_data]; omega)]
  rw [commaL, e, tailL, e2, ← List.append_assoc, List.getLast?_concat]
  simp only []
  split
  · rw [List.dropLast_concat, List.append_assoc]
  · rw [List.append_assoc]
theorem commaL_one {s : ByteArray} (h : s.size = 1) (h1 : s[0].toNat = 44) : commaL s.data.toList = [37, 50, 99] := by
  have e : headL s.data.toList = [37, 50, 99] := by
    conv => lhs; rw [head_byte (by omega)]
    rw [headL, if_pos h1, List.drop_of_length_le (by rw [len_data]; omega)]
    rfl
  rw [commaL, e]
  rfl

/-- What is put behind a buffer. -/
def AppPost (B : Nat) (l : List UInt8) (w : World) (e : Ending) (w' : World) : Prop := ∃ v, e = .returned v ∧ Buf w' B v l ∧ Below B w w'

set_option maxHeartbeats 2000000 in
set_option maxRecDepth 100000 in
theorem append_calls (s : ByteArray) (h0 : 0 < s.size) (hs : s.size ≤ 200) (B : Nat) (v : Value) (L : List UInt8) (w : World) (hL : L.length ≤ 100000) (hB : B ≤ w.heap.size) (hbuf : Hid (Buf w B v L)) :
    Calls Tryz.prog 31 #[.string s, v] w fun e w' => AppPost B (L ++ commaL s.data.toList) w e w' := by
  have hp3 : pctB.size = 3 := rfl
  have hpd : Hid (pctB.data.toList = [37, 50, 99]) := Lib.hid rfl
  have HL1 : L.length + (ByteArray.mk #[37, 50, 99]).size ≤ 140737488355328 := by show L.length + 3 ≤ _; omega
  have ht1 : 0 < s.size := h0
  by_cases h44 : s[0].toNat = 44
  · have t44 : ((s[0].toNat : Int) == 44) = true := by simp; omega
    by_cases h1 : s.size = 1
    · have HE := Lib.hid (commaL_one h1 h44)
      clear h44
      go_enter Tryz.func31, Tryz.ntmps31
      have HLa0 : (L).length + (ByteArray.mk #[37, 50, 99]).size ≤ 140737488355328 := by
        have := len_data s
        show _ + _ ≤ _; (try simp only [List.length_append, List.length_take, List.length_drop, ByteArray.size_extract, List.length_cons, List.length_nil]); (first | omega | (rw [this]; omega) | (show _ + 3 ≤ _; omega) | (show _ + 0 ≤ _; omega))
      go_upto_region 10 with (at_builtin; refine buf_append_str rfl _ _ rfl B _ _ rfl hbuf.out _ rfl HLa0 hB ?_; intro va0 wa0 hba0 hga0 hbl0)
      have hbx0 : Hid (Buf wa0 B va0 (L ++ [37, 50, 99])) := Lib.hid (by first | exact hba0 | (have e := hba0; rw [List.append_nil] at e; exact e))
      have hbel0 := Lib.hid hbl0
      have hBx0 : B ≤ wa0.heap.size := Nat.le_trans hB hbl0.size
      clear hba0 hga0 hbl0
      have HLa1 : (L ++ [37, 50, 99]).length + ByteArray.empty.size ≤ 140737488355328 := by
        have := len_data s
        show _ + _ ≤ _; (try simp only [List.length_append, List.length_take, List.length_drop, ByteArray.size_extract, List.length_cons, List.length_nil]); (first | omega | (rw [this]; omega) | (show _ + 3 ≤ _; omega) | (show _ + 0 ≤ _; omega))
      go_wp2_with (at_builtin; refine buf_append_str rfl _ _ rfl B _ _ rfl hbx0.out _ rfl HLa1 hBx0 ?_; intro va1 wa1 hba1 hga1 hbl1)
      have hbx1 : Hid (Buf wa1 B va1 (L ++ [37, 50, 99] ++ [])) := Lib.hid (by first | exact hba1 | (have e := hba1; rw [List.append_nil] at e; exact e))
      have hbel1 := Lib.hid (hbel0.out.trans hbl1)
      have hBx1 : B ≤ wa1.heap.size := Nat.le_trans hBx0 hbl1.size
      clear hba1 hga1 hbl1
      go_ret
      exact ⟨va1, rfl, show Buf wa1 B va1 (L ++ commaL s.data.toList) from by rw [HE.out]; have e := hbx1.out; rw [List.append_nil] at e; exact e, hbel1.out⟩
    · have h2 : 1 < s.size := by omega
      have HE0 := Lib.hid (commaL_first h2 h44)
      clear h44
      by_cases hl : s[s.size - 1].toNat = 44
      · have tl : ((s[s.size - 1].toNat : Int) == 44) = true := by simp; omega
        have HE := Lib.hid (HE0.out.trans (if_pos hl))
        clear hl
        go_enter Tryz.func31, Tryz.ntmps31
        have HLa0 : (L).length + (ByteArray.mk #[37, 50, 99]).size ≤ 140737488355328 := by
          have := len_data s
          show _ + _ ≤ _; (try simp only [List.length_append, List.length_take, List.length_drop, ByteArray.size_extract, List.length_cons, List.length_nil]); (first | omega | (rw [this]; omega) | (show _ + 3 ≤ _; omega) | (show _ + 0 ≤ _; omega))
        go_upto_region 10 with (at_builtin; refine buf_append_str rfl _ _ rfl B _ _ rfl hbuf.out _ rfl HLa0 hB ?_; intro va0 wa0 hba0 hga0 hbl0)
        have hbx0 : Hid (Buf wa0 B va0 (L ++ [37, 50, 99])) := Lib.hid (by first | exact hba0 | (have e := hba0; rw [List.append_nil] at e; exact e))
        have hbel0 := Lib.hid hbl0
        have hBx0 : B ≤ wa0.heap.size := Nat.le_trans hB hbl0.size
        clear hba0 hga0 hbl0
        have HLa1 : (L ++ [37, 50, 99]).length + (s.extract 1 (s.size - 1)).size ≤ 140737488355328 := by
          have := len_data s
          show _ + _ ≤ _; (try simp only [List.length_append, List.length_take, List.length_drop, ByteArray.size_extract, List.length_cons, List.length_nil]); (first | omega | (rw [this]; omega) | (show _ + 3 ≤ _; omega) | (show _ + 0 ≤ _; omega))
        go_upto_region 12 with (at_builtin; refine buf_append_str rfl _ _ rfl B _ _ rfl hbx0.out _ rfl HLa1 hBx0 ?_; intro va1 wa1 hba1 hga1 hbl1)
        have hbx1 : Hid (Buf wa1 B va1 (L ++ [37, 50, 99] ++ (s.data.toList.take (s.size - 1)).drop 1)) := Lib.hid (by first | exact hba1 | (have e := hba1; rw [ext_mid _ _ _ (by omega)] at e; exact e))
        have hbel1 := Lib.hid (hbel0.out.trans hbl1)
        have hBx1 : B ≤ wa1.heap.size := Nat.le_trans hBx0 hbl1.size
        clear hba1 hga1 hbl1
        have HLa2 : (L ++ [37, 50, 99] ++ (s.data.toList.take (s.size - 1)).drop 1).length + (ByteArray.mk #[37, 50, 99]).size ≤ 140737488355328 := by
          have := len_data s
          show _ + _ ≤ _; (try simp only [List.length_append, List.length_take, List.length_drop, ByteArray.size_extract, List.length_cons, List.length_nil]); (first | omega | (rw [this]; omega) | (show _ + 3 ≤ _; omega) | (show _ + 0 ≤ _; omega))
        go_wp2_with (at_builtin; refine buf_append_str rfl _ _ rfl B _ _ rfl hbx1.out _ rfl HLa2 hBx1 ?_; intro va2 wa2 hba2 hga2 hbl2)
        have hbx2 : Hid (Buf wa2 B va2 (L ++ [37, 50, 99] ++ (s.data.toList.take (s.size - 1)).drop 1 ++ [37, 50, 99])) := Lib.hid (by first | exact hba2 | (have e := hba2; rw [List.append_nil] at e; exact e))
        have hbel2 := Lib.hid (hbel1.out.trans hbl2)
        have hBx2 : B ≤ wa2.heap.size := Nat.le_trans hBx1 hbl2.size
        clear hba2 hga2 hbl2
        go_ret
        exact ⟨va2, rfl, show Buf wa2 B va2 (L ++ commaL s.data.toList) from by rw [HE.out]; have e := hbx2.out; rw [List.append_assoc, List.append_assoc] at e; exact e, hbel2.out⟩
      · have tl : ((s[s.size - 1].toNat : Int) == 44) = false := by simp; omega
        have HE := Lib.hid (HE0.out.trans (if_neg hl))
        clear hl
        go_enter Tryz.func31, Tryz.ntmps31
        have HLa0 : (L).length + (ByteArray.mk #[37, 50, 99]).size ≤ 140737488355328 := by
          have := len_data s
          show _ + _ ≤ _; (try simp only [List.length_append, List.length_take, List.length_drop, ByteArray.size_extract, List.length_cons, List.length_nil]); (first | omega | (rw [this]; omega) | (show _ + 3 ≤ _; omega) | (show _ + 0 ≤ _; omega))
        go_upto_region 10 with (at_builtin; refine buf_append_str rfl _ _ rfl B _ _ rfl hbuf.out _ rfl HLa0 hB ?_; intro va0 wa0 hba0 hga0 hbl0)
        have hbx0 : Hid (Buf wa0 B va0 (L ++ [37, 50, 99])) := Lib.hid (by first | exact hba0 | (have e := hba0; rw [List.append_nil] at e; exact e))
        have hbel0 := Lib.hid hbl0
        have hBx0 : B ≤ wa0.heap.size := Nat.le_trans hB hbl0.size
        clear hba0 hga0 hbl0
        have HLa1 : (L ++ [37, 50, 99]).length + (s.extract 1 s.size).size ≤ 140737488355328 := by
          have := len_data s
          show _ + _ ≤ _; (try simp only [List.length_append, List.length_take, List.length_drop, ByteArray.size_extract, List.length_cons, List.length_nil]); (first | omega | (rw [this]; omega) | (show _ + 3 ≤ _; omega) | (show _ + 0 ≤ _; omega))
        go_wp2_with (at_builtin; refine buf_append_str rfl _ _ rfl B _ _ rfl hbx0.out _ rfl HLa1 hBx0 ?_; intro va1 wa1 hba1 hga1 hbl1)
        have hbx1 : Hid (Buf wa1 B va1 (L ++ [37, 50, 99] ++ (s.data.toList.take s.size).drop 1)) := Lib.hid (by first | exact hba1 | (have e := hba1; rw [ext_mid _ _ _ (by omega)] at e; exact e))
        have hbel1 := Lib.hid (hbel0.out.trans hbl1)
        have hBx1 : B ≤ wa1.heap.size := Nat.le_trans hBx0 hbl1.size
        clear hba1 hga1 hbl1
        go_ret
        exact ⟨va1, rfl, show Buf wa1 B va1 (L ++ commaL s.data.toList) from by rw [HE.out]; have e := hbx1.out; rw [List.take_of_length_le (by rw [len_data]; exact Nat.le_refl _)] at e; simpa [List.append_assoc] using e, hbel1.out⟩
  · have t44 : ((s[0].toNat : Int) == 44) = false := by simp; omega
    have HE0 := Lib.hid (commaL_plain h0 h44)
    clear h44
    by_cases hl : s[s.size - 1].toNat = 44
    · have tl : ((s[s.size - 1].toNat : Int) == 44) = true := by simp; omega
      have HE := Lib.hid (HE0.out.trans (if_pos hl))
      clear hl
      go_enter Tryz.func31, Tryz.ntmps31
      have HLa0 : (L).length + (s.extract 0 (s.size - 1)).size ≤ 140737488355328 := by
        have := len_data s
        show _ + _ ≤ _; (try simp only [List.length_append, List.length_take, List.length_drop, ByteArray.size_extract, List.length_cons, List.length_nil]); (first | omega | (rw [this]; omega) | (show _ + 3 ≤ _; omega) | (show _ + 0 ≤ _; omega))
      go_upto_region 12 with (at_builtin; refine buf_append_str rfl _ _ rfl B _ _ rfl hbuf.out _ rfl HLa0 hB ?_; intro va0 wa0 hba0 hga0 hbl0)
      have hbx0 : Hid (Buf wa0 B va0 (L ++ (s.data.toList.take (s.size - 1)).drop 0)) := Lib.hid (by first | exact hba0 | (have e := hba0; rw [ext_mid _ _ _ (by omega)] at e; exact e))
      have hbel0 := Lib.hid hbl0
      have hBx0 : B ≤ wa0.heap.size := Nat.le_trans hB hbl0.size
      clear hba0 hga0 hbl0
      have HLa1 : (L ++ (s.data.toList.take (s.size - 1)).drop 0).length + (ByteArray.mk #[37, 50, 99]).size ≤ 140737488355328 := by
        have := len_data s
        show _ + _ ≤ _; (try simp only [List.length_append, List.length_take, List.length_drop, ByteArray.size_extract, List.length_cons, List.length_nil]); (first | omega | (rw [this]; omega) | (show _ + 3 ≤ _; omega) | (show _ + 0 ≤ _; omega))
      go_wp2_with (at_builtin; refine buf_append_str rfl _ _ rfl B _ _ rfl hbx0.out _ rfl HLa1 hBx0 ?_; intro va1 wa1 hba1 hga1 hbl1)
      have hbx1 : Hid (Buf wa1 B va1 (L ++ (s.data.toList.take (s.size - 1)).drop 0 ++ [37, 50, 99])) := Lib.hid (by first | exact hba1 | (have e := hba1; rw [List.append_nil] at e; exact e))
      have hbel1 := Lib.hid (hbel0.out.trans hbl1)
      have hBx1 : B ≤ wa1.heap.size := Nat.le_trans hBx0 hbl1.size
      clear hba1 hga1 hbl1
      go_ret
      exact ⟨va1, rfl, show Buf wa1 B va1 (L ++ commaL s.data.toList) from by rw [HE.out]; have e := hbx1.out; first | (rw [List.append_assoc, List.drop_zero] at e; exact e) | (rw [List.take_of_length_le (by rw [len_data]; exact Nat.le_refl _), List.append_assoc] at e; exact e), hbel1.out⟩
    · have tl : ((s[s.size - 1].toNat : Int) == 44) = false := by simp; omega
      have HE := Lib.hid (HE0.out.trans (if_neg hl))
      clear hl
      go_enter Tryz.func31, Tryz.ntmps31
      have HLa0 : (L).length + s.size ≤ 140737488355328 := by
        have := len_data s
        show _ + _ ≤ _; (try simp only [List.length_append, List.length_take, List.length_drop, ByteArray.size_extract, List.length_cons, List.length_nil]); (first | omega | (rw [this]; omega) | (show _ + 3 ≤ _; omega) | (show _ + 0 ≤ _; omega))
      go_wp2_with (at_builtin; refine buf_append_str rfl _ _ rfl B _ _ rfl hbuf.out _ rfl HLa0 hB ?_; intro va0 wa0 hba0 hga0 hbl0)
      have hbx0 : Hid (Buf wa0 B va0 (L ++ s.data.toList)) := Lib.hid (by first | exact hba0 | (have e := hba0; rw [ext_mid _ _ _ (by omega)] at e; exact e))
      have hbel0 := Lib.hid hbl0
      have hBx0 : B ≤ wa0.heap.size := Nat.le_trans hB hbl0.size
      clear hba0 hga0 hbl0
      go_ret
      exact ⟨va0, rfl, show Buf wa0 B va0 (L ++ commaL s.data.toList) from by rw [HE.out]; have e := hbx0.out; exact e, hbel0.out⟩

end Go.Proofs.YtlpkdagdfopchaaGreatDoor
