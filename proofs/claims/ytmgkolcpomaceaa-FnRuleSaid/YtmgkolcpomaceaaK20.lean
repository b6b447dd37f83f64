/- StyleFromProperties: what its walk needs. -/
import Derived.Test.YtmgkolcpomaceaaK19
import Derived.Test.YtmgkolcpomaceaaB2
import Derived.Deep.CutBlock
import Derived.Deep.DeepCutAuto
namespace Go.Proofs.Ytmgkolcpomaceaa
open Go.RowKit
set_option linter.unusedVariables false
set_option linter.unusedSimpArgs false

theorem urlS_size (s : ByteArray) : (urlS s).size ≤ s.size + 30 := by
  unfold urlS
  split
  · omega
  · have : innoc.size ≤ 30 := by decide
    omega
theorem urlS_ascii (s : ByteArray) (h : asciiB s = true) : asciiB (urlS s) = true := by
  unfold urlS
  split
  · exact h
  · decide
theorem innerS_ascii (s : ByteArray) (h : asciiB s = true) : asciiB (innerS s) = true := by
  unfold innerS
  split
  · rw [asciiB, List.all_eq_true] at h ⊢
    intro c hc
    rw [Lib.extract_data] at hc
    exact h c (List.mem_of_mem_drop (List.mem_of_mem_take hc))
  · exact h
theorem regS_size (s : ByteArray) (h : s.size ≤ 200) : (regS s).size ≤ 200 := by
  have : wrongS.size = 28 := rfl
  unfold regS; split <;> omega
theorem shownS_size (s : ByteArray) (h : s.size ≤ 200) : (shownS s).size ≤ 200 := by
  have : wrongS.size = 28 := rfl
  unfold shownS; split <;> omega
theorem quotedB_eq (x : ByteArray) (h : 2 < x.size) : quotedB x.data.toList = (startsB x ⟨#[34]⟩ && endsB x ⟨#[34]⟩) := by
  have hl : x.data.toList.length = x.size := by simp
  have e1 : startsB x ⟨#[34]⟩ = (x.data.toList.getD 0 0 == 34) := by
    show startsL x.data.toList [34] = _
    cases hx : x.data.toList with
    | nil => rw [hx] at hl; simp at hl; omega
    | cons c r =>
      show ([34] : List UInt8).isPrefixOf (c :: r) = (c == 34)
      simp [List.isPrefixOf]
      rw [Bool.eq_iff_iff]; simp; exact eq_comm
  have e2 : endsB x ⟨#[34]⟩ = (x.data.toList.getD (x.size - 1) 0 == 34) := by
    have h1 : decide ((⟨#[34]⟩ : ByteArray).size ≤ x.size) = true := by
      have : (⟨#[34]⟩ : ByteArray).size = 1 := rfl
      simp [this]; omega
    have hd : x.data.toList.drop (x.size - 1) = [x.data.toList.getD (x.size - 1) 0] := by
      rw [List.drop_eq_getElem_cons (by omega), List.drop_eq_nil_of_le (by omega), List.getD_eq_getElem?_getD, List.getElem?_eq_getElem (by omega)]; rfl
    rw [endsB, h1]
    show (x.data.toList.drop (x.size - 1) == [34]) = _
    rw [hd, Bool.eq_iff_iff]; simp
  rw [e1, e2, quotedB, hl, decide_eq_true h, Bool.true_and]
theorem joinI_snoc0 (fam : Bool) (l : List ByteArray) (x : ByteArray) (h : l = []) : joinI fam (l ++ [x]) = lineI fam x := by rw [joinI_snoc, if_pos h]; rfl
theorem joinI_snoc1 (fam : Bool) (l : List ByteArray) (x : ByteArray) (h : l ≠ []) : joinI fam (l ++ [x]) = joinI fam l ++ [44, 32] ++ lineI fam x := by rw [joinI_snoc, if_neg h]

def propCell (A0 : Option Addr) (n0 c0 : Nat) (A1 : Option Addr) (n1 c1 : Nat) (s : Nat → ByteArray) : Nat → Value
  | 0 => .slice A0 n0 c0
  | 1 => .slice A1 n1 c1
  | i => .string (s i)
structure PropW (pc : Nat → Value) (w wx : World) : Prop where
  cell : ∀ i, i < 17 → wx.cell? ⟨w.heap.size, i, none⟩ = some (pc i)
  res : wx.cell? ⟨w.heap.size + 1, 0, none⟩ = some (.string ⟨#[]⟩)
  free : wx.frozen? ⟨w.heap.size + 1, 0, none⟩ = false
  lt : w.heap.size + 1 < wx.heap.size
  below : Below w.heap.size w wx
theorem PropW.on {pc : Nat → Value} {w wx wy : World} (h : PropW pc w wx) (hb : Below wx.heap.size wx wy) : PropW pc w wy :=
  ⟨fun i hi => (hb.cell (p := ⟨w.heap.size, i, none⟩) (by have := h.lt; simp; omega)).trans (h.cell i hi), (hb.cell (p := ⟨w.heap.size + 1, 0, none⟩) h.lt).trans h.res, (hb.frozen (p := ⟨w.heap.size + 1, 0, none⟩) h.lt).trans h.free,
   Nat.lt_of_lt_of_le h.lt hb.size, below_then h.below h.below.size hb⟩
def propArr (pc : Nat → Value) : Array Value := #[pc 0, pc 1, pc 2, pc 3, pc 4, pc 5, pc 6, pc 7, pc 8, pc 9, pc 10, pc 11, pc 12, pc 13, pc 14, pc 15, pc 16]
theorem propW_start (pc : Nat → Value) (w : World) : PropW pc w ((w.alloc (Obj.cells (propArr pc) 102)).alloc (Obj.cells #[.string ⟨#[]⟩] 54)) := by
  have hsz : (w.alloc (Obj.cells (propArr pc) 102)).heap.size = w.heap.size + 1 := by simp
  refine ⟨fun i hi => ?_, ?_, ?_, by simp, ((Below.refl _ _).alloc (Nat.le_refl _) _).alloc (by simp) _⟩
  · refine ((Below.own (w.alloc (Obj.cells (propArr pc) 102)) (Obj.cells #[.string ⟨#[]⟩] 54)).cell (p := ⟨w.heap.size, i, none⟩) (by simp)).trans ?_
    rw [World.cell?_alloc_new]
    rcases i with _ | _ | _ | _ | _ | _ | _ | _ | _ | _ | _ | _ | _ | _ | _ | _ | _ | i
    all_goals first | rfl | omega
  · rw [← hsz, World.cell?_alloc_new]; rfl
  · rw [← hsz]; simp [go_sem]

theorem enters136 : Enters 136 := fun args w => by simp [go_sem, Try.func136]
theorem enters137 : Enters 137 := fun args w => by simp [go_sem, Try.func137]
theorem filter_shownS (x : ByteArray) (w : World) (hs : x.size ≤ 2147483647) : Calls Try.prog 135 #[.string x, .func (.func 136) #[] #[]] w fun e w' => e = .returned (.string (shownS x)) ∧ Below w.heap.size w w' :=
  filter_calls 136 _ enters136 x w (Lib.hid fun w => enum_calls x w hs)
theorem filter_regS (x : ByteArray) (w : World) (hs : x.size ≤ 2147483647) : Calls Try.prog 135 #[.string x, .func (.func 137) #[] #[]] w fun e w' => e = .returned (.string (regS x)) ∧ Below w.heap.size w w' :=
  filter_calls 137 _ enters137 x w (Lib.hid fun w => regular_calls x w hs)
end Go.Proofs.Ytmgkolcpomaceaa
