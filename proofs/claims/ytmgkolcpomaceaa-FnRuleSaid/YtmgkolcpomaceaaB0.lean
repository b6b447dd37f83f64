/- Base of this seat's own texts: small general lemmas on worlds, bytes and calls. -/
import Derived.Test.YtmgkolcpomaceaaProg
import Derived.Below
import Derived.Deep.Draws
import Derived.Deep.AppendLies
import Derived.Maps.AppendAt
import Derived.OwnWalk
import Derived.Laws.BytesArg
import Derived.Laws.MakeOwn
import Derived.Laws.OwnMore
import Derived.Deep.OwnRows
import Derived.Tactics
import Derived.Lib.ConvBytes
import Derived.Lib.Hide
import Derived.Laws.Slices
import Derived.WalkKit
import Derived.WalkSpells
import Derived.WalkLawsBesides
import Derived.KernelRfl
import Derived.RowKit3
import Derived.Deep.LoopGhost
import Derived.Deep.QuietTactic
import Derived.BigQuiet
import Derived.WideLaws
import Derived.Deep.DeepCutAuto
import Derived.Deep.CutBlock
import Derived.Deep.RegionHeld3
import Derived.Laws.Rows
import Derived.Lib.AppendStr
import Derived.ArgAppend
import Derived.Laws.IdiomCopy
import Derived.OrdersHeld
import Derived.Laws.BitsLemmas
import Derived.RowKit
import Derived.Handy
import Derived.Lib.Strings
import Derived.Lib.SmallJoins
namespace Go.Proofs.Ytmgkolcpomaceaa
open Go.RowKit

/- Bytes and lists. -/
theorem toNat_lt_256 (c : UInt8) : c.toNat < 256 := c.toNat_lt
theorem getElem_mem_data (s : ByteArray) (k : Nat) (h : k < s.size) : s[k] ∈ s.data.toList := by
  show s.data[k] ∈ s.data.toList
  simp
theorem take_succ_byte (s : ByteArray) (k : Nat) (h : k < s.size) : s.data.toList.take (k + 1) = s.data.toList.take k ++ [s[k]] := by
  rw [List.take_succ_eq_append_getElem (by simpa using h)]; rfl
theorem drop_byte (s : ByteArray) (k : Nat) (h : k < s.size) : s.data.toList.drop k = s[k] :: s.data.toList.drop (k + 1) := by
  rw [List.drop_eq_getElem_cons (by simpa using h)]; rfl
theorem all_take_succ {p : UInt8 → Bool} (s : ByteArray) (k : Nat) (h : k < s.size) : (s.data.toList.take (k + 1)).all p = ((s.data.toList.take k).all p && p s[k]) := by
  rw [take_succ_byte s k h]; simp [List.all_append]
theorem all_false_of {p : UInt8 → Bool} (s : ByteArray) (k : Nat) (h : k < s.size) (hp : p s[k] = false) : s.data.toList.all p = false := by
  rw [List.all_eq_false]
  exact ⟨s[k], getElem_mem_data s k h, by simp [hp]⟩
theorem all_of_take {p : UInt8 → Bool} (s : ByteArray) (k : Nat) (h : s.size ≤ k) (ha : (s.data.toList.take k).all p = true) : s.data.toList.all p = true := by
  rwa [List.take_of_length_le (by simpa using h)] at ha
theorem revInd {α : Type} {P : List α → Prop} (nil : P []) (snoc : ∀ l a, P l → P (l ++ [a])) (l : List α) : P l := by
  have h : ∀ l : List α, P l.reverse := fun l => by
    induction l with
    | nil => exact nil
    | cons a l ih => rw [List.reverse_cons]; exact snoc _ _ ih
  have := h l.reverse
  rwa [List.reverse_reverse] at this
theorem snoc_of_ne {α : Type} {l : List α} (h : l ≠ []) : ∃ l' a, l = l' ++ [a] := ⟨l.dropLast, l.getLast h, (List.dropLast_concat_getLast h).symm⟩
theorem ret_bool {a b : Bool} (h : a = b) : Ending.returned (.bool a) = .returned (.bool b) := by rw [h]
theorem ret_int {k : IntKind} {a b : Int} (h : a = b) : Ending.returned (.int k a) = .returned (.int k b) := by rw [h]
theorem ret_string {a b : ByteArray} (h : a = b) : Ending.returned (.string a) = .returned (.string b) := by rw [h]

/- Worlds. -/
theorem bcell {W w1 : World} (hb : Below W.heap.size W w1) : (∀ b o, b < W.heap.size → w1.cell? ⟨b, o, none⟩ = W.cell? ⟨b, o, none⟩) ∧ (∀ b o, b < W.heap.size → w1.frozen? ⟨b, o, none⟩ = W.frozen? ⟨b, o, none⟩) :=
  ⟨fun b o h => hb.cell (p := ⟨b, o, none⟩) h, fun b o h => hb.frozen (p := ⟨b, o, none⟩) h⟩
theorem below_then {B : Nat} {w w1 w2 : World} (h : Below B w w1) (hB : B ≤ w1.heap.size) (k : Below w1.heap.size w1 w2) : Below B w w2 :=
  h.trans ⟨k.os, k.tape, k.output, k.size, fun i hi => k.block i (Nat.lt_of_lt_of_le hi hB)⟩
theorem below_own {w w1 : World} {o : Obj} (hb : Below (w.alloc o).heap.size (w.alloc o) w1) : Below w.heap.size w w1 :=
  ((Below.refl _ _).alloc (Nat.le_refl _) _).trans (hb.mono (by simp))
theorem own_cell {w w1 : World} {cs : Array Value} {T : TypeId} (hb : Below (w.alloc (.cells cs T)).heap.size (w.alloc (.cells cs T)) w1) (i : Nat) : w1.cell? ⟨w.heap.size, i, none⟩ = cs[i]? := by
  rw [hb.cell (p := ⟨w.heap.size, i, none⟩) (by simp)]
  simp [go_sem]
theorem own_free {w w1 : World} {cs : Array Value} {T : TypeId} (hb : Below (w.alloc (.cells cs T)).heap.size (w.alloc (.cells cs T)) w1) (i : Nat) : w1.frozen? ⟨w.heap.size, i, none⟩ = false := by
  rw [hb.frozen (p := ⟨w.heap.size, i, none⟩) (by simp)]
  simp [go_sem]
theorem own_lt {w w1 : World} {o : Obj} (hb : Below (w.alloc o).heap.size (w.alloc o) w1) : w.heap.size < w1.heap.size := by
  have := hb.size; simp at this; omega
theorem below_drewN {B : Nat} {a w : World} (h : Below B a w) (n : Nat) : Below B a (w.drewN n) := ⟨h.os, h.tape, h.output, h.size, h.block⟩
theorem bytesWorld_below (w : World) (e : TypeId) (s : ByteArray) : Below w.heap.size w (Lib.bytesWorld w e s) :=
  ⟨rfl, rfl, rfl, by rw [Lib.bytesWorld_size]; omega, fun k hk => Lib.bytesWorld_at_old w e s k hk⟩
theorem bytesWorld_cell' (w : World) (e : TypeId) (s : ByteArray) (j : Nat) (hj : j < s.size) : (Lib.bytesWorld w e s).cell? ⟨w.heap.size, j, none⟩ = some (.int .u8 (s[j].toNat : Int)) := by
  rw [Lib.bytesWorld_cell w e s j hj]
  simp [List.getD, hj]
  rfl

/-- A function value of no captures is entered where it is called. -/
def Enters (m : FuncId) : Prop := ∀ (args : Array Value) (w : World), (callFunc m args).run Try.prog w = .ok (.enter m args) w

end Go.Proofs.Ytmgkolcpomaceaa
