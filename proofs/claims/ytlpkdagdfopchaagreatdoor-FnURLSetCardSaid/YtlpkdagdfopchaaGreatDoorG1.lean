/- Base of this seat: worlds, bytes, slices of texts, buffers, prefixes, small letters, classes. -/
import Derived.Test.YtlpkdagdfopchaaGreatDoorProg
import Derived.Below
import Derived.Deep.Draws
import Derived.Deep.AppendLies
import Derived.Maps.AppendAt
import Derived.OwnWalk
import Derived.Laws.BytesArg
import Derived.Laws.MakeOwn
import Derived.Laws.OwnMore
import Derived.Deep.OwnRows
import Derived.Tactics
import Derived.Lib.ConvBytes
import Derived.Lib.Hide
import Derived.Laws.Slices
import Derived.WalkKit
import Derived.WalkSpells
import Derived.WalkLawsBesides
import Derived.KernelRfl
import Derived.RowKit3
import Derived.Deep.LoopGhost
import Derived.Deep.QuietTactic
import Derived.BigQuiet
import Derived.WideLaws
import Derived.Deep.DeepCutAuto
import Derived.Deep.CutBlock
import Derived.Deep.RegionHeld3
import Derived.Laws.Rows
import Derived.Lib.AppendStr
import Derived.ArgAppend
import Derived.Laws.IdiomCopy
import Derived.OrdersHeld
import Derived.Laws.BitsLemmas
import Derived.RowKit
import Derived.Handy
import Derived.Lib.Strings
import Derived.Lib.SmallJoins
import Derived.Deep.RegionLaw
namespace Go.Proofs.YtlpkdagdfopchaaGreatDoor
open Go.RowKit
set_option linter.unusedVariables false
set_option linter.unusedSimpArgs false


/- Bytes and lists. -/
theorem toNat_lt_256 (c : UInt8) : c.toNat < 256 := c.toNat_lt
theorem getElem_mem_data (s : ByteArray) (k : Nat) (h : k < s.size) : s[k] ∈ s.data.toList := by
  show s.data[k] ∈ s.data.toList
  simp
theorem take_succ_byte (s : ByteArray) (k : Nat) (h : k < s.size) : s.data.toList.take (k + 1) = s.data.toList.take k ++ [s[k]] := by
  rw [List.take_succ_eq_append_getElem (by simpa using h)]; rfl
theorem drop_byte (s : ByteArray) (k : Nat) (h : k < s.size) : s.data.toList.drop k = s[k] :: s.data.toList.drop (k + 1) := by
  rw [List.drop_eq_getElem_cons (by simpa using h)]; rfl
theorem all_take_succ {p : UInt8 → Bool} (s : ByteArray) (k : Nat) (h : k < s.size) : (s.data.toList.take (k + 1)).all p = ((s.data.toList.take k).all p && p s[k]) := by
  rw [take_succ_byte s k h]; simp [List.all_append]
theorem all_false_of {p : UInt8 → Bool} (s : ByteArray) (k : Nat) (h : k < s.size) (hp : p s[k] = false) : s.data.toList.all p = false := by
  rw [List.all_eq_false]
  exact ⟨s[k], getElem_mem_data s k h, by simp [hp]⟩
theorem all_of_take {p : UInt8 → Bool} (s : ByteArray) (k : Nat) (h : s.size ≤ k) (ha : (s.data.toList.take k).all p = true) : s.data.toList.all p = true := by
  rwa [List.take_of_length_le (by simpa using h)] at ha
theorem revInd {α : Type} {P : List α → Prop} (nil : P []) (snoc : ∀ l a, P l → P (l ++ [a])) (l : List α) : P l := by
  have h : ∀ l : List α, P l.reverse := fun l => by
    induction l with
    | nil => exact nil
    | cons a l ih => rw [List.reverse_cons]; exact snoc _ _ ih
  have := h l.reverse
  rwa [List.reverse_reverse] at this
theorem snoc_of_ne {α : Type} {l : List α} (h : l ≠ []) : ∃ l' a, l = l' ++ [a] := ⟨l.dropLast, l.getLast h, (List.dropLast_concat_getLast h).symm⟩
theorem ret_bool {a b : Bool} (h : a = b) : Ending.returned (.bool a) = .returned (.bool b) := by rw [h]
theorem ret_int {k : IntKind} {a b : Int} (h : a = b) : Ending.returned (.int k a) = .returned (.int k b) := by rw [h]
theorem ret_string {a b : ByteArray} (h : a = b) : Ending.returned (.string a) = .returned (.string b) := by rw [h]

/- Worlds. -/
theorem bcell {W w1 : World} (hb : Below W.heap.size W w1) : (∀ b o, b < W.heap.size → w1.cell? ⟨b, o, none⟩ = W.cell? ⟨b, o, none⟩) ∧ (∀ b o, b < W.heap.size → w1.frozen? ⟨b, o, none⟩ = W.frozen? ⟨b, o, none⟩) :=
  ⟨fun b o h => hb.cell (p := ⟨b, o, none⟩) h, fun b o h => hb.frozen (p := ⟨b, o, none⟩) h⟩
theorem below_then {B : Nat} {w w1 w2 : World} (h : Below B w w1) (hB : B ≤ w1.heap.size) (k : Below w1.heap.size w1 w2) : Below B w w2 :=
  h.trans ⟨k.os, k.tape, k.output, k.size, fun i hi => k.block i (Nat.lt_of_lt_of_le hi hB)⟩
theorem below_own {w w1 : World} {o : Obj} (hb : Below (w.alloc o).heap.size (w.alloc o) w1) : Below w.heap.size w w1 :=
  ((Below.refl _ _).alloc (Nat.le_refl _) _).trans (hb.mono (by simp))
theorem own_cell {w w1 : World} {cs : Array Value} {T : TypeId} (hb : Below (w.alloc (.cells cs T)).heap.size (w.alloc (.cells cs T)) w1) (i : Nat) : w1.cell? ⟨w.heap.size, i, none⟩ = cs[i]? := by
  rw [hb.cell (p := ⟨w.heap.size, i, none⟩) (by simp)]
  simp [go_sem]
theorem own_free {w w1 : World} {cs : Array Value} {T : TypeId} (hb : Below (w.alloc (.cells cs T)).heap.size (w.alloc (.cells cs T)) w1) (i : Nat) : w1.frozen? ⟨w.heap.size, i, none⟩ = false := by
  rw [hb.frozen (p := ⟨w.heap.size, i, none⟩) (by simp)]
  simp [go_sem]
theorem own_lt {w w1 : World} {o : Obj} (hb : Below (w.alloc o).heap.size (w.alloc o) w1) : w.heap.size < w1.heap.size := by
  have := hb.size; simp at this; omega
theorem below_drewN {B : Nat} {a w : World} (h : Below B a w) (n : Nat) : Below B a (w.drewN n) := ⟨h.os, h.tape, h.output, h.size, h.block⟩
theorem bytesWorld_below (w : World) (e : TypeId) (s : ByteArray) : Below w.heap.size w (Lib.bytesWorld w e s) :=
  ⟨rfl, rfl, rfl, by rw [Lib.bytesWorld_size]; omega, fun k hk => Lib.bytesWorld_at_old w e s k hk⟩
theorem bytesWorld_cell' (w : World) (e : TypeId) (s : ByteArray) (j : Nat) (hj : j < s.size) : (Lib.bytesWorld w e s).cell? ⟨w.heap.size, j, none⟩ = some (.int .u8 (s[j].toNat : Int)) := by
  rw [Lib.bytesWorld_cell w e s j hj]
  simp [List.getD, hj]
  rfl

/-- A function value of no captures is entered where it is called. -/
def Enters (m : FuncId) : Prop := ∀ (args : Array Value) (w : World), (callFunc m args).run Tryz.prog w = .ok (.enter m args) w



def StrsAt (w : World) (A : Option Addr) (l : List ByteArray) : Prop := ∀ k (_ : k < l.length), ∃ ad : Addr, A = some ad ∧ ad.block < w.heap.size ∧ w.cell? (ad.add k) = some (.string l[k])
theorem add_block (a : Addr) (n : Nat) : (a.add n).block = a.block := by unfold Addr.add; split <;> rfl
theorem StrsAt.below {w w1 : World} {A : Option Addr} {l : List ByteArray} (h : StrsAt w A l) (hb : Below w.heap.size w w1) : StrsAt w1 A l := fun k hk => by
  obtain ⟨ad, e, hlt, hc⟩ := h k hk
  exact ⟨ad, e, Nat.lt_of_lt_of_le hlt hb.size, (hb.cell (by rw [add_block]; exact hlt)).trans hc⟩
theorem strsAt_new (w : World) (g : Nat) (l : List ByteArray) (T : TypeId) (hg : g = w.heap.size) : StrsAt (w.alloc (.cells (l.map Value.string).toArray T)) (some ⟨g, 0, none⟩) l := fun k hk => by
  subst hg
  refine ⟨_, rfl, by simp, ?_⟩
  have : (⟨w.heap.size, 0, none⟩ : Addr).add k = ⟨w.heap.size, k, none⟩ := by unfold Addr.add; split <;> simp_all
  rw [this]
  simp [go_sem, hk]
theorem any_take_succ {α : Type} {p : α → Bool} (l : List α) (k : Nat) (h : k < l.length) : (l.take (k + 1)).any p = ((l.take k).any p || p l[k]) := by
  rw [List.take_succ_eq_append_getElem h, List.any_append]; simp only [List.any_cons, List.any_nil, Bool.or_false]
theorem any_true_of {α : Type} {p : α → Bool} (l : List α) (k : Nat) (h : k < l.length) (hp : p l[k] = true) : l.any p = true := by
  rw [List.any_eq_true]; exact ⟨l[k], List.getElem_mem _, hp⟩
theorem any_of_take {α : Type} {p : α → Bool} (l : List α) (k : Nat) (h : l.length ≤ k) (ha : (l.take k).any p = false) : l.any p = false := by
  rwa [List.take_of_length_le h] at ha
theorem lall_take_succ {α : Type} {p : α → Bool} (l : List α) (k : Nat) (h : k < l.length) : (l.take (k + 1)).all p = ((l.take k).all p && p l[k]) := by
  rw [List.take_succ_eq_append_getElem h, List.all_append]; simp only [List.all_cons, List.all_nil, Bool.and_true]
theorem lall_false_of {α : Type} {p : α → Bool} (l : List α) (k : Nat) (h : k < l.length) (hp : p l[k] = false) : l.all p = false := by
  rw [List.all_eq_false]; exact ⟨l[k], List.getElem_mem _, by simp [hp]⟩
theorem lall_of_take {α : Type} {p : α → Bool} (l : List α) (k : Nat) (h : l.length ≤ k) (ha : (l.take k).all p = true) : l.all p = true := by
  rwa [List.take_of_length_le h] at ha

def smallB (s : ByteArray) : Bool := decide (s.size ≤ 200)
def shortB (l : List ByteArray) : Bool := l.all smallB && decide (l.length ≤ 20)
def asciiC (c : UInt8) : Bool := decide (c.toNat ≤ 127)
def asciiB (s : ByteArray) : Bool := s.data.toList.all asciiC
def plainB (l : List ByteArray) : Bool := l.all asciiB && shortB l

set_option maxHeartbeats 400000 in
set_option maxRecDepth 100000 in
theorem isShort_calls (l : List ByteArray) (A : Option Addr) (cap : Nat) (w : World) (hA : Hid (StrsAt w A l)) (hl : l.length ≤ 2147483647) :
    Calls Tryz.prog 24 #[.slice A l.length cap] w fun e w' => e = .returned (.bool (shortB l)) ∧ w = w' := by
  go_enter Tryz.func24, Tryz.ntmps24
  go_wp2
  go_loop [7] (fun i => ∃ k : Nat, k ≤ l.length ∧ i = .int .i64 k ∧ Hid ((l.take k).all smallB = true)) (fun i => l.length - (intOf i).toNat)
  case atStart => exact ⟨0, Nat.zero_le _, rfl, by simp [Hid]⟩
  case round =>
    obtain ⟨k, hk, rfl, ha⟩ := hrel
    by_cases hlt : k < l.length
    · have H := Lib.hid (lall_take_succ (p := smallB) l k hlt)
      obtain ⟨ad, rfl, hblk, hc⟩ := hA.out k hlt
      by_cases h1 : 200 < l[k].size
      · have h1' : decide (200 < (l[k].size : Int)) = true := by simp; omega
        have h1'' : decide (200 < l[k].size) = true := by simp; omega
        go_wp2
        go_ret
        exact ⟨ret_bool (by rw [shortB, lall_false_of l k hlt (by simp [smallB]; omega)]; rfl), rfl⟩
      · have h1' : decide (200 < (l[k].size : Int)) = false := by simp; omega
        have h1'' : decide (200 < l[k].size) = false := by simp; omega
        go_wp2
        go_round
        case rel => exact ⟨k + 1, by omega, by go_num, by rw [Hid, H.out, ha.out]; simp [smallB]; omega⟩
        case measure => simp [intOf]; omega
    · go_wp2
      go_ret
      exact ⟨ret_bool (by rw [shortB, lall_of_take l k (by omega) ha.out]; simp; omega), rfl⟩

set_option maxHeartbeats 400000 in
set_option maxRecDepth 100000 in
theorem isPlain_calls (l : List ByteArray) (A : Option Addr) (cap : Nat) (w : World) (hA : Hid (StrsAt w A l)) (hl : l.length ≤ 2147483647) (hs : Hid (∀ s ∈ l, s.size ≤ 2147483647)) :
    Calls Tryz.prog 16 #[.slice A l.length cap] w fun e w' => e = .returned (.bool (plainB l)) ∧ w = w' := by
  go_enter Tryz.func16, Tryz.ntmps16
  go_wp2
  go_loop [8] (fun i => ∃ k : Nat, k ≤ l.length ∧ i = .int .i64 k ∧ Hid ((l.take k).all asciiB = true)) (fun i => l.length - (intOf i).toNat)
  case atStart => exact ⟨0, Nat.zero_le _, rfl, by simp [Hid]⟩
  case round =>
    obtain ⟨k, hk, rfl, ha⟩ := hrel
    by_cases hlt : k < l.length
    · have H := Lib.hid (lall_take_succ (p := asciiB) l k hlt)
      obtain ⟨ad, rfl, hblk, hc⟩ := hA.out k hlt
      obtain ⟨s, hsk⟩ : ∃ s, s = l[k] := ⟨_, rfl⟩
      rw [← hsk] at hc H
      have hsz : s.size ≤ 2147483647 := by rw [hsk]; exact hs.out _ (List.getElem_mem _)
      have HS := Lib.hid hsk
      clear hsk
      go_wp2
      go_loop [5] (fun i => ∃ j : Nat, j ≤ s.size ∧ i = .int .i64 j ∧ Hid ((s.data.toList.take j).all asciiC = true)) (fun i => s.size - (intOf i).toNat)
      case atStart => exact ⟨0, Nat.zero_le _, rfl, by simp [Hid]⟩
      case round =>
        obtain ⟨j, hj, rfl, hb⟩ := hrel
        by_cases hjt : j < s.size
        · have HJ := Lib.hid (all_take_succ (p := asciiC) s j hjt)
          by_cases h1 : 127 < s[j].toNat
          · have h1' : decide (127 < (s[j].toNat : Int)) = true := by simp; omega
            go_wp2
            go_ret
            exact ⟨ret_bool (by rw [plainB, lall_false_of l k hlt (by rw [← HS.out]; exact all_false_of s j hjt (by simp [asciiC]; omega))]; rfl), rfl⟩
          · have h1' : decide (127 < (s[j].toNat : Int)) = false := by simp; omega
            go_wp2
            go_round
            case rel => exact ⟨j + 1, by omega, by go_num, by rw [Hid, HJ.out, hb.out]; simp [asciiC]; omega⟩
            case measure => simp [intOf]; omega
        · go_wp2
          go_round
          case rel => exact ⟨k + 1, by omega, by go_num, by rw [Hid, H.out, ha.out]; exact all_of_take s j (by omega) hb.out⟩
          case measure => simp [intOf]; omega
    · go_wp2_with fail
      refine (isShort_calls l A cap _ hA hl).mono ?_
      rintro e w' ⟨rfl, rfl⟩
      go_wp2
      go_ret
      exact ⟨ret_bool (by rw [plainB, lall_of_take l k (by omega) ha.out]; rfl), rfl⟩

theorem isShort_one (s : ByteArray) (A : Option Addr) (cap : Nat) (w : World) (hA : Hid (StrsAt w A [s])) :
    Calls Tryz.prog 24 #[.slice A 1 cap] w fun e w' => e = .returned (.bool (smallB s)) ∧ w = w' := by
  have h := isShort_calls [s] A cap w hA (by simp)
  rw [show shortB [s] = smallB s from by simp [shortB]] at h
  exact h
theorem isShort_two (s t : ByteArray) (A : Option Addr) (cap : Nat) (w : World) (hA : Hid (StrsAt w A [s, t])) :
    Calls Tryz.prog 24 #[.slice A 2 cap] w fun e w' => e = .returned (.bool (smallB s && smallB t)) ∧ w = w' := by
  have h := isShort_calls [s, t] A cap w hA (by simp)
  rw [show shortB [s, t] = (smallB s && smallB t) from by simp [shortB]] at h
  exact h
theorem isPlain_one (s : ByteArray) (A : Option Addr) (cap : Nat) (w : World) (hA : Hid (StrsAt w A [s])) (hs : s.size ≤ 2147483647) :
    Calls Tryz.prog 16 #[.slice A 1 cap] w fun e w' => e = .returned (.bool (asciiB s && smallB s)) ∧ w = w' := by
  have h := isPlain_calls [s] A cap w hA (by simp) (by intro x hx; simp at hx; subst hx; exact hs)
  rw [show plainB [s] = (asciiB s && smallB s) from by simp [plainB, shortB]] at h
  exact h
theorem isPlain_two (s t : ByteArray) (A : Option Addr) (cap : Nat) (w : World) (hA : Hid (StrsAt w A [s, t])) (hs : s.size ≤ 2147483647) (ht : t.size ≤ 2147483647) :
    Calls Tryz.prog 16 #[.slice A 2 cap] w fun e w' => e = .returned (.bool ((asciiB s && asciiB t) && (smallB s && smallB t))) ∧ w = w' := by
  have h := isPlain_calls [s, t] A cap w hA (by simp) (by intro x hx; simp at hx; rcases hx with rfl | rfl <;> assumption)
  rw [show plainB [s, t] = ((asciiB s && asciiB t) && (smallB s && smallB t)) from by simp [plainB, shortB]] at h
  exact h


def byteV (c : UInt8) : Value := .int .u8 (c.toNat : Int)
/-- The slice value v (element type uint8) is one of the call's own, made from block B on, and holds the bytes l. -/
def Buf (w : World) (B : Nat) (v : Value) (l : List UInt8) : Prop := w.ownsRow B 5 1 v l.length (l.map byteV)

theorem info5 : (Tryz.prog.info? 5).map (fun i => (i.zero, i.size, i.bytes)) = some (some (.int .u8 0), 1, 1) := by kernel_rfl

theorem Buf.nil (w : World) (B : Nat) : Buf w B (.slice none 0 0) [] := ⟨rfl, .inl ⟨rfl, rfl⟩⟩
theorem Buf.moved {w w1 : World} {B : Nat} {v : Value} {l : List UInt8} (h : Buf w B v l) (hm : ∀ k, v.ownBlock = some k → w1.heap[k]? = w.heap[k]?) : Buf w1 B v l := by
  obtain ⟨h1, h2⟩ := h
  refine ⟨h1, ?_⟩
  rcases h2 with h2 | ⟨g, cap, cur, rfl, hg, hh, r⟩
  · exact .inl h2
  · exact .inr ⟨g, cap, cur, rfl, hg, (hm g (by simp [Value.ownBlock])).trans hh, r⟩
theorem Buf.lt {w : World} {B : Nat} {v : Value} {l : List UInt8} (h : Buf w B v l) {k : Nat} (hk : v.ownBlock = some k) : k < w.heap.size ∧ B ≤ k := by
  rcases h.2 with ⟨rfl, _⟩ | ⟨g, cap, cur, rfl, hg, hh, r⟩
  · simp [Value.ownBlock] at hk
  · have : g = k := by simpa [Value.ownBlock] using hk
    subst this
    refine ⟨?_, hg⟩
    exact (Array.getElem?_eq_some_iff.1 hh).1
theorem Buf.below {w w1 : World} {B : Nat} {v : Value} {l : List UInt8} (h : Buf w B v l) (hb : Below w.heap.size w w1) : Buf w1 B v l :=
  h.moved fun k hk => hb.block k (h.lt hk).1
theorem Buf.alloc {w : World} {B : Nat} {v : Value} {l : List UInt8} (h : Buf w B v l) (o : Obj) : Buf (w.alloc o) B v l :=
  h.moved fun k hk => Below.heap_alloc w o k (h.lt hk).1
theorem Buf.lower {w : World} {B B' : Nat} {v : Value} {l : List UInt8} (h : Buf w B v l) (hB : B' ≤ B) : Buf w B' v l := by
  obtain ⟨h1, h2⟩ := h
  refine ⟨h1, ?_⟩
  rcases h2 with h2 | ⟨g, cap, cur, rfl, hg, r⟩
  · exact .inl h2
  · exact .inr ⟨g, cap, cur, rfl, by omega, r⟩
/-- Behind an append: below B nothing has turned; and what is neither the buffer's row nor new is as it was. -/
theorem buf_below {w w1 : World} {B : Nat} {v : Value} {l : List UInt8} (h : Buf w B v l) (hB : B ≤ w.heap.size) (hg : w.grownBy w1 v.ownBlock) : Below B w w1 :=
  (Below.refl _ _).grown hg hB fun _ hk => (h.lt hk).2

section
variable {w : World} {ops : Array Oper} {rest : List Oper} {o : Oper} {a : Act} {Q : Exit → Act → World → Prop}
theorem buf_append_str (hgd : o.guard = none) (sl x : Operand) (ho : o.op = .call { callee := .builtin .append, args := #[sl, x], argTypes := #[38, 9] })
    (B : Nat) (v : Value) (l : List UInt8) (hs : a.eval sl = v) (hbuf : Buf w B v l) (s : ByteArray) (hx : a.eval x = .string s) (hl : l.length + s.size ≤ 140737488355328) (hB : B ≤ w.heap.size)
    (h : ∀ v' w', Buf w' B v' (l ++ s.data.toList) → w.grownBy w' v.ownBlock → Below B w w' → wpList Tryz.prog ops Q rest (a.put o.dst v') w') : wpList Tryz.prog ops Q (o :: rest) a w := by
  obtain ⟨i0, hi, hz0, hz1, hz2⟩ := info_parts info5
  refine Lib.wpList_append_own_string w hgd sl x 38 9 ho B 5 i0 Tryz.underlying38 Tryz.underlying9 hi hz0 hz1 hz2 v l.length _ hs hbuf s hx (by unfold maxLen; omega) hl hB ?_
  intro v' w' hown hg _
  refine h v' w' ?_ hg (buf_below hbuf hB hg)
  have e1 : l.length + s.size = (l ++ s.data.toList).length := by simp
  have e2 : l.map byteV ++ Lib.strCells s = (l ++ s.data.toList).map byteV := by rw [List.map_append]; rfl
  rw [e1, e2] at hown
  exact hown
theorem buf_append_byte (hgd : o.guard = none) (sl x : Operand) (ho : o.op = .call { callee := .builtin .append, args := #[sl, x], argTypes := #[38, 38] })
    (B : Nat) (v : Value) (l : List UInt8) (hs : a.eval sl = v) (hbuf : Buf w B v l) (g n c : Nat) (hx : a.eval x = .slice (some ⟨g, 0, none⟩) n c) (m : List UInt8) (hn : m.length = n)
    (hm : ∀ j (hj : j < m.length), w.cell? ⟨g, j, none⟩ = some (byteV m[j])) (hl : l.length + n ≤ 140737488355328) (hB : B ≤ w.heap.size)
    (h : ∀ v' w', Buf w' B v' (l ++ m) → w.grownBy w' v.ownBlock → Below B w w' → wpList Tryz.prog ops Q rest (a.put o.dst v') w') : wpList Tryz.prog ops Q (o :: rest) a w := by
  obtain ⟨i0, hi, hz0, hz1, hz2⟩ := info_parts info5
  have hadd : ∀ j, (⟨g, 0, none⟩ : Addr).add j = ⟨g, j, none⟩ := fun j => by unfold Addr.add; split <;> simp_all
  refine wpList_append_own w hgd sl x 38 ho B 5 i0 (.int .u8 0) 1 1 Tryz.underlying38 hi hz0 hz1 hz2 rfl (by omega) v l.length _ hs hbuf ⟨g, 0, none⟩ n c (m.map byteV) hx (by simp [hn]) ?_ ?_ (by unfold maxLen; omega) (by omega) hB ?_
  · intro j u hu
    rw [hadd]
    rw [List.getElem?_map] at hu
    by_cases hj : j < m.length
    · rw [List.getElem?_eq_getElem hj] at hu
      rw [hm j hj]
      exact hu
    · rw [List.getElem?_eq_none (by omega)] at hu
      simp at hu
  · intro u hu
    rw [List.mem_map] at hu
    obtain ⟨c, _, rfl⟩ := hu
    rfl
  · intro v' w' hown hg _
    refine h v' w' ?_ hg (buf_below hbuf hB hg)
    have e1 : l.length + n = (l ++ m).length := by simp [hn]
    rw [e1, ← List.map_append] at hown
    exact hown
end

theorem Buf.cells {w : World} {B : Nat} {v : Value} {l : List UInt8} (h : Buf w B v l) : (v = .slice none 0 0 ∧ l = []) ∨ ∃ g cap, v = .slice (some ⟨g, 0, none⟩) l.length cap ∧ B ≤ g ∧ g < w.heap.size ∧ ∀ j (hj : j < l.length), w.cell? ⟨g, j, none⟩ = some (byteV l[j]) := by
  rcases h.2 with ⟨rfl, hn⟩ | ⟨g, cap, cur, rfl, hg, hh, hc, _, hsz, ht⟩
  · exact .inl ⟨rfl, List.eq_nil_of_length_eq_zero hn⟩
  · refine .inr ⟨g, cap, rfl, hg, (Array.getElem?_eq_some_iff.1 hh).1, fun j hj => ?_⟩
    have e : w.cell? ⟨g, j, none⟩ = cur[j]? := cell_of_row w g j cur 5 (0, 0) hh
    rw [e]
    have h2 : (cur.toList.take (l.length * 1))[j]? = (l.map byteV)[j]? := by rw [ht]
    rw [List.getElem?_take_of_lt (by omega), List.getElem?_map, List.getElem?_eq_getElem hj] at h2
    simpa using h2
theorem buf_string {w : World} {B : Nat} {v : Value} {l : List UInt8} (h : Buf w B v l) : (convert 38 9 v).run Tryz.prog w = .ok (.string ⟨l.toArray⟩) w := by
  rcases h.cells with ⟨rfl, rfl⟩ | ⟨g, cap, rfl, _, _, hc⟩
  · exact run_convert_bytes_nil w 38 5 Tryz.underlying38 Tryz.underlying5 0 0 9 Tryz.underlying9
  · have hadd : ∀ j, (⟨g, 0, none⟩ : Addr).add j = ⟨g, j, none⟩ := fun j => by unfold Addr.add; split <;> simp_all
    exact run_convert_bytes_back w 38 9 5 ⟨g, 0, none⟩ cap l Tryz.underlying38 Tryz.underlying5 Tryz.underlying9 (fun j hj => by rw [hadd]; exact hc j hj)


def startsL (l p : List UInt8) : Bool := p.isPrefixOf l
def startsB (s p : ByteArray) : Bool := startsL s.data.toList p.data.toList
theorem startsB_short {s p : ByteArray} (h : s.size < p.size) : startsB s p = false := by
  rw [startsB, startsL, Bool.eq_false_iff]
  intro he
  have := (List.isPrefixOf_iff_prefix.1 he).length_le
  simp at this; omega
theorem startsB_eq {s p : ByteArray} : ((s.extract 0 p.size).toList == p.toList) = startsB s p := by
  rw [ByteArray.toList_eq, ByteArray.toList_eq, Lib.extract_data, List.drop_zero, Nat.sub_zero, startsB, startsL, Bool.eq_iff_iff, beq_iff_eq, List.isPrefixOf_iff_prefix, List.prefix_iff_eq_take]
  simp [eq_comm]

set_option maxRecDepth 100000 in
theorem zzStarts_calls (s p : ByteArray) (w : World) :
    Calls Tryz.prog 37 #[.string s, .string p] w fun x w' => x = .returned (.bool (startsB s p)) ∧ w = w' := by
  by_cases h : p.size ≤ s.size
  · have h1 : decide ((p.size : Int) ≤ (s.size : Int)) = true := by simp; omega
    have h2 : decide (p.size ≤ s.size) = true := by simp; omega
    go_enter Tryz.func37, Tryz.ntmps37
    go_wp2
    go_ret
    exact ⟨ret_bool (startsB_eq), rfl⟩
  · have h1 : decide ((p.size : Int) ≤ (s.size : Int)) = false := by simp; omega
    have h2 : decide (p.size ≤ s.size) = false := by simp; omega
    have HE := Lib.hid (startsB_short (s := s) (p := p) (by omega))
    go_enter Tryz.func37, Tryz.ntmps37
    go_wp2
    go_ret
    exact ⟨ret_bool HE.out.symm, rfl⟩

set_option maxRecDepth 100000 in
theorem specStarts_calls (s p : ByteArray) (w : World) :
    Calls Tryz.prog 20 #[.string s, .string p] w fun x w' => x = .returned (.bool (startsB s p)) ∧ w = w' := by
  by_cases h : p.size ≤ s.size
  · have h1 : decide ((p.size : Int) ≤ (s.size : Int)) = true := by simp; omega
    have h2 : decide (p.size ≤ s.size) = true := by simp; omega
    go_enter Tryz.func20, Tryz.ntmps20
    go_wp2
    go_ret
    exact ⟨ret_bool (startsB_eq), rfl⟩
  · have h1 : decide ((p.size : Int) ≤ (s.size : Int)) = false := by simp; omega
    have h2 : decide (p.size ≤ s.size) = false := by simp; omega
    have HE := Lib.hid (startsB_short (s := s) (p := p) (by omega))
    go_enter Tryz.func20, Tryz.ntmps20
    go_wp2
    go_ret
    exact ⟨ret_bool HE.out.symm, rfl⟩

set_option linter.unusedVariables false
set_option linter.unusedSimpArgs false

def lowC (c : UInt8) : UInt8 := if 65 ≤ c.toNat ∧ c.toNat ≤ 90 then c + 32 else c
def lowL (l : List UInt8) : List UInt8 := l.map lowC
def lowS (s : ByteArray) : ByteArray := ⟨(lowL s.data.toList).toArray⟩
theorem lowS_data (s : ByteArray) : (lowS s).data.toList = lowL s.data.toList := rfl
theorem lowS_size (s : ByteArray) : (lowS s).size = s.size := by
  show (lowL s.data.toList).toArray.size = s.size
  rw [List.size_toArray, lowL, List.length_map]; simp
theorem lowC_cap {c : UInt8} (h : 65 ≤ c.toNat ∧ c.toNat ≤ 90) : ((lowC c).toNat : Int) = (c.toNat : Int) + 32 := by
  rw [lowC, if_pos h, UInt8.toNat_add]
  have : (32 : UInt8).toNat = 32 := rfl
  omega
theorem lowC_other {c : UInt8} (h : ¬ (65 ≤ c.toNat ∧ c.toNat ≤ 90)) : lowC c = c := by rw [lowC, if_neg h]
/-- Block g of the world w holds the text's bytes, those below place k as small letters. -/
def LowAt (w : World) (g : Nat) (s : ByteArray) (k : Nat) : Prop := ∀ j (h : j < s.size), w.cell? ⟨g, j, none⟩ = some (byteV (if j < k then lowC s[j] else s[j])) ∧ w.frozen? ⟨g, j, none⟩ = false
theorem lowAt_start (w : World) (s : ByteArray) : LowAt (Lib.bytesWorld w 5 s) w.heap.size s 0 := fun j h => by
  refine ⟨by rw [bytesWorld_cell' w 5 s j h]; rfl, ?_⟩
  have hb := Lib.bytesWorld_at_new w 5 s
  have hsz : s.size ≤ (Lib.bytesCells w 5 s).size := by simp [Lib.bytesCells]
  simp only [World.frozen?, hb]
  simp
  omega
theorem LowAt.same {w : World} {g : Nat} {s : ByteArray} {k : Nat} (h : LowAt w g s k) (hk : k < s.size) (hc : lowC s[k] = s[k]) : LowAt w g s (k + 1) := fun j hj => by
  refine ⟨?_, (h j hj).2⟩
  rw [(h j hj).1]
  by_cases e : j = k
  · subst e; simp [hc]
  · have : j < k + 1 ↔ j < k := by omega
    simp [this]
theorem LowAt.set_ {w : World} {g : Nat} {s : ByteArray} {k : Nat} (h : LowAt w g s k) (hk : k < s.size) : LowAt (w.setCell ⟨g, k, none⟩ (byteV (lowC s[k]))) g s (k + 1) := fun j hj => by
  refine ⟨?_, by simpa [go_sem] using (h j hj).2⟩
  by_cases e : j = k
  · subst e
    rw [World.cell?_setCell_same (h := (h j hj).1)]
    simp
  · rw [World.cell?_setCell_other _ _ _ _ (by intro e1; injection e1 with _ e2; exact e e2.symm), (h j hj).1]
    have : j < k + 1 ↔ j < k := by omega
    simp [this]
theorem lowAt_string {w : World} {g cap : Nat} {s : ByteArray} (h : LowAt w g s s.size) : (convert 38 9 (.slice (some ⟨g, 0, none⟩) s.size cap)).run Tryz.prog w = .ok (.string (lowS s)) w := by
  have hadd : ∀ j, (⟨g, 0, none⟩ : Addr).add j = ⟨g, j, none⟩ := fun j => by unfold Addr.add; split <;> simp_all
  have hl : (lowL s.data.toList).length = s.size := by simp [lowL]
  have := run_convert_bytes_back w 38 9 5 ⟨g, 0, none⟩ cap (lowL s.data.toList) Tryz.underlying38 Tryz.underlying5 Tryz.underlying9 (fun j hj => by
    rw [hl] at hj
    rw [hadd, (h j hj).1]
    simp only [hj, if_true, byteV]
    congr 3
    simp [lowL]
    rfl)
  rw [hl] at this
  exact this

set_option maxHeartbeats 1000000 in
set_option maxRecDepth 100000 in
theorem specLower_calls (s : ByteArray) (w : World) (hs : s.size ≤ 2147483647) :
    Calls Tryz.prog 19 #[.string s] w fun e w' => e = .returned (.string (lowS s)) ∧ Below w.heap.size w w' := by
  have hcv := fun w => Lib.run_convert_string_bytes (P := Tryz.prog) w 9 38 5 s Tryz.underlying9 Tryz.underlying38 Tryz.underlying5
  have HB0 := Lib.hid (bytesWorld_below w 5 s)
  have HL0 := Lib.hid (lowAt_start w s)
  go_enter Tryz.func19, Tryz.ntmps19
  go_wp2
  clear hcv
  generalize Lib.bytesWorld w 5 s = w0 at HB0 HL0 ⊢
  go_loopw [10] (fun i wr => ∃ k : Nat, k ≤ s.size ∧ i = .int .i64 k ∧ Hid (LowAt wr w.heap.size s k) ∧ Hid (Below w.heap.size w wr)) (fun i _ => s.size - (intOf i).toNat)
  case atStart => exact ⟨0, Nat.zero_le _, rfl, HL0, HB0⟩
  case round =>
    obtain ⟨k, hk, rfl, hL, hB⟩ := hrel
    by_cases hlt : k < s.size
    · obtain ⟨hc, hf⟩ := hL.out k hlt
      simp only [Nat.lt_irrefl, if_false, byteV] at hc
      have h256 := toNat_lt_256 s[k]
      by_cases h1 : 65 ≤ s[k].toNat
      · have g1 : decide (65 ≤ (s[k].toNat : Int)) = true := by simp; omega
        by_cases h2 : s[k].toNat ≤ 90
        · have g2 : decide ((s[k].toNat : Int) ≤ 90) = true := by simp; omega
          have HE := Lib.hid (lowC_cap ⟨h1, h2⟩)
          go_wp2
          go_roundw
          case rel => exact ⟨k + 1, by omega, by go_num, by have h := hL.out.set_ hlt; rw [byteV, HE.out] at h; exact h, hB.out.setCell (Nat.le_refl _) _⟩
          case measure => simp [intOf]; omega
        · have g2 : decide ((s[k].toNat : Int) ≤ 90) = false := by simp; omega
          have HE := Lib.hid (lowC_other (c := s[k]) (by omega))
          go_wp2
          go_roundw
          case rel => exact ⟨k + 1, by omega, by go_num, hL.out.same hlt HE.out, hB⟩
          case measure => simp [intOf]; omega
      · have g1 : decide (65 ≤ (s[k].toNat : Int)) = false := by simp; omega
        have HE := Lib.hid (lowC_other (c := s[k]) (by omega))
        go_wp2
        go_roundw
        case rel => exact ⟨k + 1, by omega, by go_num, hL.out.same hlt HE.out, hB⟩
        case measure => simp [intOf]; omega
    · obtain rfl : k = s.size := by omega
      have hcv := fun cap => lowAt_string (cap := cap) hL.out
      go_wp2
      go_ret
      exact ⟨rfl, hB.out⟩

set_option maxHeartbeats 1000000 in
set_option maxRecDepth 100000 in
theorem zzLower_calls (s : ByteArray) (w : World) (hs : s.size ≤ 2147483647) :
    Calls Tryz.prog 32 #[.string s] w fun e w' => e = .returned (.string (lowS s)) ∧ Below w.heap.size w w' := by
  have hcv := fun w => Lib.run_convert_string_bytes (P := Tryz.prog) w 9 38 5 s Tryz.underlying9 Tryz.underlying38 Tryz.underlying5
  have HB0 := Lib.hid (bytesWorld_below w 5 s)
  have HL0 := Lib.hid (lowAt_start w s)
  go_enter Tryz.func32, Tryz.ntmps32
  go_wp2
  clear hcv
  generalize Lib.bytesWorld w 5 s = w0 at HB0 HL0 ⊢
  go_loopw [10] (fun i wr => ∃ k : Nat, k ≤ s.size ∧ i = .int .i64 k ∧ Hid (LowAt wr w.heap.size s k) ∧ Hid (Below w.heap.size w wr)) (fun i _ => s.size - (intOf i).toNat)
  case atStart => exact ⟨0, Nat.zero_le _, rfl, HL0, HB0⟩
  case round =>
    obtain ⟨k, hk, rfl, hL, hB⟩ := hrel
    by_cases hlt : k < s.size
    · obtain ⟨hc, hf⟩ := hL.out k hlt
      simp only [Nat.lt_irrefl, if_false, byteV] at hc
      have h256 := toNat_lt_256 s[k]
      by_cases h1 : 65 ≤ s[k].toNat
      · have g1 : decide (65 ≤ (s[k].toNat : Int)) = true := by simp; omega
        by_cases h2 : s[k].toNat ≤ 90
        · have g2 : decide ((s[k].toNat : Int) ≤ 90) = true := by simp; omega
          have HE := Lib.hid (lowC_cap ⟨h1, h2⟩)
          go_wp2
          go_roundw
          case rel => exact ⟨k + 1, by omega, by go_num, by have h := hL.out.set_ hlt; rw [byteV, HE.out] at h; rw [show (s[k].toNat : Int) + 32 = (s[k].toNat : Int) + 97 - 65 from by omega] at h; exact h, hB.out.setCell (Nat.le_refl _) _⟩
          case measure => simp [intOf]; omega
        · have g2 : decide ((s[k].toNat : Int) ≤ 90) = false := by simp; omega
          have HE := Lib.hid (lowC_other (c := s[k]) (by omega))
          go_wp2
          go_roundw
          case rel => exact ⟨k + 1, by omega, by go_num, hL.out.same hlt HE.out, hB⟩
          case measure => simp [intOf]; omega
      · have g1 : decide (65 ≤ (s[k].toNat : Int)) = false := by simp; omega
        have HE := Lib.hid (lowC_other (c := s[k]) (by omega))
        go_wp2
        go_roundw
        case rel => exact ⟨k + 1, by omega, by go_num, hL.out.same hlt HE.out, hB⟩
        case measure => simp [intOf]; omega
    · obtain rfl : k = s.size := by omega
      have hcv := fun cap => lowAt_string (cap := cap) hL.out
      go_wp2
      go_ret
      exact ⟨rfl, hB.out⟩

set_option linter.unusedVariables false
set_option linter.unusedSimpArgs false

def letterC (c : UInt8) : Bool := (decide (97 ≤ c.toNat) && decide (c.toNat ≤ 122)) || (decide (65 ≤ c.toNat) && decide (c.toNat ≤ 90))
def digitC (c : UInt8) : Bool := decide (48 ≤ c.toNat) && decide (c.toNat ≤ 57)
def b64C (c : UInt8) : Bool := (decide (97 ≤ c.toNat) && decide (c.toNat ≤ 122)) || digitC c || c == 43 || c == 47
theorem u8_beq (c d : UInt8) : ((c.toNat : Int) == (d.toNat : Int)) = (c == d) := by
  rw [Bool.eq_iff_iff]; simp [← UInt8.toNat_inj]; omega

set_option maxHeartbeats 1000000 in
set_option maxRecDepth 100000 in
theorem specLetter_calls (c : UInt8) (w : World) : Calls Tryz.prog 23 #[.int .u8 (c.toNat : Int)] w fun e w' => e = .returned (.bool (letterC c)) ∧ w = w' := by
  have h256 := c.toNat_lt
  go_each [97 ≤ c.toNat, c.toNat ≤ 122, 65 ≤ c.toNat, c.toNat ≤ 90] => (
    go_enter Tryz.func23, Tryz.ntmps23
    go_wp2
    go_ret
    exact ⟨ret_bool (by first | (rw [Bool.eq_iff_iff]; simp [letterC]; done) | (rw [Bool.eq_iff_iff]; simp [letterC]; omega)), rfl⟩)

set_option maxHeartbeats 1000000 in
set_option maxRecDepth 100000 in
theorem specFigure_calls (c : UInt8) (w : World) : Calls Tryz.prog 22 #[.int .u8 (c.toNat : Int)] w fun e w' => e = .returned (.bool (digitC c)) ∧ w = w' := by
  have h256 := c.toNat_lt
  go_each [48 ≤ c.toNat, c.toNat ≤ 57] => (
    go_enter Tryz.func22, Tryz.ntmps22
    go_wp2
    go_ret
    exact ⟨ret_bool (by first | (rw [Bool.eq_iff_iff]; simp [digitC]; done) | (rw [Bool.eq_iff_iff]; simp [digitC]; omega)), rfl⟩)

set_option maxHeartbeats 1000000 in
set_option maxRecDepth 100000 in
theorem zzDigit_calls (c : UInt8) (w : World) : Calls Tryz.prog 40 #[.int .u8 (c.toNat : Int)] w fun e w' => e = .returned (.bool (digitC c)) ∧ w = w' := by
  have h256 := c.toNat_lt
  go_each [48 ≤ c.toNat, c.toNat ≤ 57] => (
    go_enter Tryz.func40, Tryz.ntmps40
    go_wp2
    go_ret
    exact ⟨ret_bool (by first | (rw [Bool.eq_iff_iff]; simp [digitC]; done) | (rw [Bool.eq_iff_iff]; simp [digitC]; omega)), rfl⟩)

set_option maxHeartbeats 400000 in
set_option maxRecDepth 100000 in
theorem zzAll_calls (m : FuncId) (p : UInt8 → Bool) (hcf : Enters m)
    (hm : Hid (∀ (c : UInt8) (w : World), Calls Tryz.prog m #[.int .u8 (c.toNat : Int)] w fun e w' => e = .returned (.bool (p c)) ∧ Below w.heap.size w w'))
    (s : ByteArray) (w : World) (hs : s.size ≤ 2147483647) :
    Calls Tryz.prog 38 #[.string s, .func (.func m) #[] #[]] w fun e w' => e = .returned (.bool (s.data.toList.all p)) ∧ Below w.heap.size w w' := by
  unfold Enters at hcf
  go_enter Tryz.func38, Tryz.ntmps38
  go_wp2
  go_loopw [5] (fun i wr => ∃ k : Nat, k ≤ s.size ∧ i = .int .i64 k ∧ Hid ((s.data.toList.take k).all p = true) ∧ Hid (Below w.heap.size w wr)) (fun i _ => s.size - (intOf i).toNat)
  case atStart => exact ⟨0, Nat.zero_le _, rfl, by simp [Hid], Below.refl _ _⟩
  case round =>
    obtain ⟨k, hk, rfl, ha, hB⟩ := hrel
    by_cases hlt : k < s.size
    · have H := Lib.hid (all_take_succ (p := p) s k hlt)
      cases hp : p s[k]
      · have HP := Lib.hid hp
        clear hp
        go_wp2_with fail
        refine (hm.out s[k] _).mono ?_
        rintro e w' ⟨rfl, hb⟩
        have hp := HP.out
        go_wp2
        go_ret
        exact ⟨ret_bool (by rw [all_false_of s k hlt hp]), below_then hB.out hB.out.size hb⟩
      · have HP := Lib.hid hp
        clear hp
        go_wp2_with fail
        refine (hm.out s[k] _).mono ?_
        rintro e w' ⟨rfl, hb⟩
        have hp := HP.out
        go_wp2
        go_roundw
        case rel => exact ⟨k + 1, by omega, by go_num, by rw [Hid, H.out, ha.out, HP.out]; rfl, below_then hB.out hB.out.size hb⟩
        case measure => simp [intOf]; omega
    · go_wp2
      go_ret
      exact ⟨ret_bool (by rw [all_of_take s k (by omega) ha.out]), hB.out⟩

theorem of_same {K : FuncId} {args : Array Value} {v : Value} {w : World} (h : Calls Tryz.prog K args w fun e w' => e = .returned v ∧ w = w') : Calls Tryz.prog K args w fun e w' => e = .returned v ∧ Below w.heap.size w w' :=
  h.mono fun _ _ ⟨he, hw⟩ => ⟨he, by rw [← hw]; exact Below.refl _ _⟩

set_option linter.unusedVariables false

section
variable {w : World} {ops : Array Oper} {o : Oper} {a : Act} {K : Act → World → Prop} {Q : Exit → Act → World → Prop} {E : Prop}
theorem step_buf_bytes (hgd : o.guard = none) (sl x : Operand) (ho : o.op = .call { callee := .builtin .append, args := #[sl, x], argTypes := #[38, 38] })
    (B : Nat) (v : Value) (l : List UInt8) (hs : a.eval sl = v) (hbuf : Buf w B v l) (g n c : Nat) (hx : a.eval x = .slice (some ⟨g, 0, none⟩) n c) (m : List UInt8) (hn : m.length = n)
    (hm : ∀ j (hj : j < m.length), w.cell? ⟨g, j, none⟩ = some (byteV m[j])) (hl : l.length + n ≤ 140737488355328) (hB : B ≤ w.heap.size)
    (h : ∀ v' w', Buf w' B v' (l ++ m) → w.grownBy w' v.ownBlock → Below B w w' → K (a.put o.dst v') w') :
    if Region.wanted o (yielded ops a.tmps) = true then Oper.wp Tryz.prog o a w K Q else E := by
  have hw : Region.wanted o (yielded ops a.tmps) = true := by simp [Region.wanted, hgd]
  rw [if_pos hw]
  obtain ⟨i0, hi, hz0, hz1, hz2⟩ := info_parts info5
  have hadd : ∀ j, (⟨g, 0, none⟩ : Addr).add j = ⟨g, j, none⟩ := fun j => by unfold Addr.add; split <;> simp_all
  refine wp_append_own w sl x 38 ho B 5 i0 (.int .u8 0) 1 1 Tryz.underlying38 hi hz0 hz1 hz2 rfl (by omega) v l.length _ hs hbuf ⟨g, 0, none⟩ n c (m.map byteV) hx (by simp [hn]) ?_ ?_ (by unfold maxLen; omega) (by omega) hB ?_
  · intro j u hu
    rw [hadd]
    rw [List.getElem?_map] at hu
    by_cases hj : j < m.length
    · rw [List.getElem?_eq_getElem hj] at hu
      rw [hm j hj]
      exact hu
    · rw [List.getElem?_eq_none (by omega)] at hu
      simp at hu
  · intro u hu
    rw [List.mem_map] at hu
    obtain ⟨c, _, rfl⟩ := hu
    rfl
  · intro v' w' hown hg _
    refine h v' w' ?_ hg (buf_below hbuf hB hg)
    have e1 : l.length + n = (l ++ m).length := by simp [hn]
    rw [e1, ← List.map_append] at hown
    exact hown
end

theorem eq_u8 (c d : UInt8) (h : c = d) : ((c.toNat : Int) == (d.toNat : Int)) = true := by subst h; simp
theorem ne_u8 (c d : UInt8) (h : ¬ c = d) : ((c.toNat : Int) == (d.toNat : Int)) = false := by
  rw [beq_eq_false_iff_ne]; intro e; exact h (UInt8.toNat_inj.1 (by omega))

end Go.Proofs.YtlpkdagdfopchaaGreatDoor
