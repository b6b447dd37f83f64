/- Runes: what a range over a string hands out; a []rune of the call's own. -/
import Derived.Test.YtmgkolcpomaceaaB4
import Derived.Lib.OthersKept
import Derived.Laws.Cover4
namespace Go.Proofs.Ytmgkolcpomaceaa
open Go.RowKit

theorem decode_step (s : ByteArray) (i : Nat) : 1 ≤ (Utf8.decode s i).2 := by
  unfold Utf8.decode
  simp only
  repeat' split
  all_goals simp
/-- The runes from a place on. -/
def runesAt (s : ByteArray) (i : Nat) : List Int := if _h : i < s.size then ((Utf8.decode s i).1 : Int) :: runesAt s (i + (Utf8.decode s i).2) else []
termination_by s.size - i
decreasing_by have := decode_step s i; omega
theorem runesAt_cons (s : ByteArray) (i : Nat) (h : i < s.size) : runesAt s i = ((Utf8.decode s i).1 : Int) :: runesAt s (i + (Utf8.decode s i).2) := by
  rw [runesAt]; simp [h]
theorem runesAt_end (s : ByteArray) (i : Nat) (h : ¬ i < s.size) : runesAt s i = [] := by
  rw [runesAt]; simp [h]
theorem runesAt_len (s : ByteArray) (n : Nat) : ∀ i, s.size - i = n → (runesAt s i).length ≤ s.size - i := by
  induction n using Nat.strongRecOn with
  | _ n ih =>
    intro i hi
    by_cases h : i < s.size
    · rw [runesAt_cons s i h]
      have hd := decode_step s i
      have := ih (s.size - (i + (Utf8.decode s i).2)) (by omega) _ rfl
      simp only [List.length_cons]
      omega
    · rw [runesAt_end s i h]; simp
theorem decode_nonneg (s : ByteArray) (i : Nat) : 0 ≤ ((Utf8.decode s i).1 : Int) := by omega

def runeV (r : Int) : Value := .int .i32 r
def RBuf (w : World) (B : Nat) (v : Value) (l : List Int) : Prop := w.ownsRow B 21 1 v l.length (l.map runeV)
theorem info21 : (Try.prog.info? 21).map (fun i => (i.zero, i.size, i.bytes)) = some (some (.int .i32 0), 1, 4) := by kernel_rfl
theorem RBuf.moved {w w1 : World} {B : Nat} {v : Value} {l : List Int} (h : RBuf w B v l) (hm : ∀ k, v.ownBlock = some k → w1.heap[k]? = w.heap[k]?) : RBuf w1 B v l := by
  obtain ⟨h1, h2⟩ := h
  refine ⟨h1, ?_⟩
  rcases h2 with h2 | ⟨g, cap, cur, rfl, hg, hh, r⟩
  · exact .inl h2
  · exact .inr ⟨g, cap, cur, rfl, hg, (hm g (by simp [Value.ownBlock])).trans hh, r⟩
theorem RBuf.at_ {w : World} {B : Nat} {v : Value} {l : List Int} (h : RBuf w B v l) {k : Nat} (hk : v.ownBlock = some k) : k < w.heap.size ∧ B ≤ k ∧ ∃ c, w.heap[k]? = some (.cells c 21 (0, 0)) := by
  rcases h.2 with ⟨rfl, _⟩ | ⟨g, cap, cur, rfl, hg, hh, r⟩
  · simp [Value.ownBlock] at hk
  · have : g = k := by simpa [Value.ownBlock] using hk
    subst this
    exact ⟨(Array.getElem?_eq_some_iff.1 hh).1, hg, _, hh⟩
theorem RBuf.below {w w1 : World} {B : Nat} {v : Value} {l : List Int} (h : RBuf w B v l) (hb : Below w.heap.size w w1) : RBuf w1 B v l :=
  h.moved fun k hk => hb.block k (h.at_ hk).1
theorem RBuf.alloc {w : World} {B : Nat} {v : Value} {l : List Int} (h : RBuf w B v l) (o : Obj) : RBuf (w.alloc o) B v l :=
  h.moved fun k hk => Below.heap_alloc w o k (h.at_ hk).1
theorem RBuf.iterAt {w : World} {B : Nat} {v : Value} {l : List Int} (h : RBuf w B v l) {k : Nat} {s : ByteArray} {pos : Nat} (hk : w.heap[k]? = some (.stringIter s pos)) (pos' : Nat) : RBuf (w.iterAt k s pos') B v l :=
  h.moved fun j hj => by
    obtain ⟨_, _, c, hc⟩ := h.at_ hj
    exact Lib.iterAt_other w k j s pos' (by rintro rfl; rw [hk] at hc; cases hc)
theorem Buf.iterAt {w : World} {B : Nat} {v : Value} {l : List UInt8} (h : Buf w B v l) {k : Nat} {s : ByteArray} {pos : Nat} (hk : w.heap[k]? = some (.stringIter s pos)) (pos' : Nat) : Buf (w.iterAt k s pos') B v l :=
  h.moved fun j hj => by
    refine Lib.iterAt_other w k j s pos' ?_
    rintro rfl
    rcases h.2 with ⟨rfl, _⟩ | ⟨g, cap, cur, rfl, hg, hh, r⟩
    · simp [Value.ownBlock] at hj
    · have : g = j := by simpa [Value.ownBlock] using hj
      subst this
      rw [hk] at hh; cases hh
/-- The iterator is not the buffer's row: behind an append it stands as it stood. -/
theorem iter_keep {w w1 : World} {B : Nat} {v : Value} {l : List UInt8} (h : Buf w B v l) {k : Nat} {s : ByteArray} {pos : Nat} (hk : w.heap[k]? = some (.stringIter s pos)) (hg : w.grownBy w1 v.ownBlock) : w1.heap[k]? = some (.stringIter s pos) := by
  rw [hg.block k (Array.getElem?_eq_some_iff.1 hk).1 ?_, hk]
  intro he
  rcases h.2 with ⟨rfl, _⟩ | ⟨g, cap, cur, rfl, _, hh, r⟩
  · simp [Value.ownBlock] at he
  · have : k = g := by simpa [Value.ownBlock] using he
    subst this
    rw [hk] at hh; cases hh
theorem riter_keep {w w1 : World} {B : Nat} {v : Value} {l : List Int} (h : RBuf w B v l) {k : Nat} {s : ByteArray} {pos : Nat} (hk : w.heap[k]? = some (.stringIter s pos)) (hg : w.grownBy w1 v.ownBlock) : w1.heap[k]? = some (.stringIter s pos) := by
  rw [hg.block k (Array.getElem?_eq_some_iff.1 hk).1 ?_, hk]
  intro he
  obtain ⟨_, _, c, hc⟩ := h.at_ he.symm
  rw [hk] at hc; cases hc
theorem iter_alloc {w : World} {k : Nat} {s : ByteArray} {pos : Nat} (hk : w.heap[k]? = some (.stringIter s pos)) (o : Obj) : (w.alloc o).heap[k]? = some (.stringIter s pos) := by
  rw [Below.heap_alloc w o k (Array.getElem?_eq_some_iff.1 hk).1, hk]

section
variable {w : World} {ops : Array Oper} {rest : List Oper} {o : Oper} {a : Act} {Q : Exit → Act → World → Prop}
theorem rbuf_append (hgd : o.guard = none) (sl x : Operand) (ho : o.op = .call { callee := .builtin .append, args := #[sl, x], argTypes := #[118, 118] })
    (B : Nat) (v : Value) (l : List Int) (hs : a.eval sl = v) (hbuf : RBuf w B v l) (g c : Nat) (hx : a.eval x = .slice (some ⟨g, 0, none⟩) 1 c) (r : Int)
    (hm : w.cell? ⟨g, 0, none⟩ = some (runeV r)) (hl : l.length ≤ 2147483647) (hB : B ≤ w.heap.size)
    (h : ∀ v' w', RBuf w' B v' (l ++ [r]) → w.grownBy w' v.ownBlock → Below B w w' → wpList Try.prog ops Q rest (a.put o.dst v') w') : wpList Try.prog ops Q (o :: rest) a w := by
  obtain ⟨i0, hi, hz0, hz1, hz2⟩ := info_parts info21
  have hadd : ∀ j, (⟨g, 0, none⟩ : Addr).add j = ⟨g, j, none⟩ := fun j => by unfold Addr.add; split <;> simp_all
  refine wpList_append_own w hgd sl x 118 ho B 21 i0 (.int .i32 0) 1 4 Try.underlying118 hi hz0 hz1 hz2 rfl (by omega) v l.length _ hs hbuf ⟨g, 0, none⟩ 1 c [runeV r] hx rfl ?_ ?_ (by unfold maxLen; omega) (by omega) hB ?_
  · intro j u hu
    rw [hadd]
    cases j with
    | zero => simp at hu; subst hu; exact hm
    | succ j => simp at hu
  · intro u hu
    simp at hu
    subst hu
    rfl
  · intro v' w' hown hg _
    refine h v' w' ?_ hg ((Below.refl _ _).grown hg hB fun k hk => (hbuf.at_ hk).2.1)
    have e1 : l.length + 1 = (l ++ [r]).length := by simp
    rw [e1, show [runeV r] = [r].map runeV from rfl, ← List.map_append] at hown
    exact hown
end
theorem rbuf_string {w : World} {B : Nat} {v : Value} {l : List Int} (h : RBuf w B v l) : (convert 118 9 v).run Try.prog w = .ok (.string (runesBytes l)) w := by
  rcases h.2 with ⟨rfl, hn⟩ | ⟨g, cap, cur, rfl, hg, hh, hc, _, hsz, ht⟩
  · obtain rfl := List.eq_nil_of_length_eq_zero hn
    exact run_convert_runes_nil w 118 9 21 0 0 Try.underlying118 Try.underlying21 Try.underlying9
  · have hadd : ∀ j, (⟨g, 0, none⟩ : Addr).add j = ⟨g, j, none⟩ := fun j => by unfold Addr.add; split <;> simp_all
    have := run_convert_runes w 118 9 21 ⟨g, 0, none⟩ l.length cap l (Nat.le_refl _) Try.underlying118 Try.underlying21 Try.underlying9 (fun j hj => by
      rw [hadd, cell_of_row w g j cur 21 (0, 0) hh]
      have h2 : (cur.toList.take (l.length * 1))[j]? = (l.map runeV)[j]? := by rw [ht]
      rw [List.getElem?_take_of_lt (by omega), List.getElem?_map, List.getElem?_eq_getElem hj] at h2
      rw [List.getD_eq_getElem?_getD, List.getElem?_eq_getElem hj]
      simpa [runeV] using h2)
    rw [List.take_length] at this
    exact this
/-- One step of a range over a string. -/
theorem next_step (w : World) (k : Nat) (s : ByteArray) (pos : Nat) (hk : w.heap[k]? = some (.stringIter s pos)) (h : pos < s.size) :
    ∃ (wi : World) (r : Int) (pos' : Nat), (∀ ty, (Instr.next (.pointer (some ⟨k, 0, none⟩)) true ty).run Try.prog w = .ok (.tuple #[.bool true, .int .i64 pos, .int .i32 r]) wi) ∧ 0 ≤ r ∧ pos < pos' ∧ runesAt s pos = r :: runesAt s pos' ∧
      wi.heap[k]? = some (.stringIter s pos') ∧ wi.heap.size = w.heap.size ∧ (∀ B, B ≤ k → Below B w wi) ∧ (∀ B v l, Buf w B v l → Buf wi B v l) := by
  have hd := decode_step s pos
  exact ⟨w.iterAt k s (pos + (Utf8.decode s pos).2), (Utf8.decode s pos).1, pos + (Utf8.decode s pos).2, fun ty => Lib.run_next_any_at w k s pos ty hk h, by omega, by omega, runesAt_cons s pos h,
    Lib.iterAt_heap w k s pos _ hk, Lib.iterAt_size w k s _, fun B hB => Lib.below_iterAt (Below.refl _ _) hB s _, fun B v l hb => hb.iterAt hk _⟩
theorem buf_made (w : World) (B : Nat) (hB : B ≤ w.heap.size) : Buf (w.alloc (.cells #[] 5)) B (.slice (some ⟨w.heap.size, 0, none⟩) 0 0) [] :=
  ⟨rfl, .inr ⟨w.heap.size, 0, #[], rfl, hB, heap_alloc_new w _, Nat.le_refl _, Nat.zero_le _, rfl, rfl⟩⟩
end Go.Proofs.Ytmgkolcpomaceaa
