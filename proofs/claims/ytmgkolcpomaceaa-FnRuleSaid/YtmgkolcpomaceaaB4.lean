/- Buffers: a []byte of the call's own that is appended to, and handed back as a string. -/
import Derived.Test.YtmgkolcpomaceaaB1
namespace Go.Proofs.Ytmgkolcpomaceaa
open Go.RowKit

def byteV (c : UInt8) : Value := .int .u8 (c.toNat : Int)
/-- The slice value v (element type uint8) is one of the call's own, made from block B on, and holds the bytes l. -/
def Buf (w : World) (B : Nat) (v : Value) (l : List UInt8) : Prop := w.ownsRow B 5 1 v l.length (l.map byteV)

theorem info5 : (Try.prog.info? 5).map (fun i => (i.zero, i.size, i.bytes)) = some (some (.int .u8 0), 1, 1) := by kernel_rfl

theorem Buf.nil (w : World) (B : Nat) : Buf w B (.slice none 0 0) [] := ⟨rfl, .inl ⟨rfl, rfl⟩⟩
theorem Buf.moved {w w1 : World} {B : Nat} {v : Value} {l : List UInt8} (h : Buf w B v l) (hm : ∀ k, v.ownBlock = some k → w1.heap[k]? = w.heap[k]?) : Buf w1 B v l := by
  obtain ⟨h1, h2⟩ := h
  refine ⟨h1, ?_⟩
  rcases h2 with h2 | ⟨g, cap, cur, rfl, hg, hh, r⟩
  · exact .inl h2
  · exact .inr ⟨g, cap, cur, rfl, hg, (hm g (by simp [Value.ownBlock])).trans hh, r⟩
theorem Buf.lt {w : World} {B : Nat} {v : Value} {l : List UInt8} (h : Buf w B v l) {k : Nat} (hk : v.ownBlock = some k) : k < w.heap.size ∧ B ≤ k := by
  rcases h.2 with ⟨rfl, _⟩ | ⟨g, cap, cur, rfl, hg, hh, r⟩
  · simp [Value.ownBlock] at hk
  · have : g = k := by simpa [Value.ownBlock] using hk
    subst this
    refine ⟨?_, hg⟩
    exact (Array.getElem?_eq_some_iff.1 hh).1
theorem Buf.below {w w1 : World} {B : Nat} {v : Value} {l : List UInt8} (h : Buf w B v l) (hb : Below w.heap.size w w1) : Buf w1 B v l :=
  h.moved fun k hk => hb.block k (h.lt hk).1
theorem Buf.alloc {w : World} {B : Nat} {v : Value} {l : List UInt8} (h : Buf w B v l) (o : Obj) : Buf (w.alloc o) B v l :=
  h.moved fun k hk => Below.heap_alloc w o k (h.lt hk).1
theorem Buf.lower {w : World} {B B' : Nat} {v : Value} {l : List UInt8} (h : Buf w B v l) (hB : B' ≤ B) : Buf w B' v l := by
  obtain ⟨h1, h2⟩ := h
  refine ⟨h1, ?_⟩
  rcases h2 with h2 | ⟨g, cap, cur, rfl, hg, r⟩
  · exact .inl h2
  · exact .inr ⟨g, cap, cur, rfl, by omega, r⟩
/-- Behind an append: below B nothing has turned; and what is neither the buffer's row nor new is as it was. -/
theorem buf_below {w w1 : World} {B : Nat} {v : Value} {l : List UInt8} (h : Buf w B v l) (hB : B ≤ w.heap.size) (hg : w.grownBy w1 v.ownBlock) : Below B w w1 :=
  (Below.refl _ _).grown hg hB fun _ hk => (h.lt hk).2

section
variable {w : World} {ops : Array Oper} {rest : List Oper} {o : Oper} {a : Act} {Q : Exit → Act → World → Prop}
theorem buf_append_str (hgd : o.guard = none) (sl x : Operand) (ho : o.op = .call { callee := .builtin .append, args := #[sl, x], argTypes := #[47, 9] })
    (B : Nat) (v : Value) (l : List UInt8) (hs : a.eval sl = v) (hbuf : Buf w B v l) (s : ByteArray) (hx : a.eval x = .string s) (hl : l.length + s.size ≤ 140737488355328) (hB : B ≤ w.heap.size)
    (h : ∀ v' w', Buf w' B v' (l ++ s.data.toList) → w.grownBy w' v.ownBlock → Below B w w' → wpList Try.prog ops Q rest (a.put o.dst v') w') : wpList Try.prog ops Q (o :: rest) a w := by
  obtain ⟨i0, hi, hz0, hz1, hz2⟩ := info_parts info5
  refine Lib.wpList_append_own_string w hgd sl x 47 9 ho B 5 i0 Try.underlying47 Try.underlying9 hi hz0 hz1 hz2 v l.length _ hs hbuf s hx (by unfold maxLen; omega) hl hB ?_
  intro v' w' hown hg _
  refine h v' w' ?_ hg (buf_below hbuf hB hg)
  have e1 : l.length + s.size = (l ++ s.data.toList).length := by simp
  have e2 : l.map byteV ++ Lib.strCells s = (l ++ s.data.toList).map byteV := by rw [List.map_append]; rfl
  rw [e1, e2] at hown
  exact hown
theorem buf_append_byte (hgd : o.guard = none) (sl x : Operand) (ho : o.op = .call { callee := .builtin .append, args := #[sl, x], argTypes := #[47, 47] })
    (B : Nat) (v : Value) (l : List UInt8) (hs : a.eval sl = v) (hbuf : Buf w B v l) (g n c : Nat) (hx : a.eval x = .slice (some ⟨g, 0, none⟩) n c) (m : List UInt8) (hn : m.length = n)
    (hm : ∀ j (hj : j < m.length), w.cell? ⟨g, j, none⟩ = some (byteV m[j])) (hl : l.length + n ≤ 140737488355328) (hB : B ≤ w.heap.size)
    (h : ∀ v' w', Buf w' B v' (l ++ m) → w.grownBy w' v.ownBlock → Below B w w' → wpList Try.prog ops Q rest (a.put o.dst v') w') : wpList Try.prog ops Q (o :: rest) a w := by
  obtain ⟨i0, hi, hz0, hz1, hz2⟩ := info_parts info5
  have hadd : ∀ j, (⟨g, 0, none⟩ : Addr).add j = ⟨g, j, none⟩ := fun j => by unfold Addr.add; split <;> simp_all
  refine wpList_append_own w hgd sl x 47 ho B 5 i0 (.int .u8 0) 1 1 Try.underlying47 hi hz0 hz1 hz2 rfl (by omega) v l.length _ hs hbuf ⟨g, 0, none⟩ n c (m.map byteV) hx (by simp [hn]) ?_ ?_ (by unfold maxLen; omega) (by omega) hB ?_
  · intro j u hu
    rw [hadd]
    rw [List.getElem?_map] at hu
    by_cases hj : j < m.length
    · rw [List.getElem?_eq_getElem hj] at hu
      rw [hm j hj]
      exact hu
    · rw [List.getElem?_eq_none (by omega)] at hu
      simp at hu
  · intro u hu
    rw [List.mem_map] at hu
    obtain ⟨c, _, rfl⟩ := hu
    rfl
  · intro v' w' hown hg _
    refine h v' w' ?_ hg (buf_below hbuf hB hg)
    have e1 : l.length + n = (l ++ m).length := by simp [hn]
    rw [e1, ← List.map_append] at hown
    exact hown
end

theorem Buf.cells {w : World} {B : Nat} {v : Value} {l : List UInt8} (h : Buf w B v l) : (v = .slice none 0 0 ∧ l = []) ∨ ∃ g cap, v = .slice (some ⟨g, 0, none⟩) l.length cap ∧ B ≤ g ∧ g < w.heap.size ∧ ∀ j (hj : j < l.length), w.cell? ⟨g, j, none⟩ = some (byteV l[j]) := by
  rcases h.2 with ⟨rfl, hn⟩ | ⟨g, cap, cur, rfl, hg, hh, hc, _, hsz, ht⟩
  · exact .inl ⟨rfl, List.eq_nil_of_length_eq_zero hn⟩
  · refine .inr ⟨g, cap, rfl, hg, (Array.getElem?_eq_some_iff.1 hh).1, fun j hj => ?_⟩
    have e : w.cell? ⟨g, j, none⟩ = cur[j]? := cell_of_row w g j cur 5 (0, 0) hh
    rw [e]
    have h2 : (cur.toList.take (l.length * 1))[j]? = (l.map byteV)[j]? := by rw [ht]
    rw [List.getElem?_take_of_lt (by omega), List.getElem?_map, List.getElem?_eq_getElem hj] at h2
    simpa using h2
theorem buf_string {w : World} {B : Nat} {v : Value} {l : List UInt8} (h : Buf w B v l) : (convert 47 9 v).run Try.prog w = .ok (.string ⟨l.toArray⟩) w := by
  rcases h.cells with ⟨rfl, rfl⟩ | ⟨g, cap, rfl, _, _, hc⟩
  · exact run_convert_bytes_nil w 47 5 Try.underlying47 Try.underlying5 0 0 9 Try.underlying9
  · have hadd : ∀ j, (⟨g, 0, none⟩ : Addr).add j = ⟨g, j, none⟩ := fun j => by unfold Addr.add; split <;> simp_all
    exact run_convert_bytes_back w 47 9 5 ⟨g, 0, none⟩ cap l Try.underlying47 Try.underlying5 Try.underlying9 (fun j hj => by rw [hadd]; exact hc j hj)
end Go.Proofs.Ytmgkolcpomaceaa
