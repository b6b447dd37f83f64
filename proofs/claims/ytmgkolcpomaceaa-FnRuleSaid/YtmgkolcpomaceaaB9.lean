/- Slices of texts (or of structs of one text) of the call's own. -/
import Derived.Test.YtmgkolcpomaceaaB1
namespace Go.Proofs.Ytmgkolcpomaceaa
open Go.RowKit
set_option linter.unusedVariables false
set_option linter.unusedSimpArgs false

def SBuf (w : World) (B : Nat) (E : TypeId) (v : Value) (l : List ByteArray) : Prop := w.ownsRow B E 1 v l.length (l.map Value.string)
theorem SBuf.nil (w : World) (B : Nat) (E : TypeId) : SBuf w B E (.slice none 0 0) [] := ⟨rfl, .inl ⟨rfl, rfl⟩⟩
theorem SBuf.moved {w w1 : World} {B : Nat} {E : TypeId} {v : Value} {l : List ByteArray} (h : SBuf w B E v l) (hm : ∀ k, v.ownBlock = some k → w1.heap[k]? = w.heap[k]?) : SBuf w1 B E v l := by
  obtain ⟨h1, h2⟩ := h
  refine ⟨h1, ?_⟩
  rcases h2 with h2 | ⟨g, cap, cur, rfl, hg, hh, r⟩
  · exact .inl h2
  · exact .inr ⟨g, cap, cur, rfl, hg, (hm g (by simp [Value.ownBlock])).trans hh, r⟩
theorem SBuf.lt {w : World} {B : Nat} {E : TypeId} {v : Value} {l : List ByteArray} (h : SBuf w B E v l) {k : Nat} (hk : v.ownBlock = some k) : k < w.heap.size ∧ B ≤ k := by
  rcases h.2 with ⟨rfl, _⟩ | ⟨g, cap, cur, rfl, hg, hh, r⟩
  · simp [Value.ownBlock] at hk
  · have : g = k := by simpa [Value.ownBlock] using hk
    subst this
    exact ⟨(Array.getElem?_eq_some_iff.1 hh).1, hg⟩
theorem SBuf.below {w w1 : World} {B : Nat} {E : TypeId} {v : Value} {l : List ByteArray} (h : SBuf w B E v l) (hb : Below w.heap.size w w1) : SBuf w1 B E v l :=
  h.moved fun k hk => hb.block k (h.lt hk).1
theorem SBuf.alloc {w : World} {B : Nat} {E : TypeId} {v : Value} {l : List ByteArray} (h : SBuf w B E v l) (o : Obj) : SBuf (w.alloc o) B E v l :=
  h.moved fun k hk => Below.heap_alloc w o k (h.lt hk).1
theorem SBuf.form {w : World} {B : Nat} {E : TypeId} {v : Value} {l : List ByteArray} (h : SBuf w B E v l) : ∃ A cap, v = .slice A l.length cap ∧ StrsAt w A l := by
  rcases h.2 with ⟨rfl, hn⟩ | ⟨g, cap, cur, rfl, hg, hh, hc, _, hsz, ht⟩
  · obtain rfl := List.eq_nil_of_length_eq_zero hn
    exact ⟨none, 0, rfl, fun k hk => by simp at hk⟩
  · refine ⟨some ⟨g, 0, none⟩, cap, rfl, fun k hk => ⟨_, rfl, (Array.getElem?_eq_some_iff.1 hh).1, ?_⟩⟩
    have hadd : (⟨g, 0, none⟩ : Addr).add k = ⟨g, k, none⟩ := by unfold Addr.add; split <;> simp_all
    rw [hadd, cell_of_row w g k cur E (0, 0) hh]
    have h2 : (cur.toList.take (l.length * 1))[k]? = (l.map Value.string)[k]? := by rw [ht]
    rw [List.getElem?_take_of_lt (by omega), List.getElem?_map, List.getElem?_eq_getElem hk] at h2
    simpa using h2

section
variable {w : World} {ops : Array Oper} {rest : List Oper} {o : Oper} {a : Act} {Q : Exit → Act → World → Prop}
theorem sbuf_append (T E : TypeId) (z : Value) (hT : Try.prog.underlying T = some (.slice E)) (hI : (Try.prog.info? E).map (fun i => (i.zero, i.size, i.bytes)) = some (some z, 1, 16)) (hz : z.cells.size = 1)
    (hgd : o.guard = none) (sl x : Operand) (ho : o.op = .call { callee := .builtin .append, args := #[sl, x], argTypes := #[T, T] })
    (B : Nat) (v : Value) (l : List ByteArray) (hs : a.eval sl = v) (hbuf : SBuf w B E v l) (g c : Nat) (hx : a.eval x = .slice (some ⟨g, 0, none⟩) 1 c) (r : ByteArray)
    (hm : w.cell? ⟨g, 0, none⟩ = some (.string r)) (hl : l.length ≤ 2147483647) (hB : B ≤ w.heap.size)
    (h : ∀ v' w', SBuf w' B E v' (l ++ [r]) → w.grownBy w' v.ownBlock → Below B w w' → wpList Try.prog ops Q rest (a.put o.dst v') w') : wpList Try.prog ops Q (o :: rest) a w := by
  obtain ⟨i0, hi, hz0, hz1, hz2⟩ := info_parts hI
  have hadd : ∀ j, (⟨g, 0, none⟩ : Addr).add j = ⟨g, j, none⟩ := fun j => by unfold Addr.add; split <;> simp_all
  refine wpList_append_own w hgd sl x T ho B E i0 z 1 16 hT hi hz0 hz1 hz2 hz (by omega) v l.length _ hs hbuf ⟨g, 0, none⟩ 1 c [.string r] hx rfl ?_ ?_ (by unfold maxLen; omega) (by omega) hB ?_
  · intro j u hu
    rw [hadd]
    cases j with
    | zero => simp at hu; subst hu; exact hm
    | succ j => simp at hu
  · intro u hu
    simp at hu
    subst hu
    rfl
  · intro v' w' hown hg _
    refine h v' w' ?_ hg ((Below.refl _ _).grown hg hB fun k hk => (hbuf.lt hk).2)
    have e1 : l.length + 1 = (l ++ [r]).length := by simp
    rw [e1, show [Value.string r] = [r].map Value.string from rfl, ← List.map_append] at hown
    exact hown
end
theorem info57 : (Try.prog.info? 57).map (fun i => (i.zero, i.size, i.bytes)) = some (some (.agg #[.string ⟨#[]⟩]), 1, 16) := by kernel_rfl
theorem info9 : (Try.prog.info? 9).map (fun i => (i.zero, i.size, i.bytes)) = some (some (.string ⟨#[]⟩), 1, 16) := by kernel_rfl
end Go.Proofs.Ytmgkolcpomaceaa
