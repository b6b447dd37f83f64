/- An append of bytes to a buffer, as one step of a region that draws its order. -/
import Derived.Test.YtmgkolcpomaceaaB4
import Derived.Deep.RegionLaw
namespace Go.Proofs.Ytmgkolcpomaceaa
open Go.RowKit
set_option linter.unusedVariables false

section
variable {w : World} {ops : Array Oper} {o : Oper} {a : Act} {K : Act → World → Prop} {Q : Exit → Act → World → Prop} {E : Prop}
theorem step_buf_bytes (hgd : o.guard = none) (sl x : Operand) (ho : o.op = .call { callee := .builtin .append, args := #[sl, x], argTypes := #[47, 47] })
    (B : Nat) (v : Value) (l : List UInt8) (hs : a.eval sl = v) (hbuf : Buf w B v l) (g n c : Nat) (hx : a.eval x = .slice (some ⟨g, 0, none⟩) n c) (m : List UInt8) (hn : m.length = n)
    (hm : ∀ j (hj : j < m.length), w.cell? ⟨g, j, none⟩ = some (byteV m[j])) (hl : l.length + n ≤ 140737488355328) (hB : B ≤ w.heap.size)
    (h : ∀ v' w', Buf w' B v' (l ++ m) → w.grownBy w' v.ownBlock → Below B w w' → K (a.put o.dst v') w') :
    if Region.wanted o (yielded ops a.tmps) = true then Oper.wp Try.prog o a w K Q else E := by
  have hw : Region.wanted o (yielded ops a.tmps) = true := by simp [Region.wanted, hgd]
  rw [if_pos hw]
  obtain ⟨i0, hi, hz0, hz1, hz2⟩ := info_parts info5
  have hadd : ∀ j, (⟨g, 0, none⟩ : Addr).add j = ⟨g, j, none⟩ := fun j => by unfold Addr.add; split <;> simp_all
  refine wp_append_own w sl x 47 ho B 5 i0 (.int .u8 0) 1 1 Try.underlying47 hi hz0 hz1 hz2 rfl (by omega) v l.length _ hs hbuf ⟨g, 0, none⟩ n c (m.map byteV) hx (by simp [hn]) ?_ ?_ (by unfold maxLen; omega) (by omega) hB ?_
  · intro j u hu
    rw [hadd]
    rw [List.getElem?_map] at hu
    by_cases hj : j < m.length
    · rw [List.getElem?_eq_getElem hj] at hu
      rw [hm j hj]
      exact hu
    · rw [List.getElem?_eq_none (by omega)] at hu
      simp at hu
  · intro u hu
    rw [List.mem_map] at hu
    obtain ⟨c, _, rfl⟩ := hu
    rfl
  · intro v' w' hown hg _
    refine h v' w' ?_ hg (buf_below hbuf hB hg)
    have e1 : l.length + n = (l ++ m).length := by simp [hn]
    rw [e1, ← List.map_append] at hown
    exact hown
end
end Go.Proofs.Ytmgkolcpomaceaa
