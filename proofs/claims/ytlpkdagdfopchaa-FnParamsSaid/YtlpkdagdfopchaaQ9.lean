/- impl.Params; FnParams. -/
import Derived.Test.YtlpkdagdfopchaaQ8
import Derived.Deep.RegionLaw
import Derived.BigRegion
namespace Go.Proofs.Ytlpkdagdfopchaa
open Go.RowKit Go.Maps
set_option linter.unusedVariables false
set_option linter.unusedSimpArgs false

def IPost (hd tl : ByteArray) (a : Nat) (l : List Pr) (e : Ending) : Prop := ∃ (X : ByteArray) (S : List (List UInt8)), e = .returned (.tuple #[.string X, .bool true]) ∧ S.Perm (textsL l) ∧ S.Pairwise (fun x y => x ≤ y) ∧ X.data.toList = resL hd tl a S
set_option maxHeartbeats 16000000 in
set_option maxRecDepth 100000 in
theorem implParams_calls (s : ByteArray) (l : List Pr) (A : Option Addr) (cap : Nat) (w : World) (hs : s.size ≤ 200) (ha : Hid ((asciiB s && smallB s) = true)) (hok : pairsOkB l = true) (hA : Hid (PairsAt w A l)) :
    Calls Try.prog 8 #[.string s, .slice A l.length cap] w fun e w' => IPost (headP s) (tailP s) (cutN (headP s).data.toList 63) l e ∧ Below w.heap.size w w' := by
  go_enter Try.func8, Try.ntmps8
  go_wp2_with fail
  refine (implPairs_calls l A cap _ hA hok).mono ?_
  rintro e w1 ⟨b, rfl, hbB, hown, hb⟩
  have HO := Lib.hid hown
  have HB := Lib.hid hb
  clear hown hb
  go_wp2_with fail
  refine (isPlain_one s _ _ _ (by exact strsAt_new _ _ [s] 9 (by simp)) (by omega)).mono ?_
  rw [ha.out]
  rintro e w2 ⟨rfl, rfl⟩
  have HO2 := Lib.hid (HO.out.below (Below.own w1 (Obj.cells #[.string s] 9)))
  have HB2 := Lib.hid (HB.out.alloc HB.out.size (Obj.cells #[.string s] 9))
  go_wp2_with fail
  refine (zzTrusted_calls s _).mono ?_
  rintro e w3 ⟨rfl, hb⟩
  have HO3 := Lib.hid (HO2.out.below hb)
  have HB3 := Lib.hid (below_then HB2.out HB2.out.size hb)
  clear hb
  go_wp2_with fail
  refine (withParams_calls s l b _ hs hok HO3).mono ?_
  rintro e w4 ⟨⟨X, S, rfl, hS, hSp, hX⟩, hb⟩
  have HB4 := Lib.hid (below_then HB3.out HB3.out.size hb)
  have HX := Lib.hid hX
  have HS := Lib.hid hS
  have HSp := Lib.hid hSp
  clear hb hX hS hSp
  go_wp2_with fail
  refine (trString_calls X _).mono ?_
  rintro e w5 ⟨rfl, hb⟩
  go_wp2_with fail
  go_ret2
  exact ⟨⟨X, S, rfl, HS.out, HSp.out, HX.out⟩, below_then HB4.out HB4.out.size hb⟩

theorem sbuf_made (w : World) (B : Nat) (hB : B ≤ w.heap.size) : SBuf (w.alloc (.cells #[] 9)) B 9 (.slice (some ⟨w.heap.size, 0, none⟩) 0 0) [] :=
  ⟨rfl, .inr ⟨w.heap.size, 0, #[], rfl, hB, heap_alloc_new w _, Nat.le_refl _, Nat.zero_le _, rfl, rfl⟩⟩
section
variable {ops : Array Oper} {o : Oper} {a : Act} {w : World} {K : Act → World → Prop} {Q : Exit → Act → World → Prop} {E : Prop}
theorem step_percent (hg : o.guard = none) (x : Operand) (ho : o.op = .call { callee := .value (.func 7), args := #[x], argTypes := #[9] }) (s : ByteArray) (hx : a.eval x = .string s) (hs : s.size ≤ 2147483647)
    (hK : ∀ w', Below w.heap.size w w' → K (a.put o.dst (.string (mkB (pctL s.data.toList)))) w') : if Region.wanted o (yielded ops a.tmps) = true then Oper.wp Try.prog o a w K Q else E := by
  have hw : Region.wanted o (yielded ops a.tmps) = true := by simp [Region.wanted, hg]
  rw [if_pos hw]
  have hr : (execOp a.eval o).run Try.prog w = .ok (.enter 7 #[.string s]) w := by
    have hf : a.eval (.func 7) = .func (.func 7) #[] #[] := rfl
    generalize a.eval = ρ at hx hf ⊢
    simp [execOp, ho, hx, hf, go_sem, Try.func7]
  unfold Oper.wp
  rw [hr]
  refine (percent_calls s w hs).mono ?_
  rintro e w' ⟨rfl, hb⟩
  exact hK w' hb
theorem step_sbuf (T E' : TypeId) (z : Value) (hT : Try.prog.underlying T = some (.slice E')) (hI : (Try.prog.info? E').map (fun i => (i.zero, i.size, i.bytes)) = some (some z, 1, 16)) (hz : z.cells.size = 1)
    (hgd : o.guard = none) (sl x : Operand) (ho : o.op = .call { callee := .builtin .append, args := #[sl, x], argTypes := #[T, T] })
    (B : Nat) (v : Value) (l : List ByteArray) (hs : a.eval sl = v) (hbuf : SBuf w B E' v l) (g c : Nat) (hx : a.eval x = .slice (some ⟨g, 0, none⟩) 1 c) (r : ByteArray)
    (hm : w.cell? ⟨g, 0, none⟩ = some (.string r)) (hl : l.length ≤ 2147483647) (hB : B ≤ w.heap.size)
    (h : ∀ v' w', SBuf w' B E' v' (l ++ [r]) → w.grownBy w' v.ownBlock → Below B w w' → K (a.put o.dst v') w') :
    if Region.wanted o (yielded ops a.tmps) = true then Oper.wp Try.prog o a w K Q else E := by
  have hw : Region.wanted o (yielded ops a.tmps) = true := by simp [Region.wanted, hgd]
  rw [if_pos hw]
  obtain ⟨i0, hi, hz0, hz1, hz2⟩ := info_parts hI
  have hadd : ∀ j, (⟨g, 0, none⟩ : Addr).add j = ⟨g, j, none⟩ := fun j => by unfold Addr.add; split <;> simp_all
  refine wp_append_own w sl x T ho B E' i0 z 1 16 hT hi hz0 hz1 hz2 hz (by omega) v l.length _ hs hbuf ⟨g, 0, none⟩ 1 c [.string r] hx rfl ?_ ?_ (by unfold maxLen; omega) (by omega) hB ?_
  · intro j u hu
    rw [hadd]
    cases j with
    | zero => simp at hu; subst hu; exact hm
    | succ j => simp at hu
  · intro u hu
    simp at hu
    subst hu
    rfl
  · intro v' w' hown hg _
    refine h v' w' ?_ hg ((Below.refl _ _).grown hg hB fun k hk => (hbuf.lt hk).2)
    have e1 : l.length + 1 = (l ++ [r]).length := by simp
    rw [e1, show [Value.string r] = [r].map Value.string from rfl, ← List.map_append] at hown
    exact hown
end
end Go.Proofs.Ytlpkdagdfopchaa
