/- Operations over a frame that is not written out; a statement of StyleFromProperties of one text. -/
import Derived.Test.YtmgkolcpomaceaaK20
namespace Go.Proofs.Ytmgkolcpomaceaa
open Go.RowKit
set_option linter.unusedVariables false
set_option linter.unusedSimpArgs false

section
variable {P : Program} {ops : Array Oper} {Q : Exit → Act → World → Prop} {rest : List Oper} {o : Oper} {a : Act} {w w' : World}
theorem op_val (hg : o.guard = none) {v : Value} (hr : (execOp a.eval o).run P w = .ok (.value v) w') (h : wpList P ops Q rest (a.put o.dst v) w') : wpList P ops Q (o :: rest) a w :=
  wpList_plain hg fun K hK => by unfold Oper.wp; rw [hr]; exact hK _ _ h
theorem op_call (hg : o.guard = none) {f : FuncId} {args : Array Value} (hr : (execOp a.eval o).run P w = .ok (.enter f args) w) (h : Calls P f args w fun e w'' => ∃ v, e = .returned v ∧ wpList P ops Q rest (a.put o.dst v) w'') : wpList P ops Q (o :: rest) a w :=
  wpList_plain hg fun K hK => by
    unfold Oper.wp
    rw [hr]
    refine h.mono ?_
    rintro e w'' ⟨v, rfl, hv⟩
    exact hK _ _ hv
end
def Has (a : Act) (t : Nat) (v : Value) : Prop := a.tmps[t]? = some v
theorem Has.eval {a : Act} {t : Nat} {v : Value} (h : Has a t v) : a.eval (.tmp t) = v := by
  unfold Has at h
  simp [Act.eval, h]
theorem Has.same {a : Act} {t : Nat} (h : t < a.tmps.size) (v : Value) : Has (a.put (some t) v) t v := by
  simp [Has, Act.put, h]
theorem Has.other {a : Act} {t s : Nat} {v : Value} (h : Has a t v) (hne : s ≠ t) (u : Value) : Has (a.put (some s) u) t v := by
  unfold Has at h ⊢
  simp [Act.put, Array.getElem?_setIfInBounds_ne hne, h]
theorem put_size (a : Act) (t : Nat) (v : Value) : (a.put (some t) v).tmps.size = a.tmps.size := by simp [Act.put]
theorem put_defers (a : Act) (t : Nat) (v : Value) : (a.put (some t) v).defers = a.defers := rfl
theorem eval_const (a : Act) (v : Value) : a.eval (.const v) = v := rfl
theorem eval_func (a : Act) (f : FuncId) : a.eval (.func f) = .func (.func f) #[] #[] := rfl


section
variable (ρ : Operand → Value) (hρ : ∀ v, ρ (.const v) = v) (hf : ∀ m, ρ (.func m) = .func (.func m) #[] #[])
include hρ in
theorem run_neq (w : World) (y : Operand) (x : ByteArray) (h : ρ y = .string x) (dst : Option Nat) (T : Nat) (pos : String) (af g) : (execOp ρ { dst := dst, op := .binOp .neq 9 y (.const (.string ⟨#[]⟩)) 9, type := T, pos := pos, after := af, guard := g }).run Try.prog w = .ok (.value (.bool (!(x.toList == [])))) w := by
  simp [execOp, h, hρ, go_sem]
theorem run_add (w : World) (y z : Operand) (x u : ByteArray) (h : ρ y = .string x) (h2 : ρ z = .string u) (hs : x.size + u.size ≤ 9223372036854775807) (dst : Option Nat) (T : Nat) (pos : String) (af g) : (execOp ρ { dst := dst, op := .binOp .add 9 y z 9, type := T, pos := pos, after := af, guard := g }).run Try.prog w = .ok (.value (.string (x ++ u))) w := by
  simp [execOp, h, h2, go_sem, hs]
include hf in
theorem run_filter (w : World) (y : Operand) (x : Value) (h : ρ y = x) (m : FuncId) (dst : Option Nat) (T : Nat) (pos : String) (af g) : (execOp ρ { dst := dst, op := .call { callee := .value (.func 135), args := #[y, .func m], argTypes := #[9, 31] }, type := T, pos := pos, after := af, guard := g }).run Try.prog w = .ok (.enter 135 #[x, .func (.func m) #[] #[]]) w := by
  simp [execOp, h, hf, go_sem]
theorem run_field (w : World) (y : Operand) (g i : Nat) (h : ρ y = .pointer (some ⟨g, 0, none⟩)) (hfa : ∀ (g : Nat) (w : World), (Instr.fieldAt 102 (.pointer (some ⟨g, 0, none⟩)) i).run Try.prog w = .ok (.pointer (some ⟨g, i, none⟩)) w) (dst : Option Nat) (T : Nat) (pos : String) (af gd) : (execOp ρ { dst := dst, op := .fieldAddr 102 y i, type := T, pos := pos, after := af, guard := gd }).run Try.prog w = .ok (.value (.pointer (some ⟨g, i, none⟩))) w := by
  simp [execOp, h, hfa, Result.andThen]
theorem run_load (w : World) (y : Operand) (g i : Nat) (x : ByteArray) (h : ρ y = .pointer (some ⟨g, i, none⟩)) (hc : w.cell? ⟨g, i, none⟩ = some (.string x)) (dst : Option Nat) (T : Nat) (pos : String) (af gd) : (execOp ρ { dst := dst, op := .load 9 y, type := T, pos := pos, after := af, guard := gd }).run Try.prog w = .ok (.value (.string x)) w := by
  simp [execOp, h, hc, go_sem]
theorem run_move (w : World) (y : Operand) (v : Value) (h : ρ y = v) (dst : Option Nat) (T : Nat) (pos : String) (af gd) : (execOp ρ { dst := dst, op := .move y, type := T, pos := pos, after := af, guard := gd }).run Try.prog w = .ok (.value v) w := by
  simp [execOp, h, go_sem]
theorem run_assign (w : World) (y : Operand) (v : Value) (h : ρ y = v) (dst : Option Nat) (T : Nat) (pos : String) (af gd) : (execOp ρ { dst := dst, op := .assign y, type := T, pos := pos, after := af, guard := gd }).run Try.prog w = .ok (.value v) w := by
  simp [execOp, h, go_sem]
end
structure Fr (a : Act) (N : Nat) (T : ByteArray) : Prop where
  sz : a.tmps.size = 239
  df : a.defers = []
  p1 : Has a 1 (.pointer (some ⟨N, 0, none⟩))
  p2 : Has a 2 (.pointer (some ⟨N + 1, 0, none⟩))
  p3 : Has a 3 (.string T)
theorem Fr.put {a : Act} {N : Nat} {T : ByteArray} (h : Fr a N T) (t : Nat) (ht : 4 ≤ t) (v : Value) : Fr (a.put (some t) v) N T :=
  ⟨by rw [put_size]; exact h.sz, h.df, h.p1.other (by omega) v, h.p2.other (by omega) v, h.p3.other (by omega) v⟩
theorem Fr.set {a : Act} {N : Nat} {T : ByteArray} (h : Fr a N T) (U : ByteArray) : Fr (a.put (some 3) (.string U)) N U :=
  ⟨by rw [put_size]; exact h.sz, h.df, h.p1.other (by omega) _, h.p2.other (by omega) _, Has.same (by rw [h.sz]; omega) _⟩

theorem stage_S (t i : Nat) (ht : 4 ≤ t) (ht2 : t + 9 < 239) (hi : i < 17) (nm : ByteArray) (m : FuncId) (F : ByteArray → ByteArray)
    (hcall : ∀ x w, x.size ≤ 2147483647 → Calls Try.prog 135 #[.string x, .func (.func m) #[] #[]] w fun e w' => e = .returned (.string (F x)) ∧ Below w.heap.size w w')
    (hF : ∀ x, x.size ≤ 200 → (F x).size ≤ 200)
    (hfa : ∀ (g : Nat) (w : World), (Instr.fieldAt 102 (.pointer (some ⟨g, 0, none⟩)) i).run Try.prog w = .ok (.pointer (some ⟨g, i, none⟩)) w)
    (r1 r2 : Nat) {K : Act → World → Prop} {Q' : Exit → Act → World → Prop} (pc : Nat → Value) (a : Act) (w wx : World) (T x : ByteArray) (fr : Fr a w.heap.size T) (hP : PropW pc w wx) (hpc : pc i = .string x) (hxs : x.size ≤ 200) (hT : T.size ≤ 10000000) (hnm : nm.size ≤ 40)
    (hK : ∀ a' T' wx', Fr a' w.heap.size T' → T'.data.toList = T.data.toList ++ (if (x.toList == []) = true then [] else nm.data.toList ++ (F x).data.toList ++ [59]) → T'.size ≤ T.size + 241 → PropW pc w wx' → K a' wx')
    (s1 s2 s3 s4 s5 s6 s7 s8 s9 s10 s11 : String) (f1 f2 f3 f4 f5 f6 f7 f8 f9 f10 f11) (y1 y2 y3 y4 y5 y6 y7 y8 y9 y10 y11 : Nat) :
    Code.wp Try.prog ((Code.region r1 #[
        { dst := some t, op := .fieldAddr 102 (.tmp 1) i, type := y1, pos := s1, after := f1, guard := none },
        { dst := some (t + 1), op := .load 9 (.tmp t), type := y2, pos := s2, after := f2, guard := none },
        { dst := some (t + 2), op := .binOp .neq 9 (.tmp (t + 1)) (.const (.string ⟨#[]⟩)) 9, type := y3, pos := s3, after := f3, guard := none }] false).seq
      (Code.cond (.tmp (t + 2)) (Code.region r2 #[
        { dst := some (t + 3), op := .move (.tmp 3), type := y4, pos := s4, after := f4, guard := none },
        { dst := some (t + 4), op := .fieldAddr 102 (.tmp 1) i, type := y5, pos := s5, after := f5, guard := none },
        { dst := some (t + 5), op := .load 9 (.tmp (t + 4)), type := y6, pos := s6, after := f6, guard := none },
        { dst := some (t + 6), op := .call { callee := .value (.func 135), args := #[.tmp (t + 5), .func m], argTypes := #[9, 31] }, type := y7, pos := s7, after := f7, guard := none },
        { dst := some (t + 7), op := .binOp .add 9 (.const (.string nm)) (.tmp (t + 6)) 9, type := y8, pos := s8, after := f8, guard := none },
        { dst := some (t + 8), op := .binOp .add 9 (.tmp (t + 7)) (.const (.string ⟨#[59]⟩)) 9, type := y9, pos := s9, after := f9, guard := none },
        { dst := some (t + 9), op := .binOp .add 9 (.tmp (t + 3)) (.tmp (t + 8)) 9, type := y10, pos := s10, after := f10, guard := none },
        { dst := some 3, op := .assign (.tmp (t + 9)), type := y11, pos := s11, after := f11, guard := none }] false) Code.skip)) (Exit.then K Q') a wx := by
  have hc := hP.cell i hi
  rw [hpc] at hc
  refine wp_seq (wp_region_list ?_)
  refine op_val rfl (run_field _ _ _ _ _ fr.p1.eval hfa _ _ _ _ _) ?_
  have fr1 := fr.put t ht (.pointer (some ⟨w.heap.size, i, none⟩))
  have e1 := Has.same (a := a) (t := t) (by rw [fr.sz]; omega) (.pointer (some ⟨w.heap.size, i, none⟩))
  dsimp only at fr1 e1 ⊢
  generalize a.put (some t) (.pointer (some ⟨w.heap.size, i, none⟩)) = a1 at fr1 e1 ⊢
  refine op_val rfl (run_load _ _ _ _ _ _ e1.eval hc _ _ _ _ _) ?_
  have fr2 := fr1.put (t + 1) (by omega) (.string x)
  have e2 := Has.same (a := a1) (t := t + 1) (by rw [fr1.sz]; omega) (.string x)
  dsimp only at fr2 e2 ⊢
  generalize a1.put (some (t + 1)) (.string x) = a2 at fr2 e2 ⊢
  refine op_val rfl (run_neq _ (fun _ => rfl) _ _ _ e2.eval _ _ _ _ _) ?_
  have fr3 := fr2.put (t + 2) (by omega) (.bool (!(x.toList == [])))
  have e3 := Has.same (a := a2) (t := t + 2) (by rw [fr2.sz]; omega) (.bool (!(x.toList == [])))
  dsimp only at fr3 e3 ⊢
  generalize a2.put (some (t + 2)) (.bool (!(x.toList == []))) = a3 at fr3 e3 ⊢
  refine wpList_nil ?_
  show (Code.cond _ _ _).wp Try.prog (Exit.then K Q') a3 wx
  cases hx : (x.toList == []) with
  | true =>
    rw [hx] at e3 hK
    refine wp_cond_false e3.eval (wp_skip ?_)
    exact hK a3 T wx fr3 (by simp) (by omega) hP
  | false =>
    rw [hx] at e3 hK
    refine wp_cond_true e3.eval (wp_region_list ?_)
    clear e1 e2 e3
    refine op_val rfl (run_move _ _ _ _ fr3.p3.eval _ _ _ _ _) ?_
    have fr4 := fr3.put (t + 3) (by omega) (.string T)
    have e4 := Has.same (a := a3) (t := t + 3) (by rw [fr3.sz]; omega) (.string T)
    dsimp only at fr4 e4 ⊢
    generalize a3.put (some (t + 3)) (.string T) = a4 at fr4 e4 ⊢
    refine op_val rfl (run_field _ _ _ _ _ fr4.p1.eval hfa _ _ _ _ _) ?_
    have fr5 := fr4.put (t + 4) (by omega) (.pointer (some ⟨w.heap.size, i, none⟩))
    have e5 := Has.same (a := a4) (t := t + 4) (by rw [fr4.sz]; omega) (.pointer (some ⟨w.heap.size, i, none⟩))
    have e45 := e4.other (s := t + 4) (by omega) (.pointer (some ⟨w.heap.size, i, none⟩))
    dsimp only at fr5 e5 e45 ⊢
    generalize a4.put (some (t + 4)) (.pointer (some ⟨w.heap.size, i, none⟩)) = a5 at fr5 e5 e45 ⊢
    refine op_val rfl (run_load _ _ _ _ _ _ e5.eval hc _ _ _ _ _) ?_
    have fr6 := fr5.put (t + 5) (by omega) (.string x)
    have e6 := Has.same (a := a5) (t := t + 5) (by rw [fr5.sz]; omega) (.string x)
    have e46 := e45.other (s := t + 5) (by omega) (.string x)
    dsimp only at fr6 e6 e46 ⊢
    generalize a5.put (some (t + 5)) (.string x) = a6 at fr6 e6 e46 ⊢
    refine op_call rfl (run_filter _ (fun _ => rfl) _ _ _ e6.eval _ _ _ _ _ _) ?_
    refine (hcall x wx (by omega)).mono ?_
    rintro e wy ⟨rfl, hb⟩
    refine ⟨_, rfl, ?_⟩
    have hP2 := hP.on hb
    have hFx := hF x hxs
    generalize F x = X at hFx hK
    have fr7 := fr6.put (t + 6) (by omega) (.string X)
    have e7 := Has.same (a := a6) (t := t + 6) (by rw [fr6.sz]; omega) (.string X)
    have e47 := e46.other (s := t + 6) (by omega) (.string X)
    dsimp only at fr7 e7 e47 ⊢
    generalize a6.put (some (t + 6)) (.string X) = a7 at fr7 e7 e47 ⊢
    refine op_val rfl (run_add _ _ _ _ nm X rfl e7.eval (by omega) _ _ _ _ _) ?_
    have fr8 := fr7.put (t + 7) (by omega) (.string (nm ++ X))
    have e8 := Has.same (a := a7) (t := t + 7) (by rw [fr7.sz]; omega) (.string (nm ++ X))
    have e48 := e47.other (s := t + 7) (by omega) (.string (nm ++ X))
    dsimp only at fr8 e8 e48 ⊢
    generalize a7.put (some (t + 7)) (.string (nm ++ X)) = a8 at fr8 e8 e48 ⊢
    have h59 : (ByteArray.mk #[59]).size = 1 := rfl
    refine op_val rfl (run_add _ _ _ _ (nm ++ X) ⟨#[59]⟩ e8.eval rfl (by rw [ByteArray.size_append, h59]; omega) _ _ _ _ _) ?_
    have fr9 := fr8.put (t + 8) (by omega) (.string (nm ++ X ++ ⟨#[59]⟩))
    have e9 := Has.same (a := a8) (t := t + 8) (by rw [fr8.sz]; omega) (.string (nm ++ X ++ ⟨#[59]⟩))
    have e49 := e48.other (s := t + 8) (by omega) (.string (nm ++ X ++ ⟨#[59]⟩))
    dsimp only at fr9 e9 e49 ⊢
    generalize a8.put (some (t + 8)) (.string (nm ++ X ++ ⟨#[59]⟩)) = a9 at fr9 e9 e49 ⊢
    refine op_val rfl (run_add _ _ _ _ T (nm ++ X ++ ⟨#[59]⟩) e49.eval e9.eval (by rw [ByteArray.size_append, ByteArray.size_append, h59]; omega) _ _ _ _ _) ?_
    have fr10 := fr9.put (t + 9) (by omega) (.string (T ++ (nm ++ X ++ ⟨#[59]⟩)))
    have e10 := Has.same (a := a9) (t := t + 9) (by rw [fr9.sz]; omega) (.string (T ++ (nm ++ X ++ ⟨#[59]⟩)))
    dsimp only at fr10 e10 ⊢
    generalize a9.put (some (t + 9)) (.string (T ++ (nm ++ X ++ ⟨#[59]⟩))) = a10 at fr10 e10 ⊢
    refine op_val rfl (run_assign _ _ _ _ e10.eval _ _ _ _ _) ?_
    refine wpList_nil ?_
    refine hK _ _ _ (fr10.set _) ?_ ?_ hP2
    · rw [bytes_append, bytes_append, bytes_append]; simp
    · rw [ByteArray.size_append, ByteArray.size_append, ByteArray.size_append, h59]; omega
end Go.Proofs.Ytmgkolcpomaceaa
