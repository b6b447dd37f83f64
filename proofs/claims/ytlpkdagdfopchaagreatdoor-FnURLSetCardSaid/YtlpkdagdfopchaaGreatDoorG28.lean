/- asciiWhitespace f26, srcsetMetachars f28, consumeIn f25, consumeNotIn f27. -/
import Derived.Test.YtlpkdagdfopchaaGreatDoorG26
import Derived.Deep.WholeRow
namespace Go.Proofs.YtlpkdagdfopchaaGreatDoor
open Go.RowKit
set_option linter.unusedVariables false
set_option linter.unusedSimpArgs false

noncomputable def whiteA : Array Value := ((((Tryz.zeroCells41.setIfInBounds 9 (Value.bool true)).setIfInBounds 32 (Value.bool true)).setIfInBounds 10 (Value.bool true)).setIfInBounds 12 (Value.bool true)).setIfInBounds 13 (Value.bool true)
noncomputable def metaA : Array Value := whiteA.setIfInBounds 44 (Value.bool true)
def okb (b : Bool) (v : Option Value) : Bool := match v with
  | some (.bool x) => x == b
  | _ => false
theorem okb_of {b : Bool} {v : Option Value} (h : okb b v = true) : v = some (.bool b) := by
  unfold okb at h
  split at h
  · have h := eq_of_beq h
    rw [h]
  · simp at h
theorem white_size : whiteA.size = 256 := by kernel_rfl
theorem meta_size : metaA.size = 256 := by kernel_rfl
theorem white_all : (List.range 256).all (fun j => okb (spaceC j.toUInt8) (whiteA[j]?)) = true := by kernel_rfl
theorem meta_all : (List.range 256).all (fun j => okb (metaC j.toUInt8) (metaA[j]?)) = true := by kernel_rfl
theorem u8_back (c : UInt8) : c.toNat.toUInt8 = c := by simp
theorem white_at (c : UInt8) : whiteA[c.toNat]? = some (.bool (spaceC c)) := by
  have := okb_of (List.all_eq_true.1 white_all c.toNat (List.mem_range.2 c.toNat_lt))
  rwa [u8_back] at this
theorem meta_at (c : UInt8) : metaA[c.toNat]? = some (.bool (metaC c)) := by
  have := okb_of (List.all_eq_true.1 meta_all c.toNat (List.mem_range.2 c.toNat_lt))
  rwa [u8_back] at this
theorem u41 : Tryz.prog.underlying 41 = some (.array 256 4) := by kernel_rfl
theorem i41 : (Tryz.prog.info? 41).map (·.size) = some 256 := by kernel_rfl

theorem results_cell {fn : Func} {t : Tmp} {ty : TypeId} {tmps : Array Value} {w : World} {a : Addr} {v : Value} (h : fn.results = #[.cell t ty]) (ha : tmps.getD t undef = .pointer (some a))
    (hl : (loadVar ty a).run Tryz.prog w = .ok v w) : (results fn tmps).run Tryz.prog w = .ok v w := by
  have ha' : tmps[t]?.getD undef = .pointer (some a) := by simpa using ha
  simp [results, h, asAddr, ha', hl]

set_option maxHeartbeats 1000000 in
set_option maxRecDepth 100000 in
theorem white_calls (w : World) :
    Calls Tryz.prog 26 #[] w fun e w' => e = .returned (.agg whiteA) ∧ Below w.heap.size w w' := by
  have hl := run_loadVar_new (P := Tryz.prog) w 41 whiteA 256 4 u41 (by rw [white_size]; exact i41)
  go_enter Tryz.func26, Tryz.ntmps26
  go_wp2_with fail
  refine bodyPost_ret (results_cell rfl rfl hl) rfl ⟨rfl, (Below.refl _ _).alloc (Nat.le_refl _) _⟩

theorem white_one : whiteA.all (·.oneCell') = true := by kernel_rfl
theorem meta_one : metaA.all (·.oneCell') = true := by kernel_rfl
theorem zero41_size : Tryz.zeroCells41.size = 256 := by kernel_rfl
theorem storeCells_row (w : World) (g : Nat) (c c' : Array Value) (hg : w.heap[g]? = some (.cells c 41 (0, 0))) (hi : c'.size = 256) (ho : c.size = 256) (h1 : c'.all (·.oneCell') = true) :
    (storeCells ⟨g, 0, none⟩ c'.toList 0).run Tryz.prog w = .ok () (w.setRow g c') := by
  have := run_storeVar_row (P := Tryz.prog) w g 41 41 c c' hg (by rw [hi]; exact i41) (by omega) h1
  cases hq : Tryz.prog.info? 41 with
  | none => have h := i41; simp [hq] at h
  | some i =>
    have hs : c'.size = i.size := by have h := i41; simp [hq] at h; omega
    simpa [storeVar, sizeOf, typeInfo, hq, Value.cells, hs] using this

theorem wp_load_eq {op : Oper} {a : Act} {w : World} {K : Act → World → Prop} {Q : Exit → Act → World → Prop} (ty : TypeId) (x : Operand) (ho : op.op = .load ty x)
    (p v : Value) (hx : a.eval x = p) (hl : (Instr.loadAt ty p).run Tryz.prog w = .ok v w) (h : K (a.put op.dst v) w) : op.wp Tryz.prog a w K Q := by
  unfold Oper.wp execOp
  simp only [ho, hx, Sem.run_bind, Sem.run_pure, Result.andThen_ok, hl]
  exact h

set_option maxHeartbeats 1000000 in
set_option maxRecDepth 100000 in
theorem metas_calls (w : World) :
    Calls Tryz.prog 28 #[] w fun e w' => e = .returned (.agg metaA) ∧ Below w.heap.size w w' := by
  go_enter Tryz.func28, Tryz.ntmps28
  go_wp2_with fail
  refine (white_calls _).mono ?_
  rintro e w1 ⟨rfl, hb⟩
  have hst := run_storeCells_new (P := Tryz.prog) w1 41 Tryz.zeroCells41 whiteA (by rw [white_size]; exact i41) (by rw [white_size]; exact zero41_size) white_one
  have hld := run_loadCellsFrom_new (P := Tryz.prog) w1 41 (whiteA.setIfInBounds 44 (Value.bool true)) 256 meta_size
  have hld2 := run_loadAt_new (P := Tryz.prog) w1 41 (whiteA.setIfInBounds 44 (Value.bool true)) 256 4 u41 (by rw [show (whiteA.setIfInBounds 44 (Value.bool true)).size = 256 from meta_size]; exact i41)
  have hg0 : w1.heap[w.heap.size]? = some (.cells Tryz.zeroCells41 41 (0, 0)) := by
    have h1 := hb.block w.heap.size (by simp)
    rw [h1]
    exact heap_alloc_last w _
  have hlt : w.heap.size < w1.heap.size := own_lt hb
  have hg1 : (w1.alloc (.cells (whiteA.setIfInBounds 44 (Value.bool true)) 41)).heap[w.heap.size]? = some (.cells Tryz.zeroCells41 41 (0, 0)) := by
    rw [← hg0]
    show (w1.heap.push _)[w.heap.size]? = _
    rw [Array.getElem?_push_lt hlt]
    simp [hlt]
  have hst2 := storeCells_row _ _ _ (whiteA.setIfInBounds 44 (Value.bool true)) hg1 meta_size zero41_size meta_one
  have hfin := run_loadVar_row (P := Tryz.prog) _ w.heap.size 41 41 (whiteA.setIfInBounds 44 (Value.bool true)) (0, 0) _ (setRow_heap _ _ _ (whiteA.setIfInBounds 44 (Value.bool true)) _ _ hg1) u41 rfl (by rw [show (whiteA.setIfInBounds 44 (Value.bool true)).size = 256 from meta_size]; exact i41)
  have hB := Lib.hid (below_own hb)
  clear hb hg0 hg1
  go_wp2_with fail
  refine wp_load_eq 41 (Operand.tmp 1) rfl _ _ rfl hld2 ?_
  have hB2 := Lib.hid ((hB.out.alloc (Nat.le_of_lt hlt) (.cells (whiteA.setIfInBounds 44 (Value.bool true)) 41)))
  clear hst hld hld2
  have hME : Hid (metaA = whiteA.setIfInBounds 44 (Value.bool true)) := Lib.hid rfl
  have hMs : (whiteA.setIfInBounds 44 (Value.bool true)).size = 256 := meta_size
  generalize whiteA.setIfInBounds 44 (Value.bool true) = M at hst2 hfin hB2 hME hMs ⊢
  generalize w1.alloc (Obj.cells M 41) = w2 at hst2 hfin hB2 ⊢
  go_wp2_with fail
  refine bodyPost_ret (results_cell rfl rfl hfin) rfl ⟨by rw [hME.out], ?_⟩
  exact hB2.out.trans ⟨rfl, rfl, rfl, by simp, fun k hk => setRow_other _ _ _ _ (by omega)⟩

end Go.Proofs.YtlpkdagdfopchaaGreatDoor
