/- What the listed variables give the walks. -/
import Derived.Test.YtlpkdagdfopchaaGreatDoorS1
import Derived.Test.YtlpkdagdfopchaaGreatDoorG33
namespace Go.Proofs.YtlpkdagdfopchaaGreatDoor
open Go.RowKit Go.ChangeShapes Go.WideShapes Go.ChangeAt
set_option linter.unusedVariables false
set_option linter.unusedSimpArgs false

theorem rd_fields {W : World} {fuel : Nat} {t : TypeId} {cs : List Value} {ds : List (DataW Unit)} {p : List MemPlace} {fs : Array Field} (ht : Tryz.prog.underlying t = some (.struct fs)) (h : rdL W fuel t cs = some (.agg ds, p)) :
    ∃ n, ∀ (i : Nat) (f : Field), fs[i]? = some f → Tryz.prog.cellsOf f.type = 1 → ∃ d pl, ds[i]? = some d ∧ rdL W n f.type ((cs.drop f.offset).take 1) = some (d, pl) := by
  obtain ⟨xs, n, rfl, hx, _, hxl, hall⟩ := DataW.trod_struct ht h
  simp only [Prod.mk.injEq, DataW.agg.injEq] at hx
  refine ⟨n, fun i f hf hc => ?_⟩
  have h1 := hall i f hf
  rw [hc] at h1
  have hi : i < xs.length := by rw [hxl]; exact (Array.getElem?_eq_some_iff.1 hf).1
  rw [List.getElem?_eq_getElem hi] at h1
  exact ⟨xs[i].1, xs[i].2, by rw [hx.1, List.getElem?_map, List.getElem?_eq_getElem hi]; rfl, h1⟩
theorem one_cell {cs : List Value} {o : Nat} {v : Value} (h : (cs.drop o).take 1 = [v]) : cs[o]? = some v := by
  have := congrArg (·[0]?) h
  simpa [List.getElem?_take, List.getElem?_drop] using this

theorem c3 : Tryz.prog.cellsOf 3 = 1 := by kernel_rfl
theorem c72 : Tryz.prog.cellsOf 72 = 1 := by kernel_rfl
theorem c67 : Tryz.prog.cellsOf 67 = 1 := by kernel_rfl
theorem c9 : Tryz.prog.cellsOf 9 = 1 := by kernel_rfl
theorem c44 : Tryz.prog.cellsOf 44 = 1 := by kernel_rfl
theorem c131 : Tryz.prog.cellsOf 131 = 2 := by kernel_rfl
theorem c120 : Tryz.prog.cellsOf 120 = 2 := by kernel_rfl

theorem flt_of {W : World} (h : laidMet Tryz.prog listed W) : W.cell? ⟨4, 0, none⟩ = some (.int .u64 52) ∧ W.cell? ⟨4, 1, none⟩ = some (.int .u64 11) ∧ W.cell? ⟨4, 2, none⟩ = some (.int .i64 (-1023)) := by
  obtain ⟨cs, fuel, p, hc, hr⟩ := listed_cells h (n := "internal/strconv.float64info") (d := Rows.laid_internal_strconv_float64info) (List.mem_of_getElem? (show listed[3]? = some _ from rfl)) (g := 4) (t := 74) (by kernel_rfl) (by kernel_rfl)
  obtain ⟨n, hf⟩ := rd_fields Tryz.underlying74 hr
  obtain ⟨d0, p0, e0, r0⟩ := hf 0 _ rfl c72
  obtain ⟨d1, p1, e1, r1⟩ := hf 1 _ rfl c72
  obtain ⟨d2, p2, e2, r2⟩ := hf 2 _ rfl c3
  injection e0 with e0
  injection e1 with e1
  injection e2 with e2
  subst e0 e1 e2
  exact ⟨by rw [hc]; exact one_cell (rd_int Tryz.underlying72 r0), by rw [hc]; exact one_cell (rd_int Tryz.underlying72 r1), by rw [hc]; exact one_cell (rd_int Tryz.underlying3 r2)⟩
theorem opt_of {W : World} (h : laidMet Tryz.prog listed W) : W.cell? ⟨3, 0, none⟩ = some (.bool true) := by
  obtain ⟨cs, fuel, p, hc, hr⟩ := listed_cells h (n := "internal/strconv.optimize") (d := Rows.laid_internal_strconv_optimize) (List.mem_of_getElem? (show listed[4]? = some _ from rfl)) (g := 3) (t := 4) (by kernel_rfl) (by kernel_rfl)
  rw [hc, rd_bool Tryz.underlying4 hr]; rfl
theorem err_of {W : World} (h : laidMet Tryz.prog listed W) : ∃ te pe, W.cell? ⟨0, 0, none⟩ = some (.iface te pe) := by
  obtain ⟨cs, fuel, p, hc, hr⟩ := listed_cells h (n := "strconv.ErrSyntax") (d := Rows.laid_strconv_ErrSyntax) (List.mem_of_getElem? (show listed[10]? = some _ from rfl)) (g := 0) (t := 46) (by kernel_rfl) (by kernel_rfl)
  obtain ⟨u, v, e⟩ := rd_iface Tryz.underlying46 hr
  exact ⟨u, v, by rw [hc, e]; rfl⟩
theorem pow_of {W : World} (h : laidMet Tryz.prog listed W) (h6 : 6 < W.heap.size) : PowAt W W.heap.size := by
  obtain ⟨cs, fuel, p, hc, hr⟩ := listed_cells h (n := "internal/strconv.powtab") (d := Rows.laid_internal_strconv_powtab) (List.mem_of_getElem? (show listed[5]? = some _ from rfl)) (g := 6) (t := 114) (by kernel_rfl) (by kernel_rfl)
  obtain ⟨L, o, cap, e, hL, hel⟩ := rd_slice Tryz.underlying114 c3 (by omega) hr (by simp)
  refine ⟨L, o, cap, hL, h6, by rw [hc, e]; rfl, fun i hi => ?_⟩
  have hd : ∀ i : Fin 9, ([1, 3, 6, 9, 13, 16, 19, 23, 26] : List Int)[i.val]? = some ((pw i.val : Nat) : Int) := by decide
  have hlit : ∀ i : Fin 9, (([1, 3, 6, 9, 13, 16, 19, 23, 26] : List Int).map fun z => (DataW.lit (.int .i64 z) : DataW Unit))[i.val]? = some (.lit (.int .i64 ((pw i.val : Nat) : Int))) := fun i => by
    rw [List.getElem?_map, hd i]; rfl
  obtain ⟨n, pl, es, h1, h2, h3⟩ := hel i _ (hlit ⟨i, hi⟩)
  have := h2 0 (by omega)
  rw [rd_int Tryz.underlying3 h3, Nat.mul_one, Nat.add_zero] at this
  exact this
theorem fl_of {W : World} (h : laidMet Tryz.prog listed W) (h7 : 7 < W.heap.size) : FlAt W W.heap.size := by
  obtain ⟨cs, fuel, p, hc, hr⟩ := listed_cells h (n := "internal/strconv.float64pow10") (d := Rows.laid_internal_strconv_float64pow10) (List.mem_of_getElem? (show listed[6]? = some _ from rfl)) (g := 7) (t := 116) (by kernel_rfl) (by kernel_rfl)
  unfold Rows.laid_internal_strconv_float64pow10 at hr
  obtain ⟨L, o, cap, e, hL, hel⟩ := rd_slice Tryz.underlying116 c44 (by omega) hr (by simp)
  refine ⟨L, o, cap, hL, h7, by rw [hc, e]; rfl, fun i hi => ?_⟩
  obtain ⟨d, hd⟩ : ∃ d, (match (Rows.laid_internal_strconv_float64pow10 : DataW Unit) with | .slice l _ => l | _ => [])[i]? = some d := ⟨_, List.getElem?_eq_getElem (show i < 23 from hi)⟩
  obtain ⟨n, pl, es, h1, h2, h3⟩ := hel i d hd
  obtain ⟨b, eb⟩ := rd_float Tryz.underlying44 h3
  have := h2 0 (by omega)
  rw [eb, Nat.mul_one, Nat.add_zero] at this
  exact ⟨b, this⟩

theorem cheat_rows : ∀ k ∈ shifts, Go.Pinned.cheatRows[k]? = some (cutD k, cutL k) := by decide +kernel
theorem cheat_len : (Go.Pinned.cheatRows.map fun x => (DataW.agg [.lit (.int .i64 (x.1 : Int)), .lit (.string x.2)] : DataW Unit)).length = 61 := by kernel_rfl
theorem cheat_of {W : World} (h : laidMet Tryz.prog listed W) (h9 : 9 < W.heap.size) : CheatAt W W.heap.size := by
  obtain ⟨cs, fuel, p, hc, hr⟩ := listed_cells h (n := "internal/strconv.leftcheats") (d := Rows.laid_internal_strconv_leftcheats) (List.mem_of_getElem? (show listed[11]? = some _ from rfl)) (g := 9) (t := 132) (by kernel_rfl) (by kernel_rfl)
  have hr' : rdL W fuel 132 cs = some (.slice (Go.Pinned.cheatRows.map fun x => (DataW.agg [.lit (.int .i64 (x.1 : Int)), .lit (.string x.2)] : DataW Unit)) [], p) := hr
  obtain ⟨L, o, cap, e, hL, hel⟩ := rd_slice Tryz.underlying132 c131 (by omega) hr' (fun e => by have := cheat_len; rw [e] at this; simp at this)
  rw [cheat_len] at e
  refine ⟨L, o, cap, hL, h9, by rw [hc, e]; rfl, fun k hk => ?_⟩
  obtain ⟨n, pl, es, h1, h2, h3⟩ := hel k _ (by rw [List.getElem?_map, cheat_rows k hk]; rfl)
  obtain ⟨n2, hf⟩ := rd_fields Tryz.underlying131 h3
  obtain ⟨d0, p0, e0, r0⟩ := hf 0 _ rfl c3
  obtain ⟨d1, p1, e1, r1⟩ := hf 1 _ rfl c9
  injection e0 with e0
  injection e1 with e1
  subst e0 e1
  have a0 := h2 0 (by omega)
  have a1 := h2 1 (by omega)
  exact ⟨a0.trans (one_cell (rd_int Tryz.underlying3 r0)), a1.trans (one_cell (rd_string Tryz.underlying9 r1))⟩
theorem tab_of {W : World} (h : laidMet Tryz.prog listed W) (h8 : 8 < W.heap.size) : TabAt W W.heap.size := by
  obtain ⟨cs, fuel, p, hc, hr⟩ := listed_cells h (n := "internal/strconv.pow10Tab") (d := Rows.laid_internal_strconv_pow10Tab) (List.mem_of_getElem? (show listed[12]? = some _ from rfl)) (g := 8) (t := 121) (by kernel_rfl) (by kernel_rfl)
  obtain ⟨xs, m, rfl, _, _, hxl, hall⟩ := DataW.trod_array Tryz.underlying121 hr
  refine ⟨h8, fun i hi => ?_⟩
  have h1 := hall i hi
  rw [List.getElem?_eq_getElem (show i < xs.length by omega), c120] at h1
  obtain ⟨ys, n, _, _, _, hyl, hf⟩ := DataW.trod_struct Tryz.underlying120 h1
  have f0 := hf 0 _ rfl
  have f1 := hf 1 _ rfl
  rw [List.getElem?_eq_getElem (show 0 < ys.length by rw [hyl]; decide)] at f0
  rw [List.getElem?_eq_getElem (show 1 < ys.length by rw [hyl]; decide)] at f1
  obtain ⟨z0, q0⟩ := rd_int_any Tryz.underlying67 f0
  obtain ⟨z1, q1⟩ := rd_int_any Tryz.underlying67 f1
  have q0' : ((((cs.drop (i * 2)).take 2).drop 0).take (Tryz.prog.cellsOf 67)) = [.int .u64 z0] := q0
  have q1' : ((((cs.drop (i * 2)).take 2).drop 1).take (Tryz.prog.cellsOf 67)) = [.int .u64 z1] := q1
  rw [c67] at q0' q1'
  have a0 := one_cell q0'
  have a1 := one_cell q1'
  refine ⟨⟨z0, ?_⟩, z1, ?_⟩
  · rw [hc]
    rw [List.getElem?_take, if_pos (by decide), List.getElem?_drop] at a0
    simpa using a0
  · rw [hc]
    rw [List.getElem?_take, if_pos (by decide), List.getElem?_drop] at a1
    simpa using a1
theorem env_of {W : World} (h : laidMet Tryz.prog listed W) : Env2 W W.heap.size := by
  have hg : 9 < W.heap.size := by
    obtain ⟨cs, fuel, p, hc, hr⟩ := listed_cells h (n := "internal/strconv.leftcheats") (d := Rows.laid_internal_strconv_leftcheats) (List.mem_of_getElem? (show listed[11]? = some _ from rfl)) (g := 9) (t := 132) (by kernel_rfl) (by kernel_rfl)
    have hr' : rdL W fuel 132 cs = some (.slice (Go.Pinned.cheatRows.map fun x => (DataW.agg [.lit (.int .i64 (x.1 : Int)), .lit (.string x.2)] : DataW Unit)) [], p) := hr
    obtain ⟨L, o, cap, e, _, _⟩ := rd_slice Tryz.underlying132 c131 (by omega) hr' (fun e => by have := cheat_len; rw [e] at this; simp at this)
    have := hc 0
    rw [e] at this
    exact World.block_lt_of_cell? W _ this
  obtain ⟨f0, f1, f2⟩ := flt_of h
  exact ⟨⟨⟨cheat_of h hg, pow_of h (by omega), by omega, f0, f1, f2⟩, tab_of h (by omega), fl_of h (by omega), opt_of h⟩, err_of h⟩

end Go.Proofs.YtlpkdagdfopchaaGreatDoor
