/- A listed variable's cells, out of what it reads as. -/
import Derived.Test.YtlpkdagdfopchaaGreatDoorS0
import Derived.OpenShut
namespace Go.Proofs.YtlpkdagdfopchaaGreatDoor
open Go.RowKit Go.ChangeShapes Go.WideShapes Go.ChangeAt
set_option linter.unusedVariables false
set_option linter.unusedSimpArgs false

noncomputable abbrev rdL (W : World) (fuel : Nat) (t : TypeId) (cs : List Value) := DataW.trod (fun _ => ()) Tryz.prog W 0 (fun _ => true) false fuel t cs
theorem listed_reads {W : World} : ∀ {l : List (String × DataW Unit)} {ps : List MemPlace}, DataW.LaidVars Tryz.prog W l ps → ∀ n d, (n, d) ∈ l →
    ∃ g t cs fuel p, Tryz.prog.globalNamed n = some g ∧ (Tryz.prog.globals[g]?).map (·.type) = some t ∧ W.var? Tryz.prog n = some cs ∧ rdL W fuel t cs.toList = some (d, p)
  | [], _, _, _, _, hm => by cases hm
  | (n', d') :: r, ps, h, n, d, hm => by
    obtain ⟨g, t, cs, fuel, p, q, h1, h2, h3, h4, h5, _⟩ := h
    rcases List.mem_cons.1 hm with e | e
    · cases e
      exact ⟨g, t, cs, fuel, p, h1, h2, h3, h4⟩
    · exact listed_reads h5 n d e
/-- The cells of a listed variable, by its number and its type. -/
theorem listed_cells {W : World} {l : List (String × DataW Unit)} (h : laidMet Tryz.prog l W) {n : String} {d : DataW Unit} (hm : (n, d) ∈ l) {g : Nat} {t : TypeId} (hg : Tryz.prog.globalNamed n = some g) (ht : (Tryz.prog.globals[g]?).map (·.type) = some t) :
    ∃ (cs : List Value) (fuel : Nat) (p : List MemPlace), (∀ i, W.cell? ⟨g, i, none⟩ = cs[i]?) ∧ rdL W fuel t cs = some (d, p) := by
  obtain ⟨ps, hv, _⟩ := h
  obtain ⟨g', t', cs, fuel, p, h1, h2, h3, h4⟩ := listed_reads hv n d hm
  obtain rfl := Option.some.inj (hg.symm.trans h1)
  obtain rfl := Option.some.inj (ht.symm.trans h2)
  exact ⟨cs.toList, fuel, p, fun i => by rw [World.var?_cell hg h3 i]; simp, h4⟩

theorem rd_float {W : World} {fuel : Nat} {t : TypeId} {k : FloatKind} {cs : List Value} {x : DataW Unit × List MemPlace} (ht : Tryz.prog.underlying t = some (.float k)) (h : rdL W fuel t cs = some x) : ∃ b, cs = [.float k b] := by
  cases fuel with
  | zero => simp [rdL, DataW.trod] at h
  | succ n =>
    unfold rdL DataW.trod at h
    rw [ht] at h
    split at h <;> simp_all
theorem rd_iface {W : World} {fuel : Nat} {t : TypeId} {ms : Array (String × TypeId)} {cs : List Value} {nm : String} {d : DataW Unit} {p : List MemPlace} (ht : Tryz.prog.underlying t = some (.interface ms)) (h : rdL W fuel t cs = some (.iface nm d, p)) : ∃ u v, cs = [.iface u v] := by
  cases fuel with
  | zero => simp [rdL, DataW.trod] at h
  | succ n =>
    unfold rdL DataW.trod at h
    rw [ht] at h
    split at h <;> simp_all
theorem rd_int {W : World} {fuel : Nat} {t : TypeId} {k : IntKind} {cs : List Value} {z : Int} {p : List MemPlace} (ht : Tryz.prog.underlying t = some (.int k)) (h : rdL W fuel t cs = some (.lit (.int k z), p)) : cs = [.int k z] := by
  obtain ⟨n, h1, h2, _⟩ := DataW.trod_int ht h
  simp at h2
  rw [h1, h2.1]
theorem rd_int_any {W : World} {fuel : Nat} {t : TypeId} {k : IntKind} {cs : List Value} {x : DataW Unit × List MemPlace} (ht : Tryz.prog.underlying t = some (.int k)) (h : rdL W fuel t cs = some x) : ∃ z, cs = [.int k z] := by
  obtain ⟨n, h1, _⟩ := DataW.trod_int ht h
  exact ⟨n, h1⟩
theorem rd_string {W : World} {fuel : Nat} {t : TypeId} {cs : List Value} {bs : List UInt8} {p : List MemPlace} (ht : Tryz.prog.underlying t = some .string) (h : rdL W fuel t cs = some (.lit (.string bs), p)) : cs = [.string ⟨bs.toArray⟩] := by
  obtain ⟨s, h1, h2, _⟩ := DataW.trod_string ht h
  simp at h2
  rw [h1, h2.1]
theorem rd_bool {W : World} {fuel : Nat} {t : TypeId} {cs : List Value} {b : Bool} {p : List MemPlace} (ht : Tryz.prog.underlying t = some .bool) (h : rdL W fuel t cs = some (.lit (.bool b), p)) : cs = [.bool b] := by
  obtain ⟨n, h1, h2⟩ := DataW.trod_bool ht h
  simp at h2
  rw [h1, h2.1]

/-- A slice that reads as these elements: where they lie. -/
theorem rd_slice {W : World} {fuel : Nat} {t e : TypeId} {m : Nat} {cs : List Value} {ds : List (DataW Unit)} {p : List MemPlace} (ht : Tryz.prog.underlying t = some (.slice e)) (hm : Tryz.prog.cellsOf e = m) (hm0 : 0 < m)
    (h : rdL W fuel t cs = some (.slice ds [], p)) (hne : ds ≠ []) :
    ∃ (L o cap : Nat), cs = [.slice (some ⟨L, o, none⟩) ds.length cap] ∧ L < W.heap.size ∧
      ∀ i d, ds[i]? = some d → ∃ (n : Nat) (pl : List MemPlace) (es : List Value), es.length = m ∧ (∀ j, j < m → W.cell? ⟨L, o + i * m + j, none⟩ = es[j]?) ∧ rdL W n e es = some (d, pl) := by
  rcases DataW.trod_slice ht h with ⟨_, hx⟩ | ⟨a, len, cap, elems, rest, n, _, rfl, hx, _, _, _, hlen, hel, _, _⟩
  · simp at hx
  · simp only [Prod.mk.injEq, DataW.slice.injEq] at hx
    obtain ⟨⟨hd, _⟩, _⟩ := hx
    rw [hm] at hel
    have hdl : ds.length = len := by rw [hd, List.length_map]; exact hlen
    have hall : ∀ i d, ds[i]? = some d → ∃ (pl : List MemPlace) (es : List Value), es.length = m ∧ (∀ j, j < m → W.cell? ((a.add (i * m)).add j) = es[j]?) ∧ rdL W n e es = some (d, pl) := by
      intro i d hi
      have hil : i < len := by
        have := (List.getElem?_eq_some_iff.1 hi).1
        omega
      have he := hel i hil
      rw [hd, List.getElem?_map] at hi
      obtain ⟨⟨d', pl⟩, h1, rfl⟩ := Option.map_eq_some_iff.1 hi
      rw [h1] at he
      obtain ⟨es, h2, h3⟩ := Option.bind_eq_some_iff.1 he
      obtain ⟨_, h4, h5⟩ := World.cells?_some h2
      exact ⟨pl, es, h4, h5, h3⟩
    obtain ⟨d0, hd0⟩ : ∃ d0, ds[0]? = some d0 := by
      cases ds with
      | nil => exact absurd rfl hne
      | cons x l => exact ⟨x, rfl⟩
    obtain ⟨_, es0, hl0, hc0, _⟩ := hall 0 d0 hd0
    have h00 := hc0 0 hm0
    have hes : es0[0]? = some es0[0] := List.getElem?_eq_getElem (by omega)
    rw [hes, Nat.zero_mul] at h00
    have ha0 : (a.add 0).add 0 = a := by simp [Addr.add]
    rw [ha0] at h00
    have hspot : a.spot = none := by
      unfold World.cell? at h00
      split at h00
      · split at h00
        · cases h00
        · rename_i hs
          simpa using hs
      · cases h00
    obtain ⟨L, o, sp⟩ := a
    simp only at hspot
    subst hspot
    refine ⟨L, o, cap, by rw [hdl], World.block_lt_of_cell? W _ h00, fun i d hi => ?_⟩
    obtain ⟨pl, es, h1, h2, h3⟩ := hall i d hi
    refine ⟨n, pl, es, h1, fun j hj => ?_, h3⟩
    have h4 := h2 j hj
    have hadd : ((⟨L, o, none⟩ : Addr).add (i * m)).add j = ⟨L, o + i * m + j, none⟩ := by
      unfold Addr.add
      by_cases e1 : i * m = 0 <;> by_cases e2 : j = 0 <;> simp [e1, e2, Nat.add_assoc]
    rwa [hadd] at h4

end Go.Proofs.YtlpkdagdfopchaaGreatDoor
