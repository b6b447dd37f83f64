/- impl.style: the memory of its loop. -/
import Derived.Test.YtmgkolcpomaceaaK24
import Derived.Test.YtmgkolcpomaceaaK14
import Derived.Test.YtmgkolcpomaceaaJ3
import Derived.Deep.AppendLies
namespace Go.Proofs.Ytmgkolcpomaceaa
open Go.RowKit Go.Maps
set_option linter.unusedVariables false
set_option linter.unusedSimpArgs false

/- The map of names that were met. -/
def bPut (D : DataW Unit) (p : Pr) : DataW Unit := D.put (keyL p.1) (.lit (.bool true))
def bOf (l : List Pr) : DataW Unit := l.foldl bPut (.map [])
theorem bOf_snoc (l : List Pr) (p : Pr) : bOf (l ++ [p]) = bPut (bOf l) p := by simp [bOf]
theorem bOf_isMap (l : List Pr) : IsMap (bOf l) := by
  induction l using revInd with
  | nil => exact isMap_empty
  | snoc l p ih => rw [bOf_snoc]; exact put_isMap ih _ _
theorem at_bOf (l : List Pr) (n : ByteArray) (z : DataW Unit) : (bOf l).atKey (keyL n) z = if hasN l n = true then .lit (.bool true) else z := by
  induction l using revInd with
  | nil => rfl
  | snoc l p ih =>
    rw [bOf_snoc, bPut]
    cases h : sameN p.1 n with
    | true =>
      have e : keyL p.1 = keyL n := keyL_inj.2 h
      rw [e, atKey_put_same (bOf_isMap _) (keyL_key n)]
      have : hasN (l ++ [p]) n = true := by simp [hasN, h]
      rw [this]; rfl
    | false =>
      have e : keyL n ≠ keyL p.1 := fun e => by have := keyL_inj.1 e.symm; rw [h] at this; cases this
      rw [atKey_put_other e, ih]
      have : hasN (l ++ [p]) n = hasN l n := by simp [hasN, h]
      rw [this]
theorem under103 : Try.prog.underlying 103 = some (.map 9 4) := by kernel_rfl
theorem zero4 (w : World) : (zeroValue 4).run Try.prog w = .ok (.bool false) w := by kernel_rfl
set_option maxRecDepth 100000 in
theorem elem4 (b : Bool) : plainElem (H := Unit) Try.prog 4 (.bool b) = some (.lit (.bool b), []) := by simp [plainElem, Try.underlying4]
set_option maxRecDepth 100000 in
theorem elem4_inv {v : Value} {z : DataW Unit × List MemPlace} (h : plainElem (H := Unit) Try.prog 4 v = some z) : ∃ b : Bool, v = .bool b ∧ z = (.lit (.bool b), []) := by
  cases v <;> simp [plainElem, Try.underlying4] at h
  rename_i b
  exact ⟨b, rfl, h.symm⟩
def Own103 (w : World) (b n : Nat) (l : List Pr) : Prop := w.ownsMap Try.prog 9 (plainElem (H := Unit) Try.prog 4) b n (bOf l)
theorem wpList_look_own {H : Type} {P : Program} (w : World) {ops : Array Oper} {rest : List Oper} {o : Oper} {a : Act} {Q : Exit → Act → World → Prop}
    (hg : o.guard = none) (m x : Operand) (t : TypeId) (hop : o.op = Op.lookup t m x false)
    (k e : TypeId) (K : Keyed P k) (ht : P.underlying t = some (.map k e)) (R : Value → Option (DataW H × List MemPlace)) {z : Value} (hz : (zeroValue e).run P w = .ok z w) (zd : DataW H) (zp : List MemPlace) (hzd : R z = some (zd, zp)) (b n : Nat) (D : DataW H)
    (hm : a.eval m = .map (some b)) (hown : w.ownsMap P k R b n D) (key : Value) (kl : Lit) (hx : a.eval x = key) (hkey : keyOf P k key = some kl)
    (hK : ∀ v ps, R v = some (D.atKey kl zd, ps) → wpList P ops Q rest (a.put o.dst v) w) :
    wpList P ops Q (o :: rest) a w := by
  refine wpList_plain hg fun K' hK' => ?_
  obtain ⟨v, ps, hrun, hv⟩ := hown.lookup K ht hz hzd hkey
  unfold Oper.wp
  simp [execOp, hop, hm, hx, hrun, Result.andThen]
  exact hK' _ _ (hK v ps hv)

/- What the names say. -/
theorem findN_snoc {l : List Pr} {p : Pr} (hn : hasN l p.1 = false) (n : ByteArray) : findN (l ++ [p]) n = if sameN p.1 n = true then some p else findN l n := by
  rw [findN, List.find?_append]
  cases h : sameN p.1 n with
  | true =>
    have h3 : l.find? (fun q => sameN q.1 n) = none := by
      rw [List.find?_eq_none]
      intro q hq
      rw [hasN, sameN_iff.1 h] at hn
      simpa using List.any_eq_false.1 hn q hq
    rw [h3]; simp [h]
  | false => simp [h, findN]
theorem stS_snoc {l : List Pr} {p : Pr} (hn : hasN l p.1 = false) (i : Nat) : stS (l ++ [p]) i = if sameN p.1 (fieldAt i).1 = true then p.2 else stS l i := by
  rw [stS, findN_snoc hn]
  split <;> rfl
theorem stL_snoc {l : List Pr} {p : Pr} (hn : hasN l p.1 = false) (i : Nat) : stL (l ++ [p]) i = if sameN p.1 (fieldAt i).1 = true then linesB p.2 else stL l i := by
  rw [stL, findN_snoc hn]
  split <;> rfl
theorem fields_apart : ∀ i, i < 17 → ∀ j, j < 17 → i ≠ j → (fieldAt i).1 ≠ (fieldAt j).1 := by decide
theorem other_field {n : ByteArray} {i j : Nat} (hi : i < 17) (hj : j < 17) (hne : i ≠ j) (h : sameN n (fieldAt i).1 = true) : sameN n (fieldAt j).1 = false := by
  rw [Bool.eq_false_iff]
  intro h2
  exact fields_apart i hi j hj hne ((sameN_iff.1 h).symm.trans (sameN_iff.1 h2))

/- The cells of impl.style. -/
structure StyAt (w wx : World) (l m : List Pr) (n : Nat) : Prop where
  res : wx.cell? ⟨w.heap.size, 0, none⟩ = some (.string ⟨#[]⟩)
  rfree : wx.frozen? ⟨w.heap.size, 0, none⟩ = false
  lt : w.heap.size + 2 < wx.heap.size
  im : ∃ A cap, wx.cell? ⟨w.heap.size + 1, 0, none⟩ = some (.slice A (stL l 0).length cap) ∧ StrsAt wx A (stL l 0) ∧ (∀ ad, A = some ad → w.heap.size + 2 < ad.block)
  fm : ∃ A cap, wx.cell? ⟨w.heap.size + 1, 1, none⟩ = some (.slice A (stL l 1).length cap) ∧ StrsAt wx A (stL l 1) ∧ (∀ ad, A = some ad → w.heap.size + 2 < ad.block)
  vs : ∀ i, 2 ≤ i → i < 17 → wx.cell? ⟨w.heap.size + 1, i, none⟩ = some (.string (stS l i))
  fz : ∀ i, i < 17 → wx.frozen? ⟨w.heap.size + 1, i, none⟩ = false
  map : Own103 wx (w.heap.size + 2) n m
  below : Below w.heap.size w wx
theorem StrsAt.far {w w1 : World} {A : Option Addr} {l : List ByteArray} {N : Nat} (h : StrsAt w A l) (hf : ∀ ad, A = some ad → N < ad.block) (hs : w.heap.size ≤ w1.heap.size)
    (hc : ∀ p : Addr, N < p.block → p.block < w.heap.size → w1.cell? p = w.cell? p) : StrsAt w1 A l := fun k hk => by
  obtain ⟨ad, e, hlt, hcl⟩ := h k hk
  have hb : (ad.add k).block = ad.block := add_block _ _
  exact ⟨ad, e, Nat.lt_of_lt_of_le hlt hs, (hc _ (by rw [hb]; exact hf ad e) (by rw [hb]; exact hlt)).trans hcl⟩
/-- All but the map is as it was. -/
theorem StyAt.turn {w wx wy : World} {l m m' : List Pr} {n n' : Nat} (h : StyAt w wx l m n) (hs : wx.heap.size ≤ wy.heap.size)
    (hc : ∀ p : Addr, p.block ≠ w.heap.size + 2 → p.block < wx.heap.size → wy.cell? p = wx.cell? p) (hf : ∀ p : Addr, p.block ≠ w.heap.size + 2 → p.block < wx.heap.size → wy.frozen? p = wx.frozen? p)
    (hm : Own103 wy (w.heap.size + 2) n' m') (hb : Below w.heap.size w wy) : StyAt w wy l m' n' := by
  have hlt := h.lt
  obtain ⟨A, cap, h1, h2, h3⟩ := h.im
  obtain ⟨A', cap', h1', h2', h3'⟩ := h.fm
  refine ⟨(hc _ (by simp) (by simp; omega)).trans h.res, (hf _ (by simp) (by simp; omega)).trans h.rfree, by omega,
    ⟨A, cap, (hc _ (by simp) (by simp; omega)).trans h1, h2.far h3 hs (fun p hp hq => hc p (by omega) hq), h3⟩,
    ⟨A', cap', (hc _ (by simp) (by simp; omega)).trans h1', h2'.far h3' hs (fun p hp hq => hc p (by omega) hq), h3'⟩,
    fun i hi hi2 => (hc _ (by simp) (by simp; omega)).trans (h.vs i hi hi2), fun i hi => (hf _ (by simp) (by simp; omega)).trans (h.fz i hi), hm, hb⟩
theorem Own103.below {w w' : World} {b n : Nat} {l : List Pr} (h : Own103 w b n l) (hb : Below w.heap.size w w') : Own103 w' b n l := by
  have hlt : b < w.heap.size := World.ownsMap.lt h
  obtain ⟨es, clock, hh, F, hs, hD⟩ := h
  exact ⟨es, clock, (hb.block b hlt).trans hh, F, hs, hD⟩
theorem StyAt.on {w wx wy : World} {l m : List Pr} {n : Nat} (h : StyAt w wx l m n) (hb : Below wx.heap.size wx wy) : StyAt w wy l m n :=
  h.turn hb.size (fun p _ hp => hb.cell hp) (fun p _ hp => hb.frozen hp) (Own103.below h.map hb) (below_then h.below h.below.size hb)
theorem StyAt.mapped {w wx wy : World} {l m m' : List Pr} {n n' : Nat} (h : StyAt w wx l m n) (hm : Own103 wy (w.heap.size + 2) n' m') (hg : wx.grownBy wy (some (w.heap.size + 2))) : StyAt w wy l m' n' :=
  h.turn hg.size (fun p hp hq => hg.cell_far p hq (by simpa using hp)) (fun p hp hq => hg.frozen_far p hq (by simpa using hp)) hm
    (h.below.grown hg h.below.size (fun j hj => by cases hj; omega))
theorem Own103.set {w : World} {b n : Nat} {l : List Pr} (h : Own103 w b n l) (g i : Nat) (hne : b ≠ g) (v : Value) : Own103 (w.setCell ⟨g, i, none⟩ v) b n l := by
  obtain ⟨es, clock, hh, F, hs, hD⟩ := h
  exact ⟨es, clock, (Below.heap_setCell w ⟨g, i, none⟩ v b hne).trans hh, F, hs, hD⟩
theorem size_setCell' (w : World) (a : Addr) (v : Value) : (w.setCell a v).heap.size = w.heap.size := by simp [World.setCell]
theorem set_far (w : World) (g i : Nat) (v : Value) (p : Addr) (h : p.block ≠ g) : (w.setCell ⟨g, i, none⟩ v).cell? p = w.cell? p :=
  World.cell?_setCell_other _ _ _ _ (by intro e; rw [← e] at h; exact h rfl)
theorem set_near (w : World) (g i j : Nat) (v : Value) (h : i ≠ j) : (w.setCell ⟨g, i, none⟩ v).cell? ⟨g, j, none⟩ = w.cell? ⟨g, j, none⟩ :=
  World.cell?_setCell_other _ _ _ _ (by intro e; simp only [Addr.mk.injEq] at e; exact h e.2.1)
theorem StrsAt.set {w : World} {A : Option Addr} {l : List ByteArray} {N : Nat} (h : StrsAt w A l) (hf : ∀ ad, A = some ad → N + 2 < ad.block) (i : Nat) (v : Value) : StrsAt (w.setCell ⟨N + 1, i, none⟩ v) A l :=
  h.far hf (by rw [size_setCell']; exact Nat.le_refl _) (fun p hp _ => set_far _ _ _ _ _ (by omega))
/-- A text is laid into a cell of one text. -/
theorem StyAt.setS {w wx : World} {l m : List Pr} {n : Nat} (h : StyAt w wx l m n) {p : Pr} (hn : hasN l p.1 = false) {i : Nat} (hi : 2 ≤ i) (hi2 : i < 17) (hs : sameN p.1 (fieldAt i).1 = true) :
    StyAt w (wx.setCell ⟨w.heap.size + 1, i, none⟩ (.string p.2)) (l ++ [p]) m n := by
  have hlt := h.lt
  obtain ⟨A, cap, h1, h2, h3⟩ := h.im
  obtain ⟨A', cap', h1', h2', h3'⟩ := h.fm
  have s0 : stL (l ++ [p]) 0 = stL l 0 := by rw [stL_snoc hn, other_field hi2 (by decide) (by omega) hs]; rfl
  have s1 : stL (l ++ [p]) 1 = stL l 1 := by rw [stL_snoc hn, other_field hi2 (by decide) (by omega) hs]; rfl
  refine ⟨?_, ?_, by rw [size_setCell']; exact hlt, ⟨A, cap, ?_, ?_, h3⟩, ⟨A', cap', ?_, ?_, h3'⟩, ?_, ?_, h.map.set _ _ (by omega) _, h.below.setCell (by simp) _⟩
  · rw [set_far _ _ _ _ _ (by simp)]; exact h.res
  · rw [World.frozen?_setCell]; exact h.rfree
  · rw [set_near _ _ _ _ _ (by omega), s0]; exact h1
  · rw [s0]; exact h2.set h3 _ _
  · rw [set_near _ _ _ _ _ (by omega), s1]; exact h1'
  · rw [s1]; exact h2'.set h3' _ _
  · intro j hj hj2
    by_cases hij : i = j
    · subst hij
      rw [World.cell?_setCell_same _ _ _ (h.vs i hj hj2), stS_snoc hn, if_pos hs]
    · rw [set_near _ _ _ _ _ hij, stS_snoc hn, other_field hi2 hj2 hij hs]; exact h.vs j hj hj2
  · intro j hj; rw [World.frozen?_setCell]; exact h.fz j hj
/-- A list is laid into the cell of pictures. -/
theorem StyAt.set0 {w wx : World} {l m : List Pr} {n : Nat} (h : StyAt w wx l m n) {p : Pr} (hn : hasN l p.1 = false) (hs : sameN p.1 (fieldAt 0).1 = true) {A : Option Addr} {cap : Nat} (hA : StrsAt wx A (linesB p.2)) (hA3 : ∀ ad, A = some ad → w.heap.size + 2 < ad.block) :
    StyAt w (wx.setCell ⟨w.heap.size + 1, 0, none⟩ (.slice A (linesB p.2).length cap)) (l ++ [p]) m n := by
  have hlt := h.lt
  obtain ⟨_, _, h1, _, _⟩ := h.im
  obtain ⟨A', cap', h1', h2', h3'⟩ := h.fm
  have s0 : stL (l ++ [p]) 0 = linesB p.2 := by rw [stL_snoc hn, if_pos hs]
  have s1 : stL (l ++ [p]) 1 = stL l 1 := by rw [stL_snoc hn, other_field (by decide) (by decide) (by decide) hs]; rfl
  refine ⟨?_, ?_, by rw [size_setCell']; exact hlt, ⟨A, cap, ?_, ?_, hA3⟩, ⟨A', cap', ?_, ?_, h3'⟩, ?_, ?_, h.map.set _ _ (by omega) _, h.below.setCell (by simp) _⟩
  · rw [set_far _ _ _ _ _ (by simp)]; exact h.res
  · rw [World.frozen?_setCell]; exact h.rfree
  · rw [World.cell?_setCell_same _ _ _ h1, s0]
  · rw [s0]; exact hA.set hA3 _ _
  · rw [set_near _ _ _ _ _ (by omega), s1]; exact h1'
  · rw [s1]; exact h2'.set h3' _ _
  · intro j hj hj2
    rw [set_near _ _ _ _ _ (by omega), stS_snoc hn, other_field (by decide) hj2 (by omega) hs]; exact h.vs j hj hj2
  · intro j hj; rw [World.frozen?_setCell]; exact h.fz j hj
theorem StyAt.set1 {w wx : World} {l m : List Pr} {n : Nat} (h : StyAt w wx l m n) {p : Pr} (hn : hasN l p.1 = false) (hs : sameN p.1 (fieldAt 1).1 = true) {A : Option Addr} {cap : Nat} (hA : StrsAt wx A (linesB p.2)) (hA3 : ∀ ad, A = some ad → w.heap.size + 2 < ad.block) :
    StyAt w (wx.setCell ⟨w.heap.size + 1, 1, none⟩ (.slice A (linesB p.2).length cap)) (l ++ [p]) m n := by
  have hlt := h.lt
  obtain ⟨A', cap', h1', h2', h3'⟩ := h.im
  obtain ⟨_, _, h1, _, _⟩ := h.fm
  have s1 : stL (l ++ [p]) 1 = linesB p.2 := by rw [stL_snoc hn, if_pos hs]
  have s0 : stL (l ++ [p]) 0 = stL l 0 := by rw [stL_snoc hn, other_field (by decide) (by decide) (by decide) hs]; rfl
  refine ⟨?_, ?_, by rw [size_setCell']; exact hlt, ⟨A', cap', ?_, ?_, h3'⟩, ⟨A, cap, ?_, ?_, hA3⟩, ?_, ?_, h.map.set _ _ (by omega) _, h.below.setCell (by simp) _⟩
  · rw [set_far _ _ _ _ _ (by simp)]; exact h.res
  · rw [World.frozen?_setCell]; exact h.rfree
  · rw [set_near _ _ _ _ _ (by omega), s0]; exact h1'
  · rw [s0]; exact h2'.set h3' _ _
  · rw [World.cell?_setCell_same _ _ _ h1, s1]
  · rw [s1]; exact hA.set hA3 _ _
  · intro j hj hj2
    rw [set_near _ _ _ _ _ (by omega), stS_snoc hn, other_field (by decide) hj2 (by omega) hs]; exact h.vs j hj hj2
  · intro j hj; rw [World.frozen?_setCell]; exact h.fz j hj

/- Which name has which place. -/
theorem same_of (n : ByteArray) (L : List UInt8) (j : Nat) (h1 : (fieldAt j).1.data.toList = L) : (n.toList == L) = sameN n (fieldAt j).1 := by
  rw [sameN, ByteArray.toList_eq (fieldAt j).1, h1]
set_option maxRecDepth 100000 in
theorem fieldIx_some {n : ByteArray} {i : Nat} (h : fieldIx n = some i) : 2 ≤ i ∧ i < 17 ∧ sameN n (fieldAt i).1 = true := by
  unfold fieldIx at h
  by_cases c2 : (n.toList == [68, 105, 115, 112, 108, 97, 121]) = true
  · rw [if_pos c2] at h
    obtain rfl := Option.some.inj h
    exact ⟨by decide, by decide, by rw [← same_of n [68, 105, 115, 112, 108, 97, 121] 2 rfl]; exact c2⟩
  rw [if_neg c2] at h
  by_cases c3 : (n.toList == [66, 97, 99, 107, 103, 114, 111, 117, 110, 100, 67, 111, 108, 111, 114]) = true
  · rw [if_pos c3] at h
    obtain rfl := Option.some.inj h
    exact ⟨by decide, by decide, by rw [← same_of n [66, 97, 99, 107, 103, 114, 111, 117, 110, 100, 67, 111, 108, 111, 114] 3 rfl]; exact c3⟩
  rw [if_neg c3] at h
  by_cases c4 : (n.toList == [66, 97, 99, 107, 103, 114, 111, 117, 110, 100, 80, 111, 115, 105, 116, 105, 111, 110]) = true
  · rw [if_pos c4] at h
    obtain rfl := Option.some.inj h
    exact ⟨by decide, by decide, by rw [← same_of n [66, 97, 99, 107, 103, 114, 111, 117, 110, 100, 80, 111, 115, 105, 116, 105, 111, 110] 4 rfl]; exact c4⟩
  rw [if_neg c4] at h
  by_cases c5 : (n.toList == [66, 97, 99, 107, 103, 114, 111, 117, 110, 100, 82, 101, 112, 101, 97, 116]) = true
  · rw [if_pos c5] at h
    obtain rfl := Option.some.inj h
    exact ⟨by decide, by decide, by rw [← same_of n [66, 97, 99, 107, 103, 114, 111, 117, 110, 100, 82, 101, 112, 101, 97, 116] 5 rfl]; exact c5⟩
  rw [if_neg c5] at h
  by_cases c6 : (n.toList == [66, 97, 99, 107, 103, 114, 111, 117, 110, 100, 83, 105, 122, 101]) = true
  · rw [if_pos c6] at h
    obtain rfl := Option.some.inj h
    exact ⟨by decide, by decide, by rw [← same_of n [66, 97, 99, 107, 103, 114, 111, 117, 110, 100, 83, 105, 122, 101] 6 rfl]; exact c6⟩
  rw [if_neg c6] at h
  by_cases c7 : (n.toList == [67, 111, 108, 111, 114]) = true
  · rw [if_pos c7] at h
    obtain rfl := Option.some.inj h
    exact ⟨by decide, by decide, by rw [← same_of n [67, 111, 108, 111, 114] 7 rfl]; exact c7⟩
  rw [if_neg c7] at h
  by_cases c8 : (n.toList == [72, 101, 105, 103, 104, 116]) = true
  · rw [if_pos c8] at h
    obtain rfl := Option.some.inj h
    exact ⟨by decide, by decide, by rw [← same_of n [72, 101, 105, 103, 104, 116] 8 rfl]; exact c8⟩
  rw [if_neg c8] at h
  by_cases c9 : (n.toList == [87, 105, 100, 116, 104]) = true
  · rw [if_pos c9] at h
    obtain rfl := Option.some.inj h
    exact ⟨by decide, by decide, by rw [← same_of n [87, 105, 100, 116, 104] 9 rfl]; exact c9⟩
  rw [if_neg c9] at h
  by_cases c10 : (n.toList == [76, 101, 102, 116]) = true
  · rw [if_pos c10] at h
    obtain rfl := Option.some.inj h
    exact ⟨by decide, by decide, by rw [← same_of n [76, 101, 102, 116] 10 rfl]; exact c10⟩
  rw [if_neg c10] at h
  by_cases c11 : (n.toList == [82, 105, 103, 104, 116]) = true
  · rw [if_pos c11] at h
    obtain rfl := Option.some.inj h
    exact ⟨by decide, by decide, by rw [← same_of n [82, 105, 103, 104, 116] 11 rfl]; exact c11⟩
  rw [if_neg c11] at h
  by_cases c12 : (n.toList == [84, 111, 112]) = true
  · rw [if_pos c12] at h
    obtain rfl := Option.some.inj h
    exact ⟨by decide, by decide, by rw [← same_of n [84, 111, 112] 12 rfl]; exact c12⟩
  rw [if_neg c12] at h
  by_cases c13 : (n.toList == [66, 111, 116, 116, 111, 109]) = true
  · rw [if_pos c13] at h
    obtain rfl := Option.some.inj h
    exact ⟨by decide, by decide, by rw [← same_of n [66, 111, 116, 116, 111, 109] 13 rfl]; exact c13⟩
  rw [if_neg c13] at h
  by_cases c14 : (n.toList == [70, 111, 110, 116, 87, 101, 105, 103, 104, 116]) = true
  · rw [if_pos c14] at h
    obtain rfl := Option.some.inj h
    exact ⟨by decide, by decide, by rw [← same_of n [70, 111, 110, 116, 87, 101, 105, 103, 104, 116] 14 rfl]; exact c14⟩
  rw [if_neg c14] at h
  by_cases c15 : (n.toList == [80, 97, 100, 100, 105, 110, 103]) = true
  · rw [if_pos c15] at h
    obtain rfl := Option.some.inj h
    exact ⟨by decide, by decide, by rw [← same_of n [80, 97, 100, 100, 105, 110, 103] 15 rfl]; exact c15⟩
  rw [if_neg c15] at h
  by_cases c16 : (n.toList == [90, 73, 110, 100, 101, 120]) = true
  · rw [if_pos c16] at h
    obtain rfl := Option.some.inj h
    exact ⟨by decide, by decide, by rw [← same_of n [90, 73, 110, 100, 101, 120] 16 rfl]; exact c16⟩
  rw [if_neg c16] at h
  exact absurd h (by simp)
theorem not_in {p : Pr} (h : ∀ j, j < 17 → sameN p.1 (fieldAt j).1 = false) : inFields p = false := by
  rw [inFields, List.any_eq_false]
  intro f hf
  obtain ⟨j, hj, rfl⟩ := List.mem_iff_getElem.1 hf
  have hj' : j < 17 := hj
  have e : fieldAt j = fieldsL[j] := by rw [fieldAt, List.getD_eq_getElem?_getD, List.getElem?_eq_getElem hj]; rfl
  have := h j hj'
  rw [e] at this
  exact Bool.eq_false_iff.1 this
set_option maxRecDepth 100000 in
theorem fieldIx_none {p : Pr} (h0 : sameN p.1 (fieldAt 0).1 = false) (h1 : sameN p.1 (fieldAt 1).1 = false) (h : fieldIx p.1 = none) : inFields p = false := by
  unfold fieldIx at h
  by_cases c2 : (p.1.toList == [68, 105, 115, 112, 108, 97, 121]) = true
  · rw [if_pos c2] at h; exact absurd h (by simp)
  rw [if_neg c2] at h
  rw [same_of p.1 [68, 105, 115, 112, 108, 97, 121] 2 rfl, Bool.not_eq_true] at c2
  by_cases c3 : (p.1.toList == [66, 97, 99, 107, 103, 114, 111, 117, 110, 100, 67, 111, 108, 111, 114]) = true
  · rw [if_pos c3] at h; exact absurd h (by simp)
  rw [if_neg c3] at h
  rw [same_of p.1 [66, 97, 99, 107, 103, 114, 111, 117, 110, 100, 67, 111, 108, 111, 114] 3 rfl, Bool.not_eq_true] at c3
  by_cases c4 : (p.1.toList == [66, 97, 99, 107, 103, 114, 111, 117, 110, 100, 80, 111, 115, 105, 116, 105, 111, 110]) = true
  · rw [if_pos c4] at h; exact absurd h (by simp)
  rw [if_neg c4] at h
  rw [same_of p.1 [66, 97, 99, 107, 103, 114, 111, 117, 110, 100, 80, 111, 115, 105, 116, 105, 111, 110] 4 rfl, Bool.not_eq_true] at c4
  by_cases c5 : (p.1.toList == [66, 97, 99, 107, 103, 114, 111, 117, 110, 100, 82, 101, 112, 101, 97, 116]) = true
  · rw [if_pos c5] at h; exact absurd h (by simp)
  rw [if_neg c5] at h
  rw [same_of p.1 [66, 97, 99, 107, 103, 114, 111, 117, 110, 100, 82, 101, 112, 101, 97, 116] 5 rfl, Bool.not_eq_true] at c5
  by_cases c6 : (p.1.toList == [66, 97, 99, 107, 103, 114, 111, 117, 110, 100, 83, 105, 122, 101]) = true
  · rw [if_pos c6] at h; exact absurd h (by simp)
  rw [if_neg c6] at h
  rw [same_of p.1 [66, 97, 99, 107, 103, 114, 111, 117, 110, 100, 83, 105, 122, 101] 6 rfl, Bool.not_eq_true] at c6
  by_cases c7 : (p.1.toList == [67, 111, 108, 111, 114]) = true
  · rw [if_pos c7] at h; exact absurd h (by simp)
  rw [if_neg c7] at h
  rw [same_of p.1 [67, 111, 108, 111, 114] 7 rfl, Bool.not_eq_true] at c7
  by_cases c8 : (p.1.toList == [72, 101, 105, 103, 104, 116]) = true
  · rw [if_pos c8] at h; exact absurd h (by simp)
  rw [if_neg c8] at h
  rw [same_of p.1 [72, 101, 105, 103, 104, 116] 8 rfl, Bool.not_eq_true] at c8
  by_cases c9 : (p.1.toList == [87, 105, 100, 116, 104]) = true
  · rw [if_pos c9] at h; exact absurd h (by simp)
  rw [if_neg c9] at h
  rw [same_of p.1 [87, 105, 100, 116, 104] 9 rfl, Bool.not_eq_true] at c9
  by_cases c10 : (p.1.toList == [76, 101, 102, 116]) = true
  · rw [if_pos c10] at h; exact absurd h (by simp)
  rw [if_neg c10] at h
  rw [same_of p.1 [76, 101, 102, 116] 10 rfl, Bool.not_eq_true] at c10
  by_cases c11 : (p.1.toList == [82, 105, 103, 104, 116]) = true
  · rw [if_pos c11] at h; exact absurd h (by simp)
  rw [if_neg c11] at h
  rw [same_of p.1 [82, 105, 103, 104, 116] 11 rfl, Bool.not_eq_true] at c11
  by_cases c12 : (p.1.toList == [84, 111, 112]) = true
  · rw [if_pos c12] at h; exact absurd h (by simp)
  rw [if_neg c12] at h
  rw [same_of p.1 [84, 111, 112] 12 rfl, Bool.not_eq_true] at c12
  by_cases c13 : (p.1.toList == [66, 111, 116, 116, 111, 109]) = true
  · rw [if_pos c13] at h; exact absurd h (by simp)
  rw [if_neg c13] at h
  rw [same_of p.1 [66, 111, 116, 116, 111, 109] 13 rfl, Bool.not_eq_true] at c13
  by_cases c14 : (p.1.toList == [70, 111, 110, 116, 87, 101, 105, 103, 104, 116]) = true
  · rw [if_pos c14] at h; exact absurd h (by simp)
  rw [if_neg c14] at h
  rw [same_of p.1 [70, 111, 110, 116, 87, 101, 105, 103, 104, 116] 14 rfl, Bool.not_eq_true] at c14
  by_cases c15 : (p.1.toList == [80, 97, 100, 100, 105, 110, 103]) = true
  · rw [if_pos c15] at h; exact absurd h (by simp)
  rw [if_neg c15] at h
  rw [same_of p.1 [80, 97, 100, 100, 105, 110, 103] 15 rfl, Bool.not_eq_true] at c15
  by_cases c16 : (p.1.toList == [90, 73, 110, 100, 101, 120]) = true
  · rw [if_pos c16] at h; exact absurd h (by simp)
  rw [if_neg c16] at h
  rw [same_of p.1 [90, 73, 110, 100, 101, 120] 16 rfl, Bool.not_eq_true] at c16
  refine not_in fun j hj => ?_
  obtain rfl | rfl | rfl | rfl | rfl | rfl | rfl | rfl | rfl | rfl | rfl | rfl | rfl | rfl | rfl | rfl | rfl : j = 0 ∨ j = 1 ∨ j = 2 ∨ j = 3 ∨ j = 4 ∨ j = 5 ∨ j = 6 ∨ j = 7 ∨ j = 8 ∨ j = 9 ∨ j = 10 ∨ j = 11 ∨ j = 12 ∨ j = 13 ∨ j = 14 ∨ j = 15 ∨ j = 16 := by omega
  · exact h0
  · exact h1
  · exact c2
  · exact c3
  · exact c4
  · exact c5
  · exact c6
  · exact c7
  · exact c8
  · exact c9
  · exact c10
  · exact c11
  · exact c12
  · exact c13
  · exact c14
  · exact c15
  · exact c16
end Go.Proofs.Ytmgkolcpomaceaa
