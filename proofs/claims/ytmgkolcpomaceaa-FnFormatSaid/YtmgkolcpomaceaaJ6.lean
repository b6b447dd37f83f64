/- trustedResourceURLFormat: what it makes of a marker. -/
import Derived.Test.YtmgkolcpomaceaaJ5
import Derived.Test.YtmgkolcpomaceaaH6
namespace Go.Proofs.Ytmgkolcpomaceaa
open Go.RowKit Go.Maps
set_option linter.unusedVariables false
set_option linter.unusedSimpArgs false

/-- The variables of a format's call: the map (place g1), the error (g2), the result (g4). -/
structure FSt (w : World) (g1 g2 g4 b n : Nat) (l : List Pr) (ev : Value) : Prop where
  c1 : w.cell? ⟨g1, 0, none⟩ = some (.map (some b))
  c2 : w.cell? ⟨g2, 0, none⟩ = some ev
  f2 : w.frozen? ⟨g2, 0, none⟩ = false
  c4 : w.cell? ⟨g4, 0, none⟩ = some (.string ⟨#[]⟩)
  f4 : w.frozen? ⟨g4, 0, none⟩ = false
  own : Own79 w b n l
  h1 : g1 < w.heap.size
  h2 : g2 < w.heap.size
  h4 : g4 < w.heap.size
  n12 : g1 ≠ g2
  n42 : g4 ≠ g2
  nb2 : b ≠ g2
theorem Own79.below {w w' : World} {b n : Nat} {l : List Pr} (h : Own79 w b n l) (hb : Below w.heap.size w w') : Own79 w' b n l := by
  have hlt : b < w.heap.size := World.ownsMap.lt h
  obtain ⟨es, clock, hh, F, hs, hD⟩ := h
  exact ⟨es, clock, (hb.block b hlt).trans hh, F, hs, hD⟩
theorem Own79.set {w : World} {b n : Nat} {l : List Pr} (h : Own79 w b n l) (g : Nat) (hne : b ≠ g) (v : Value) : Own79 (w.setCell ⟨g, 0, none⟩ v) b n l := by
  obtain ⟨es, clock, hh, F, hs, hD⟩ := h
  exact ⟨es, clock, (Below.heap_setCell w ⟨g, 0, none⟩ v b hne).trans hh, F, hs, hD⟩
theorem FSt.below {w w' : World} {g1 g2 g4 b n : Nat} {l : List Pr} {ev : Value} (h : FSt w g1 g2 g4 b n l ev) (hb : Below w.heap.size w w') : FSt w' g1 g2 g4 b n l ev :=
  ⟨(hb.cell h.h1).trans h.c1, (hb.cell h.h2).trans h.c2, (hb.frozen h.h2).trans h.f2, (hb.cell h.h4).trans h.c4, (hb.frozen h.h4).trans h.f4, h.own.below hb,
   Nat.lt_of_lt_of_le h.h1 hb.size, Nat.lt_of_lt_of_le h.h2 hb.size, Nat.lt_of_lt_of_le h.h4 hb.size, h.n12, h.n42, h.nb2⟩
theorem size_setCell (w : World) (a : Addr) (v : Value) : (w.setCell a v).heap.size = w.heap.size := by simp [World.setCell]
theorem FSt.set {w : World} {g1 g2 g4 b n : Nat} {l : List Pr} {ev : Value} (h : FSt w g1 g2 g4 b n l ev) (ev' : Value) : FSt (w.setCell ⟨g2, 0, none⟩ ev') g1 g2 g4 b n l ev' :=
  ⟨by rw [World.cell?_setCell_other _ _ _ _ (by intro e; simp only [Addr.mk.injEq] at e; exact h.n12 e.1.symm)]; exact h.c1,
   World.cell?_setCell_same _ _ _ h.c2,
   by rw [World.frozen?_setCell]; exact h.f2,
   by rw [World.cell?_setCell_other _ _ _ _ (by intro e; simp only [Addr.mk.injEq] at e; exact h.n42 e.1.symm)]; exact h.c4,
   by rw [World.frozen?_setCell]; exact h.f4,
   h.own.set g2 h.nb2 ev', by rw [size_setCell]; exact h.h1, by rw [size_setCell]; exact h.h2, by rw [size_setCell]; exact h.h4, h.n12, h.n42, h.nb2⟩
def IsErr (ev : Value) : Prop := ∃ a : Addr, ev = .iface 110 (.pointer (some a))
theorem has_find (l : List Pr) (n : ByteArray) : hasN l n = (findN l n).isSome := by
  rw [Bool.eq_iff_iff, hasN, List.any_eq_true, findN, List.find?_isSome]
theorem look_some {l : List Pr} {n : ByteArray} {q : Pr} {v : Value} {zd : DataW Unit} {ps : List MemPlace} (hfr : Fresh l) (hf : findN l n = some q) (hv : plainElem (H := Unit) Try.prog 9 v = some ((dOf l).atKey (keyL n) zd, ps)) : v = .string q.2 := by
  obtain ⟨s', rfl, hz⟩ := elem9_inv hv
  rw [at_dOf l hfr n zd, hf] at hz
  simp only [valD, Prod.mk.injEq, DataW.lit.injEq, Lit.string.injEq] at hz
  rw [WideShapes.bytes_inj hz.1]
/-- What is made of a marker whose label is n. -/
def MarkPost (l : List Pr) (n : ByteArray) (g1 g2 g4 b m : Nat) (ev : Value) (B : Nat) (w : World) (e : Ending) (w' : World) : Prop :=
  ∃ (r : ByteArray) (ev' : Value), e = .returned (.string r) ∧ FSt w' g1 g2 g4 b m l ev' ∧ Below B w w' ∧ r.size ≤ 600 ∧
    (match valOf l n.data.toList with
     | some v => r.data.toList = v ∧ ev' = ev
     | none => IsErr ev')

set_option maxHeartbeats 16000000 in
set_option maxRecDepth 100000 in
theorem marker_calls (x n : ByteArray) (l : List Pr) (g1 g2 g4 b m B : Nat) (ev : Value) (w : World) (hok : pairsOkB l = true) (hx : x.size ≤ 200) (h3 : 3 ≤ x.size) (hn : x.extract 2 (x.size - 1) = n)
    (hst : Hid (FSt w g1 g2 g4 b m l ev)) (hev : ev = .nilIface ∨ IsErr ev) (hBg : B ≤ g2) (hBw : B ≤ w.heap.size) :
    Calls Try.prog 155 #[.string x, .pointer (some ⟨g1, 0, none⟩), .pointer (some ⟨g2, 0, none⟩)] w (MarkPost l n g1 g2 g4 b m ev B w) := by
  have hns : n.size ≤ 200 := by rw [← hn]; simp [ByteArray.size_extract]; omega
  have HOk := Lib.hid (okP_of_ok hok)
  have HFr := Lib.hid (fresh_of_ok hok)
  have HN := Lib.hid (show (⟨n.data.toList.toArray⟩ : ByteArray) = n from WideShapes.bytes_inj (by simp))
  have HK := Lib.hid (key9 n (by omega))
  have HE0 := Lib.hid (elem9 ⟨#[]⟩ (by decide))
  have HHas := Lib.hid (show has (dOf l) (keyL n) = (findN l n).isSome by rw [has_dOf, has_find])
  have HAt := Lib.hid (at_dOf l HFr.out n)
  have hc1 := hst.out.c1
  have hc2 := hst.out.c2
  have hf2 := hst.out.f2
  have Hn := Lib.hid hn
  clear hok hn
  cases hfn : findN l n with
  | none =>
    have HFn := Lib.hid hfn
    have HVal := Lib.hid (show valOf l n.data.toList = none by rw [valOf, HN.out, hfn])
    clear hfn
    rcases hev with rfl | ⟨a, rfl⟩
    · go_enter Try.func155, Try.ntmps155
      go_wp2_with (at_lookup; rw [Hn.out]; refine wpList_lookup_own_ok _ rfl _ _ 79 rfl 9 9 law9 under79 _ (zero9 _) _ [] HE0.out b m _ rfl hst.out.own _ _ rfl HK.out ?_; rw [HHas.out, HFn.out]; intro v ps hv)
      refine (errNew_calls _ _).mono ?_
      rintro e w1 ⟨rfl, hb⟩
      have hst1 := Lib.hid (hst.out.below hb)
      have hB1 := Lib.hid (show Below B w w1 from hb.mono hBw)
      clear hb hc1 hc2 hf2
      have hc2 := hst1.out.c2
      have hf2 := hst1.out.f2
      go_wp2_with fail
      go_ret
      exact ⟨⟨#[]⟩, _, rfl, hst1.out.set _, hB1.out.setCell (p := ⟨g2, 0, none⟩) hBg _, by decide, by rw [HVal.out]; exact ⟨_, rfl⟩⟩
    · go_enter Try.func155, Try.ntmps155
      go_wp2_with (at_lookup; rw [Hn.out]; refine wpList_lookup_own_ok _ rfl _ _ 79 rfl 9 9 law9 under79 _ (zero9 _) _ [] HE0.out b m _ rfl hst.out.own _ _ rfl HK.out ?_; rw [HHas.out, HFn.out]; intro v ps hv)
      go_ret
      exact ⟨⟨#[]⟩, _, rfl, hst.out, Below.refl _ _, by decide, by rw [HVal.out]; exact ⟨_, rfl⟩⟩
  | some q =>
    have HFn := Lib.hid hfn
    have hq : okP q = true := HOk.out q (List.mem_of_find?_eq_some hfn)
    have hqs : q.2.size ≤ 200 := by simp [okP, smallB] at hq; omega
    have hqa : Hid (asciiB q.2 = true) := by have := hq; simp [okP] at this; exact this.2.1
    clear hq hfn
    cases hup : upwardsL q.2.data.toList with
    | true =>
      have HUp := Lib.hid hup
      have HVal := Lib.hid (show valOf l n.data.toList = none by rw [valOf, HN.out, HFn.out]; simp [hup])
      clear hup
      go_enter Try.func155, Try.ntmps155
      go_wp2_with (at_lookup; rw [Hn.out]; refine wpList_lookup_own_ok _ rfl _ _ 79 rfl 9 9 law9 under79 _ (zero9 _) _ [] HE0.out b m _ rfl hst.out.own _ _ rfl HK.out ?_; rw [HHas.out, HFn.out]; intro v ps hv; have hvq := look_some HFr.out HFn.out hv; subst hvq; clear hv)
      refine (dotDot_calls q.2 _ (by omega) hqa).mono ?_
      rw [HUp.out]
      rintro e w1 ⟨rfl, hb⟩
      have hst1 := Lib.hid (hst.out.below hb)
      have hB1 := Lib.hid (show Below B w w1 from hb.mono hBw)
      have hB1s := Nat.le_trans hBw hb.size
      clear hb hc1 hc2 hf2
      have hadd1 : (ByteArray.mk #[97, 114, 103, 117, 109, 101, 110, 116, 32]).size + n.size ≤ 9223372036854775807 := by rw [show (ByteArray.mk #[97, 114, 103, 117, 109, 101, 110, 116, 32]).size = 9 from rfl]; omega
      have hadd2 : (ByteArray.mk #[97, 114, 103, 117, 109, 101, 110, 116, 32] ++ n).size + (ByteArray.mk #[32, 109, 117, 115, 116, 32, 110, 111, 116, 32, 99, 111, 110, 116, 97, 105, 110, 32, 46, 46]).size ≤ 9223372036854775807 := by
        rw [ByteArray.size_append, show (ByteArray.mk #[97, 114, 103, 117, 109, 101, 110, 116, 32]).size = 9 from rfl, show (ByteArray.mk #[32, 109, 117, 115, 116, 32, 110, 111, 116, 32, 99, 111, 110, 116, 97, 105, 110, 32, 46, 46]).size = 20 from rfl]; omega
      go_wp2_with fail
      refine (errNew_calls _ _).mono ?_
      rintro e w2 ⟨rfl, hb⟩
      have hst2 := Lib.hid (hst1.out.below hb)
      have hB2 := Lib.hid (show Below B w w2 from hB1.out.trans (hb.mono hB1s))
      clear hb
      have hc2 := hst2.out.c2
      have hf2 := hst2.out.f2
      go_wp2_with fail
      go_ret
      exact ⟨⟨#[]⟩, _, rfl, hst2.out.set _, hB2.out.setCell (p := ⟨g2, 0, none⟩) hBg _, by decide, by rw [HVal.out]; exact ⟨_, rfl⟩⟩
    | false =>
      have HUp := Lib.hid hup
      have HVal := Lib.hid (show valOf l n.data.toList = some (pctL q.2.data.toList) by rw [valOf, HN.out, HFn.out]; simp [hup])
      clear hup
      have hpl := pctL_len q.2.data.toList
      have hXs : (ByteArray.mk (pctL q.2.data.toList).toArray).size ≤ 600 := by
        have e : (ByteArray.mk (pctL q.2.data.toList).toArray).size = (pctL q.2.data.toList).length := by show (pctL q.2.data.toList).toArray.size = _; simp
        simp at hpl
        rw [e]; omega
      clear hpl
      go_enter Try.func155, Try.ntmps155
      go_wp2_with (at_lookup; rw [Hn.out]; refine wpList_lookup_own_ok _ rfl _ _ 79 rfl 9 9 law9 under79 _ (zero9 _) _ [] HE0.out b m _ rfl hst.out.own _ _ rfl HK.out ?_; rw [HHas.out, HFn.out]; intro v ps hv; have hvq := look_some HFr.out HFn.out hv; subst hvq; clear hv)
      refine (dotDot_calls q.2 _ (by omega) hqa).mono ?_
      rw [HUp.out]
      rintro e w1 ⟨rfl, hb⟩
      have hst1 := Lib.hid (hst.out.below hb)
      have hB1 := Lib.hid (show Below B w w1 from hb.mono hBw)
      have hB1s := Nat.le_trans hBw hb.size
      clear hb hc1 hc2 hf2
      go_wp2_with fail
      refine (queryEscape_calls q.2 _ (by omega)).mono ?_
      rintro e w2 ⟨rfl, hb⟩
      have hst2 := Lib.hid (hst1.out.below hb)
      have hB2 := Lib.hid (show Below B w w2 from hB1.out.trans (hb.mono hB1s))
      clear hb
      go_wp2_with fail
      go_ret
      exact ⟨_, _, rfl, hst2.out, hB2.out, hXs, by rw [HVal.out]; exact ⟨rfl, rfl⟩⟩
end Go.Proofs.Ytmgkolcpomaceaa
