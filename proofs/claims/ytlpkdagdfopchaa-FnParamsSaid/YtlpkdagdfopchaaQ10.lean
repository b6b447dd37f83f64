/- FnParams. -/
import Derived.Test.YtlpkdagdfopchaaQ9
namespace Go.Proofs.Ytlpkdagdfopchaa
open Go.RowKit Go.Maps
set_option linter.unusedVariables false
set_option linter.unusedSimpArgs false

/-- What the region of FnParams finds: the pair's cells, the slice of texts. -/
structure RegW (W0 : World) (g B0 B : Nat) (n v : ByteArray) (sl : Value) (L : List ByteArray) (w : World) : Prop where
  c0 : w.cell? ⟨g, 0, none⟩ = some (.string n)
  c1 : w.cell? ⟨g, 1, none⟩ = some (.string v)
  lt : g < w.heap.size
  sb : SBuf w B 9 sl L
  bl : Below B0 W0 w
  le : B0 ≤ w.heap.size ∧ B ≤ w.heap.size
theorem RegW.on {W0 : World} {g B0 B : Nat} {n v : ByteArray} {sl : Value} {L : List ByteArray} {w w' : World} (h : RegW W0 g B0 B n v sl L w) (hb : Below w.heap.size w w') : RegW W0 g B0 B n v sl L w' :=
  ⟨(hb.cell (p := ⟨g, 0, none⟩) h.lt).trans h.c0, (hb.cell (p := ⟨g, 1, none⟩) h.lt).trans h.c1, Nat.lt_of_lt_of_le h.lt hb.size, h.sb.below hb, h.bl.trans (hb.mono h.le.1), Nat.le_trans h.le.1 hb.size, Nat.le_trans h.le.2 hb.size⟩
theorem RegW.drew {W0 : World} {g B0 B : Nat} {n v : ByteArray} {sl : Value} {L : List ByteArray} {w : World} (h : RegW W0 g B0 B n v sl L w) : RegW W0 g B0 B n v sl L w.drew :=
  ⟨h.c0, h.c1, h.lt, h.sb, h.bl.drew, h.le⟩

theorem texts_snoc {l : List Pr} {k : Nat} {p : Pr} (h : l.take (k + 1) = l.take k ++ [p]) : (textsL (l.take (k + 1))).map mkB = (textsL (l.take k)).map mkB ++ (if goodP p = true then [mkB (txtL p)] else []) := by
  rw [h, textsL, textsL, List.filter_append, List.map_append, List.map_append]
  cases hg : goodP p <;> simp [hg]
theorem texts_len (l : List Pr) (k : Nat) : ((textsL (l.take k)).map mkB).length ≤ k := by
  rw [List.length_map, textsL, List.length_map]
  refine Nat.le_trans (List.length_filter_le _ _) ?_
  simp; omega
theorem pct_ne {s : ByteArray} (h : (s.toList == []) = false) : pctL s.data.toList ≠ [] := by
  rw [ByteArray.toList_eq] at h
  cases hs : s.data.toList with
  | nil => rw [hs] at h; cases h
  | cons c r =>
    intro e
    have h1 : (pctL (c :: r)).length = 0 := by rw [e]; rfl
    simp only [pctL, List.flatMap_cons, List.length_append] at h1
    have h2 : 0 < (pctC c).length := by unfold pctC; split <;> simp [pctX]
    omega

theorem sbuf_texts {w : World} {B : Nat} {v : Value} {L : List ByteArray} (h : SBuf w B 9 v L) (hn : v ≠ .slice none 0 0) : ∃ g cap, v = .slice (some ⟨g, 0, none⟩) L.length cap ∧ B ≤ g ∧ g < w.heap.size ∧ TextsAt w g L := by
  rcases h.2 with ⟨e, _⟩ | ⟨g, cap, cur, e, hg, hb, h1, h2, h3, h4⟩
  · exact absurd e hn
  · have hgl := (Array.getElem?_eq_some_iff.1 hb).1
    refine ⟨g, cap, e, hg, hgl, hgl, fun j hj => ⟨?_, by simp [World.frozen?, hb]⟩⟩
    rw [cell_of_row w g j cur 9 (0, 0) hb]
    have h5 : (cur.toList.take (L.length * 1))[j]? = (L.map Value.string)[j]? := by rw [h4]
    rw [List.getElem?_take_of_lt (by omega), List.getElem?_map, List.getElem?_eq_getElem hj] at h5
    rw [atB_at L j hj]
    simpa using h5

set_option maxHeartbeats 16000000 in
set_option maxRecDepth 100000 in
theorem fnParams_any (s : ByteArray) (l : List Pr) (A : Option Addr) (cap : Nat) (w : World) (hs : s.size ≤ maxLen) (hA : Hid (PairsAt w A l)) (hcap : l.length ≤ cap) :
    Calls Try.prog 3 #[.string s, .slice A l.length cap] w fun x w' => x = .returned (.bool true) ∧ Below w.heap.size w w' := by
  unfold maxLen at hs
  by_cases h1 : 2147483647 < s.size
  · have g1 : decide (2147483647 < (s.size : Int)) = true := decide_eq_true (by omega)
    have g2 : decide (2147483647 < s.size) = true := decide_eq_true (by omega)
    go_enter Try.func3, Try.ntmps3
    go_wp2_with fail
    go_ret
    exact ⟨rfl, Below.refl _ _⟩
  have g1 : decide (2147483647 < (s.size : Int)) = false := decide_eq_false (by omega)
  have g2 : decide (2147483647 < s.size) = false := decide_eq_false (by omega)
  cases hf : fitsB l with
  | false =>
    have HF := Lib.hid hf
    clear hf
    go_enter Try.func3, Try.ntmps3
    go_wp2_with fail
    refine (zzFits2_calls l A cap _ hA).mono ?_
    rw [HF.out]
    rintro e w1 ⟨rfl, hb⟩
    go_wp2_with fail
    go_ret
    exact ⟨rfl, hb⟩
  | true =>
    have HF := Lib.hid hf
    clear hf
    cases ha : (asciiB s && smallB s) with
    | false =>
      have HAs := Lib.hid ha
      clear ha
      go_enter Try.func3, Try.ntmps3
      go_wp2_with fail
      refine (zzFits2_calls l A cap _ hA).mono ?_
      rw [HF.out]
      rintro e w1 ⟨rfl, hb⟩
      go_wp2_with fail
      refine (ascii_calls s _ (by omega)).mono ?_
      rw [HAs.out]
      rintro e w2 ⟨rfl, rfl⟩
      go_wp2_with fail
      go_ret
      exact ⟨rfl, hb⟩
    | true =>
      have HAs := Lib.hid ha
      have hs200 : s.size ≤ 200 := by simp [smallB] at ha; exact ha.2
      clear ha
      cases hok : pairsOkB l with
      | false =>
        have HOK := Lib.hid hok
        clear hok
        go_enter Try.func3, Try.ntmps3
        go_wp2_with fail
        refine (zzFits2_calls l A cap _ hA).mono ?_
        rw [HF.out]
        rintro e w1 ⟨rfl, hb⟩
        have HA2 := Lib.hid (hA.out.below hb)
        have HB1 := Lib.hid hb
        clear hb
        go_wp2_with fail
        refine (ascii_calls s _ (by omega)).mono ?_
        rw [HAs.out]
        rintro e w2 ⟨rfl, rfl⟩
        go_wp2_with fail
        refine (pairsOk_calls l A cap _ HA2 HF.out hcap).mono ?_
        rw [HOK.out]
        rintro e w2 ⟨rfl, hb⟩
        go_wp2_with fail
        go_ret
        exact ⟨rfl, below_then HB1.out HB1.out.size hb⟩
      | true =>
        have HOK := Lib.hid hok
        have hl20 := len_of_ok hok
        have HOk := Lib.hid (okP_of_ok hok)
        clear hok
        go_enter Try.func3, Try.ntmps3
        go_wp2_with fail
        refine (zzFits2_calls l A cap _ hA).mono ?_
        rw [HF.out]
        rintro e w1 ⟨rfl, hb⟩
        have HA1 := Lib.hid (hA.out.below hb)
        have HB1 := Lib.hid hb
        clear hb
        go_wp2_with fail
        refine (ascii_calls s _ (by omega)).mono ?_
        rw [HAs.out]
        rintro e w2 ⟨rfl, rfl⟩
        go_wp2_with fail
        refine (pairsOk_calls l A cap _ HA1 HF.out hcap).mono ?_
        rw [HOK.out]
        rintro e w2 ⟨rfl, hb⟩
        have HA2 := Lib.hid (HA1.out.below hb)
        have HB2 := Lib.hid (below_then HB1.out HB1.out.size hb)
        clear hb
        go_wp2_with fail
        have HB3 := Lib.hid (HB2.out.alloc HB2.out.size (.cells #[] 9))
        have HA3 := Lib.hid (HA2.out.below (Below.own w2 (.cells #[] 9)))
        have HS0 := Lib.hid (sbuf_made w2 w2.heap.size (Nat.le_refl _))
        have hw2 : w.heap.size ≤ w2.heap.size := HB2.out.size
        go_loopg [5, 29] l.length (fun gk v i wr => ∃ k : Nat, gk = l.length - k ∧ k ≤ l.length ∧ i = .int .i64 k ∧ Hid (SBuf wr w2.heap.size 9 v ((textsL (l.take k)).map mkB)) ∧ v ≠ .slice none 0 0 ∧ Hid (Below w2.heap.size w2 wr) ∧ Hid (Below w.heap.size w wr))
        case atStart => exact ⟨0, rfl, Nat.zero_le _, rfl, HS0, by simp, Below.own w2 _, HB3⟩
        case round =>
          obtain ⟨k, hgk, hk, rfl, hbuf, hnn, hB, hBw⟩ := hrel
          have HG := Lib.hid hgk
          clear hgk
          by_cases hlt : k < l.length
          · have HTk := Lib.hid (take_snoc l k hlt)
            obtain ⟨ad, rfl, hblk, hc, hd⟩ := (HA2.out.below hB.out) k hlt
            have hopp := HOk.out l[k] (List.getElem_mem _)
            have hps1 : l[k].1.size ≤ 200 := by have := hopp; simp [okP, smallB] at this; omega
            have hps2 : l[k].2.size ≤ 200 := by have := hopp; simp [okP, smallB] at this; omega
            clear hopp
            generalize l[k] = p at HTk hc hd hps1 hps2
            have HTs := Lib.hid (texts_snoc HTk.out)
            have htl := texts_len l k
            cases h1 : (p.1.toList == []) with
            | true =>
              have HT2 := Lib.hid (show (textsL (l.take (k + 1))).map mkB = (textsL (l.take k)).map mkB by rw [HTs.out, goodP, h1]; simp)
              go_wp2_with fail
              go_roundg (l.length - (k + 1))
              case measure => rw [HG.out]; omega
              case rel => exact ⟨k + 1, rfl, by omega, by simp, by rw [HT2.out]; exact hbuf.out.alloc _, hnn, hB.out.alloc hB.out.size _, hBw.out.alloc hBw.out.size _⟩
            | false =>
              cases h2 : (p.2.toList == []) with
              | true =>
                have HT2 := Lib.hid (show (textsL (l.take (k + 1))).map mkB = (textsL (l.take k)).map mkB by rw [HTs.out, goodP, h2]; simp)
                go_wp2_with fail
                go_roundg (l.length - (k + 1))
                case measure => rw [HG.out]; omega
                case rel => exact ⟨k + 1, rfl, by omega, by simp, by rw [HT2.out]; exact hbuf.out.alloc _, hnn, hB.out.alloc hB.out.size _, hBw.out.alloc hBw.out.size _⟩
              | false =>
                have HT2 := Lib.hid (show (textsL (l.take (k + 1))).map mkB = (textsL (l.take k)).map mkB ++ [mkB (pctL p.1.data.toList) ++ ByteArray.mk #[61] ++ mkB (pctL p.2.data.toList)] by
                  have e : mkB (txtL p) = mkB (pctL p.1.data.toList) ++ ByteArray.mk #[61] ++ mkB (pctL p.2.data.toList) := by
                    apply WideShapes.bytes_inj
                    rw [bytes_append, bytes_append]; rfl
                  rw [HTs.out, goodP, h1, h2, e]; simp)
                go_wp2_with fail
                have HW0 := Lib.hid (show RegW w2 wr.heap.size w2.heap.size w2.heap.size p.1 p.2 u5 ((textsL (l.take k)).map mkB) (wr.alloc (Obj.cells #[Value.string p.1, Value.string p.2] 27)) from
                  ⟨by rw [World.cell?_alloc_new]; rfl, by rw [World.cell?_alloc_new]; rfl, by simp, hbuf.out.alloc _, hB.out.alloc hB.out.size _, by have := hB.out.size; simp; omega, by have := hB.out.size; simp; omega⟩)
                have hbw : w.heap.size ≤ w2.heap.size := hw2
                clear hc hd h1 h2 hbuf HTs HTk
                generalize wr.alloc (Obj.cells #[Value.string p.1, Value.string p.2] 27) = wq at HW0 ⊢
                obtain ⟨n, hn⟩ : ∃ n, p.1 = n := ⟨_, rfl⟩
                obtain ⟨v, hv⟩ : ∃ v, p.2 = v := ⟨_, rfl⟩
                rw [hn, hv] at HW0 HT2 ⊢
                rw [hn] at hps1
                rw [hv] at hps2
                clear hn hv
                have hm1 : (mkB (pctL n.data.toList)).size ≤ 600 := by
                  have h := pctL_len n.data.toList
                  have e : n.data.toList.length = n.size := by simp
                  rw [mkB_size]; omega
                have hm2 : (mkB (pctL v.data.toList)).size ≤ 600 := by
                  have h := pctL_len v.data.toList
                  have e : v.data.toList.length = v.size := by simp
                  rw [mkB_size]; omega
                have h61 : (ByteArray.mk #[61]).size = 1 := rfl
                have ha1 : (mkB (pctL n.data.toList)).size + (ByteArray.mk #[61]).size ≤ 9223372036854775807 := by rw [h61]; omega
                have ha2 : (mkB (pctL n.data.toList) ++ ByteArray.mk #[61]).size + (mkB (pctL v.data.toList)).size ≤ 9223372036854775807 := by rw [ByteArray.size_append, h61]; omega
                have ha3 : (mkB (pctL n.data.toList)).size + 1 ≤ 9223372036854775807 := by omega
                have ha4 : (mkB (pctL n.data.toList)).size + 1 + (mkB (pctL v.data.toList)).size ≤ 9223372036854775807 := by omega
                have ha5 : ¬ 9223372036854775807 < (mkB (pctL n.data.toList)).size + 1 := by omega
                have ha6 : ¬ 9223372036854775807 < (mkB (pctL n.data.toList)).size + 1 + (mkB (pctL v.data.toList)).size := by omega
                have hl20' : ((textsL (l.take k)).map mkB).length ≤ 2147483647 := by omega
                clear h61
                have hq0 := HW0.out.c0
                have hq1 := HW0.out.c1
                have hd0 := HW0.out.drew.c0
                have hd1 := HW0.out.drew.c1
                generalize (textsL (l.take k)).map mkB = L at HW0 HT2 hl20'
                go_region_law (first
                  | (refine step_percent rfl _ rfl n rfl (by omega) ?_; intro w3 hb3; have hw3 : RegW w2 wr.heap.size w2.heap.size w2.heap.size n v u5 L w3 := (by first | exact HW0.out.drew.on hb3 | exact HW0.out.on hb3 | exact hw4.on hb3 | exact hw4.drew.on hb3); have hq30 := hw3.c0; have hq31 := hw3.c1)
                  | (refine step_percent rfl _ rfl v rfl (by omega) ?_; intro w4 hb4; have hw4 : RegW w2 wr.heap.size w2.heap.size w2.heap.size n v u5 L w4 := (by first | exact HW0.out.drew.on hb4 | exact HW0.out.on hb4 | exact hw3.on hb4 | exact hw3.drew.on hb4); have hq40 := hw4.c0; have hq41 := hw4.c1)
                  | (refine step_sbuf 25 9 (.string ⟨#[]⟩) Try.underlying25 info9 rfl rfl _ _ rfl w2.heap.size _ L rfl (by first | exact hw4.sb.alloc _ | exact hw3.sb.alloc _) _ _ rfl (mkB (pctL n.data.toList) ++ ByteArray.mk #[61] ++ mkB (pctL v.data.toList)) (by rw [World.cell?_alloc_new]; rfl) hl20' (by first | (have := hw4.le.2; simp; omega) | (have := hw3.le.2; simp; omega)) ?_; intro v' w' hb' hg' hbel'))
                all_goals
                  have HBn := Lib.hid (show Below w2.heap.size w2 w' from by first | exact (hw4.bl.alloc hw4.le.1 _).trans hbel' | exact (hw3.bl.alloc hw3.le.1 _).trans hbel')
                  have hnn' : v' ≠ .slice none 0 0 := by
                    rintro rfl
                    rcases hb'.2 with ⟨_, h⟩ | ⟨_, _, _, h, _⟩
                    · simp at h
                    · cases h
                  have HBu := Lib.hid hb'
                  clear hb' hg' hbel' hw3 hw4 hb3 hb4 hq30 hq31 hq40 hq41 hq0 hq1 hd0 hd1
                  go_wp2_with fail
                  go_roundg (l.length - (k + 1))
                  case measure => rw [HG.out]; omega
                  case rel => exact ⟨k + 1, rfl, by omega, by simp, by rw [HT2.out]; exact HBu, hnn', HBn, below_then HB2.out HB2.out.size HBn.out⟩
          · have hks : k = l.length := by omega
            have HTx := Lib.hid (show (textsL (l.take k)).map mkB = (textsL l).map mkB by rw [hks, List.take_of_length_le (Nat.le_refl _)])
            have HU := Lib.hid (show SBuf wr w2.heap.size 9 u5 ((textsL l).map mkB) by rw [← HTx.out]; exact hbuf.out)
            have HA4 := Lib.hid (HA2.out.below hB.out)
            have htl := texts_len l l.length
            rw [List.take_of_length_le (Nat.le_refl _)] at htl
            have HTsz := Lib.hid (show ∀ t ∈ (textsL l).map mkB, t.size ≤ 2000 from fun t ht => by
              rw [List.mem_map] at ht
              obtain ⟨x, hx, rfl⟩ := ht
              rw [textsL, List.mem_map] at hx
              obtain ⟨p, hp, rfl⟩ := hx
              have := txt_len (HOk.out p (List.mem_filter.1 hp).1)
              rw [mkB_size]; omega)
            have HTne := Lib.hid (show ∀ x ∈ textsL l, x ≠ [] from fun x hx => by
              rw [textsL, List.mem_map] at hx
              obtain ⟨p, hp, rfl⟩ := hx
              simp [txtL])
            clear hks HG hbuf
            go_wp2_with fail
            refine (implParams_calls s l A cap _ hs200 HAs HOK.out HA4).mono ?_
            rintro e w5 ⟨⟨X, S, rfl, hS, hSp, hX⟩, hb⟩
            have HS := Lib.hid hS
            have HSp := Lib.hid hSp
            have HX := Lib.hid hX
            have HU5 := Lib.hid (HU.out.below hb)
            have HB5 := Lib.hid (below_then hBw.out hBw.out.size hb)
            have HB5b := Lib.hid (below_then hB.out hB.out.size hb)
            clear hS hSp hX hb HU
            obtain ⟨g, cp, hv, hBg, hglt, hTA⟩ := sbuf_texts HU5.out hnn
            subst hv
            have HTA := Lib.hid hTA
            clear hTA hnn
            have hcp : ((textsL l).map mkB).length ≤ cp := by
              rcases HU5.out.2 with ⟨e, _⟩ | ⟨g', cap', cur, e, _, _, hc, _⟩
              · cases e
              · injection e with e1 e2 e3
                subst e3; exact hc
            have HSpec := Lib.hid (fun w hT hB => specParams_calls s ((textsL l).map mkB) g cp w2.heap.size w hs200 (by omega) HTsz hcp hT hBg hB)
            generalize ((textsL l).map mkB).length = n at HSpec ⊢
            go_wp2_with fail
            refine (HSpec.out _ HTA HB5b.out.size).mono ?_
            rintro e w6 ⟨⟨Y, M, rfl, hMp, hMs, hY⟩, hb⟩
            have HB6 := Lib.hid (show Below w.heap.size w w6 from HB5.out.trans (hb.mono hw2))
            obtain rfl : X = Y := by
              apply WideShapes.bytes_inj
              rw [HX.out, hY, resL]
              congr 1
              have e : M.map (fun t => t.data.toList) = S := by
                refine List.Perm.eq_of_pairwise (le := fun x y => x ≤ y) (fun a b _ _ h1 h2 => List.le_antisymm h1 h2) ?_ HSp.out ?_
                · rw [List.pairwise_map]; exact hMs
                · refine ((hMp.map _).trans ?_).trans HS.out.symm
                  rw [List.map_map]
                  have e2 : (textsL l).map ((fun t : ByteArray => t.data.toList) ∘ mkB) = textsL l := List.map_id' _
                  rw [e2]
              rw [e]
              have hne : ∀ t ∈ S, t ≠ [] := fun t ht => HTne.out t (HS.out.mem_iff.1 ht)
              have h9 := fold_all (cutN (headP s).data.toList 63) (headP s).data.toList (cutN_le _ _) S hne
              rw [h9, show (headP s).data.toList.length = (headP s).size by simp]
            clear hMp hMs hY hb HX
            go_wp2_with fail
            go_ret
            exact ⟨rfl, HB6.out⟩
end Go.Proofs.Ytlpkdagdfopchaa
