/- impl.style. -/
import Derived.Test.YtmgkolcpomaceaaK25
import Derived.Test.YtmgkolcpomaceaaK26
namespace Go.Proofs.Ytmgkolcpomaceaa
open Go.RowKit Go.Maps
set_option linter.unusedVariables false
set_option linter.unusedSimpArgs false

theorem lnsO_none : lnsO (findN [] (fieldAt 0).1) = [] := rfl
theorem styAt_start (w : World) : StyAt w (((w.alloc (Obj.cells #[.string ⟨#[]⟩] 54)).alloc (Obj.cells #[.slice none 0 0, .slice none 0 0, .string ⟨#[]⟩, .string ⟨#[]⟩, .string ⟨#[]⟩, .string ⟨#[]⟩, .string ⟨#[]⟩, .string ⟨#[]⟩, .string ⟨#[]⟩, .string ⟨#[]⟩, .string ⟨#[]⟩, .string ⟨#[]⟩, .string ⟨#[]⟩, .string ⟨#[]⟩, .string ⟨#[]⟩, .string ⟨#[]⟩, .string ⟨#[]⟩] 102)).alloc (Obj.map #[] 0)) [] [] 0 := by
  have s1 : (w.alloc (Obj.cells #[.string ⟨#[]⟩] 54)).heap.size = w.heap.size + 1 := by simp
  have s2 : ((w.alloc (Obj.cells #[.string ⟨#[]⟩] 54)).alloc (Obj.cells #[.slice none 0 0, .slice none 0 0, .string ⟨#[]⟩, .string ⟨#[]⟩, .string ⟨#[]⟩, .string ⟨#[]⟩, .string ⟨#[]⟩, .string ⟨#[]⟩, .string ⟨#[]⟩, .string ⟨#[]⟩, .string ⟨#[]⟩, .string ⟨#[]⟩, .string ⟨#[]⟩, .string ⟨#[]⟩, .string ⟨#[]⟩, .string ⟨#[]⟩, .string ⟨#[]⟩] 102)).heap.size = w.heap.size + 2 := by simp
  have b2 := Below.own (w.alloc (Obj.cells #[.string ⟨#[]⟩] 54)) (Obj.cells #[.slice none 0 0, .slice none 0 0, .string ⟨#[]⟩, .string ⟨#[]⟩, .string ⟨#[]⟩, .string ⟨#[]⟩, .string ⟨#[]⟩, .string ⟨#[]⟩, .string ⟨#[]⟩, .string ⟨#[]⟩, .string ⟨#[]⟩, .string ⟨#[]⟩, .string ⟨#[]⟩, .string ⟨#[]⟩, .string ⟨#[]⟩, .string ⟨#[]⟩, .string ⟨#[]⟩] 102)
  have b3 := Below.own ((w.alloc (Obj.cells #[.string ⟨#[]⟩] 54)).alloc (Obj.cells #[.slice none 0 0, .slice none 0 0, .string ⟨#[]⟩, .string ⟨#[]⟩, .string ⟨#[]⟩, .string ⟨#[]⟩, .string ⟨#[]⟩, .string ⟨#[]⟩, .string ⟨#[]⟩, .string ⟨#[]⟩, .string ⟨#[]⟩, .string ⟨#[]⟩, .string ⟨#[]⟩, .string ⟨#[]⟩, .string ⟨#[]⟩, .string ⟨#[]⟩, .string ⟨#[]⟩] 102)) (Obj.map #[] 0)
  have hcell : ∀ i, i < 17 → (((w.alloc (Obj.cells #[.string ⟨#[]⟩] 54)).alloc (Obj.cells #[.slice none 0 0, .slice none 0 0, .string ⟨#[]⟩, .string ⟨#[]⟩, .string ⟨#[]⟩, .string ⟨#[]⟩, .string ⟨#[]⟩, .string ⟨#[]⟩, .string ⟨#[]⟩, .string ⟨#[]⟩, .string ⟨#[]⟩, .string ⟨#[]⟩, .string ⟨#[]⟩, .string ⟨#[]⟩, .string ⟨#[]⟩, .string ⟨#[]⟩, .string ⟨#[]⟩] 102)).alloc (Obj.map #[] 0)).cell? ⟨w.heap.size + 1, i, none⟩ = (#[.slice none 0 0, .slice none 0 0, .string ⟨#[]⟩, .string ⟨#[]⟩, .string ⟨#[]⟩, .string ⟨#[]⟩, .string ⟨#[]⟩, .string ⟨#[]⟩, .string ⟨#[]⟩, .string ⟨#[]⟩, .string ⟨#[]⟩, .string ⟨#[]⟩, .string ⟨#[]⟩, .string ⟨#[]⟩, .string ⟨#[]⟩, .string ⟨#[]⟩, .string ⟨#[]⟩] : Array Value)[i]? := by
    intro i hi
    rw [b3.cell (p := ⟨w.heap.size + 1, i, none⟩) (by simp)]
    rw [← s1, World.cell?_alloc_new]
  have hn : StrsAt (((w.alloc (Obj.cells #[.string ⟨#[]⟩] 54)).alloc (Obj.cells #[.slice none 0 0, .slice none 0 0, .string ⟨#[]⟩, .string ⟨#[]⟩, .string ⟨#[]⟩, .string ⟨#[]⟩, .string ⟨#[]⟩, .string ⟨#[]⟩, .string ⟨#[]⟩, .string ⟨#[]⟩, .string ⟨#[]⟩, .string ⟨#[]⟩, .string ⟨#[]⟩, .string ⟨#[]⟩, .string ⟨#[]⟩, .string ⟨#[]⟩, .string ⟨#[]⟩] 102)).alloc (Obj.map #[] 0)) none [] := fun k hk => by simp at hk
  refine ⟨?_, ?_, by simp, ⟨none, 0, ?_, hn, by intro ad h; cases h⟩, ⟨none, 0, ?_, hn, by intro ad h; cases h⟩, ?_, ?_, ?_, (((Below.refl _ _).alloc (Nat.le_refl _) _).alloc (by simp) _).alloc (by simp; omega) _⟩
  · rw [b3.cell (p := ⟨w.heap.size, 0, none⟩) (by simp; omega), b2.cell (p := ⟨w.heap.size, 0, none⟩) (by simp), World.cell?_alloc_new]; rfl
  · rw [b3.frozen (p := ⟨w.heap.size, 0, none⟩) (by simp; omega), b2.frozen (p := ⟨w.heap.size, 0, none⟩) (by simp)]; simp [go_sem]
  · rw [hcell 0 (by decide)]; rfl
  · rw [hcell 1 (by decide)]; rfl
  · intro i hi hi2
    rw [hcell i hi2]
    obtain rfl | rfl | rfl | rfl | rfl | rfl | rfl | rfl | rfl | rfl | rfl | rfl | rfl | rfl | rfl : i = 2 ∨ i = 3 ∨ i = 4 ∨ i = 5 ∨ i = 6 ∨ i = 7 ∨ i = 8 ∨ i = 9 ∨ i = 10 ∨ i = 11 ∨ i = 12 ∨ i = 13 ∨ i = 14 ∨ i = 15 ∨ i = 16 := by omega
    all_goals rfl
  · intro i hi
    rw [b3.frozen (p := ⟨w.heap.size + 1, i, none⟩) (by simp), ← s1]; simp [go_sem]
  · rw [← s2]; exact World.ownsMap_made _ _ _ _
theorem look_false {v : Value} {ps : List MemPlace} (h : plainElem (H := Unit) Try.prog 4 v = some (.lit (.bool false), ps)) : v = .bool false := by
  obtain ⟨b, rfl, hz⟩ := elem4_inv h
  simp only [Prod.mk.injEq, DataW.lit.injEq, Lit.bool.injEq] at hz
  rw [← hz.1]
theorem stS_small {l : List Pr} (h : ∀ p ∈ l, okP p = true) (i : Nat) : (stS l i).size ≤ 200 := by
  unfold stS
  cases hf : findN l (fieldAt i).1 with
  | none => exact Nat.zero_le _
  | some p =>
    have := h p (List.mem_of_find?_eq_some hf)
    simp [okP, smallB] at this
    show p.2.size ≤ 200
    omega
theorem stL_small {l : List Pr} (h : ∀ p ∈ l, okP p = true) (i : Nat) : (stL l i).length ≤ 201 ∧ ∀ x ∈ stL l i, x.size ≤ 200 ∧ asciiB x = true := by
  unfold stL
  cases hf : findN l (fieldAt i).1 with
  | none => exact ⟨Nat.zero_le _, fun x hx => by cases hx⟩
  | some p =>
    have hp := h p (List.mem_of_find?_eq_some hf)
    simp [okP, smallB] at hp
    have h1 := (linesL_len p.2.data.toList).1
    have h3 : (linesB p.2).length = (linesL p.2.data.toList).length := by simp [linesB]
    have h4 : p.2.data.toList.length = p.2.size := by simp
    refine ⟨?_, fun x hx => ?_⟩
    · show (linesB p.2).length ≤ 201
      omega
    · have hx' : x ∈ linesB p.2 := hx
      have := linesB_mem hx'
      exact ⟨by omega, this.2 (by simp [hp])⟩

set_option maxHeartbeats 16000000 in
set_option maxRecDepth 100000 in
theorem style_calls (l : List Pr) (A : Option Addr) (cap : Nat) (w : World) (hA : Hid (PairsAt w A l)) (hok : pairsOkB l = true) (hin : l.all inFields = true) :
    Calls Try.prog 85 #[.slice A l.length cap] w fun e w' => ∃ T : ByteArray, e = .returned (.tuple #[.agg #[.string T], .bool true]) ∧ T.data.toList = implT l ∧ T.size ≤ 2000000 ∧ Below w.heap.size w w' := by
  have hl := len_of_ok hok
  have HFr := Lib.hid (fresh_of_ok hok)
  have HOk := Lib.hid (okP_of_ok hok)
  have HIn := Lib.hid (List.all_eq_true.1 hin)
  have hmm := @run_makeMap Try.prog
  clear hok hin
  go_enter Try.func85, Try.ntmps85
  go_wp2_with fail
  go_loopg [12] l.length (fun gk i wr => ∃ k : Nat, gk = l.length - k ∧ k ≤ l.length ∧ i = .int .i64 k ∧ Hid (StyAt w wr (l.take k) (l.take k) k))
  case atStart => exact ⟨0, rfl, Nat.zero_le _, rfl, styAt_start w⟩
  case round =>
    obtain ⟨k, hgk, hk, rfl, hst⟩ := hrel
    have HG := Lib.hid hgk
    clear hgk hmm
    by_cases hlt : k < l.length
    · have hopn := HOk.out _ (List.getElem_mem hlt)
      have hs1 : l[k].1.size ≤ 2147483647 := by have := hopn; simp [okP, smallB] at this; omega
      have hs2 : l[k].2.size ≤ 200 := by have := hopn; simp [okP, smallB] at this; omega
      have HPl := Lib.hid (show (asciiB l[k].2 && smallB l[k].2) = true by have := hopn; simp [okP] at this ⊢; simp [this])
      have HSm := Lib.hid (show smallB l[k].2 = true by have := hopn; simp [okP] at this; simp [this])
      have HInp := Lib.hid (HIn.out _ (List.getElem_mem hlt))
      have HNf := Lib.hid (HFr.out k hlt)
      have HTk := Lib.hid (take_snoc1 l k hlt)
      have HK1 := Lib.hid (key9 l[k].1 hs1)
      obtain ⟨ad, rfl, hblk, hc, hd⟩ := (hA.out.below hst.out.below) k hlt
      clear hopn
      generalize l[k] = p at hs1 hs2 HPl HSm HInp HNf HTk HK1 hc hd
      have HAt := Lib.hid (show (bOf (l.take k)).atKey (keyL p.1) (.lit (.bool false)) = .lit (.bool false) by rw [at_bOf, HNf.out]; rfl)
      have hwlt := hst.out.lt
      go_wp2_with (at_lookup; refine wpList_look_own _ rfl _ _ 103 rfl 9 4 law9 under103 _ (zero4 _) _ [] (elem4 false) (w.heap.size + 2) k _ rfl (World.ownsMap.alloc hst.out.map _) _ _ rfl HK1.out ?_; rw [HAt.out]; intro v ps hv; have hvb := look_false hv; subst hvb; clear hv)
      refine (isShort_one p.2 _ _ _ (by exact strsAt_new _ _ [p.2] 9 (by simp))).mono ?_
      rw [HSm.out]
      rintro e w1 ⟨rfl, rfl⟩
      go_wp2_with (at_mapUpdate; refine wpList_mapUpdate_own _ rfl _ _ _ 103 rfl 9 4 law9 under103 (plainElem (H := Unit) Try.prog 4) (w.heap.size + 2) k _ rfl (World.ownsMap.alloc (World.ownsMap.alloc hst.out.map _) _) (by unfold maxLen; omega) _ _ _ rfl rfl HK1.out _ [] (elem4 true) ?_; intro w2 hown2 hgrow2; have hq1 := hgrow2.cell (a := ⟨wr.heap.size, 0, none⟩) (v := .string p.1) (by rw [own_cell (Below.own _ _) 0]; rfl) (by simp; omega); have hq2 := hgrow2.cell (a := ⟨wr.heap.size, 1, none⟩) (v := .string p.2) (by rw [own_cell (Below.own _ _) 1]; rfl) (by simp; omega); have hqlt : wr.heap.size < w2.heap.size := Nat.lt_of_lt_of_le (by simp; omega) hgrow2.size; have HST2 := Lib.hid (show StyAt w w2 (l.take k) (l.take (k + 1)) (k + 1) from ((hst.out.on (Below.own _ _)).on (Below.own _ _)).mapped (by rw [HTk.out, Own103, bOf_snoc]; exact hown2) hgrow2); clear hown2 hgrow2)
      refine (field_calls _ _ _).mono ?_
      rintro e w3 ⟨rfl, rfl⟩
      have hwlt2 := HST2.out.lt
      cases h0 : (p.1.toList == [66, 97, 99, 107, 103, 114, 111, 117, 110, 100, 73, 109, 97, 103, 101, 85, 82, 76, 115]) with
      | true =>
        have HM0 := Lib.hid (show sameN p.1 (fieldAt 0).1 = true by rw [← same_of p.1 [66, 97, 99, 107, 103, 114, 111, 117, 110, 100, 73, 109, 97, 103, 101, 85, 82, 76, 115] 0 rfl]; exact h0)
        have hwlt3 : w.heap.size + 2 < (w2.alloc (Obj.cells #[Value.string p.2] 9)).heap.size := by simp; omega
        go_wp2_with fail
        refine (isPlain_one p.2 _ _ _ (by exact strsAt_new _ _ [p.2] 9 (by simp)) (by omega)).mono ?_
        rw [HPl.out]
        rintro e w4 ⟨rfl, rfl⟩
        go_wp2_with fail
        refine (implLines_own p.2 _ (by omega)).mono ?_
        rintro e w4 ⟨A4, cap4, rfl, hA4, hB4, hb⟩
        have HST4 := Lib.hid ((HST2.out.on (Below.own _ _)).on hb)
        have HS5 := Lib.hid (HST4.out.set0 HNf.out HM0.out hA4 (cap := cap4) (fun ad h => Nat.lt_of_lt_of_le hwlt3 (hB4 ad h)))
        have hcl : ∃ v, w4.cell? ⟨w.heap.size + 1, 0, none⟩ = some v := by obtain ⟨_, _, h, _⟩ := HST4.out.im; exact ⟨_, h⟩
        obtain ⟨vcl, hcl⟩ := hcl
        have hfz := HST4.out.fz 0 (by decide)
        clear hb hA4 hB4
        go_wp2_with fail
        go_roundg (l.length - (k + 1))
        case measure => rw [HG.out]; omega
        case rel => exact ⟨k + 1, rfl, by omega, by simp, by rw [Hid]; have := HS5.out; rw [← HTk.out] at this; exact this⟩
      | false =>
        have HN0 := Lib.hid (show sameN p.1 (fieldAt 0).1 = false by rw [← same_of p.1 [66, 97, 99, 107, 103, 114, 111, 117, 110, 100, 73, 109, 97, 103, 101, 85, 82, 76, 115] 0 rfl]; exact h0)
        cases h1 : (p.1.toList == [70, 111, 110, 116, 70, 97, 109, 105, 108, 121]) with
        | true =>
          have HM0 := Lib.hid (show sameN p.1 (fieldAt 1).1 = true by rw [← same_of p.1 [70, 111, 110, 116, 70, 97, 109, 105, 108, 121] 1 rfl]; exact h1)
          go_wp2_with fail
          refine (implLines_own p.2 _ (by omega)).mono ?_
          rintro e w4 ⟨A4, cap4, rfl, hA4, hB4, hb⟩
          have HST4 := Lib.hid (HST2.out.on hb)
          have HS5 := Lib.hid (HST4.out.set1 HNf.out HM0.out hA4 (cap := cap4) (fun ad h => Nat.lt_of_lt_of_le hwlt2 (hB4 ad h)))
          have hcl : ∃ v, w4.cell? ⟨w.heap.size + 1, 1, none⟩ = some v := by obtain ⟨_, _, h, _⟩ := HST4.out.fm; exact ⟨_, h⟩
          obtain ⟨vcl, hcl⟩ := hcl
          have hfz := HST4.out.fz 1 (by decide)
          clear hb hA4 hB4
          go_wp2_with fail
          go_roundg (l.length - (k + 1))
          case measure => rw [HG.out]; omega
          case rel => exact ⟨k + 1, rfl, by omega, by simp, by rw [Hid]; have := HS5.out; rw [← HTk.out] at this; exact this⟩
        | false =>
          have HN1 := Lib.hid (show sameN p.1 (fieldAt 1).1 = false by rw [← same_of p.1 [70, 111, 110, 116, 70, 97, 109, 105, 108, 121] 1 rfl]; exact h1)
          cases hix : fieldIx p.1 with
          | none =>
            exfalso
            have h9 := fieldIx_none HN0.out HN1.out hix
            rw [HInp.out] at h9
            cases h9
          | some i =>
            obtain ⟨hi2, hi17, hsm⟩ := fieldIx_some hix
            have HS5 := Lib.hid (HST2.out.setS HNf.out hi2 hi17 hsm)
            have hcl := HST2.out.vs i hi2 hi17
            have hfz := HST2.out.fz i hi17
            clear hsm hix
            have hfp : fieldPtr (w.heap.size + 1) (some i) = .pointer (some ⟨w.heap.size + 1, i, none⟩) := rfl
            go_wp2_with fail
            go_roundg (l.length - (k + 1))
            case measure => rw [HG.out]; omega
            case rel => exact ⟨k + 1, rfl, by omega, by simp, by rw [Hid]; have := HS5.out; rw [← HTk.out] at this; exact this⟩
    · have hks : k = l.length := by omega
      have HF := (show StyAt w wr l l k by have := hst.out; rw [hks, List.take_of_length_le (Nat.le_refl _)] at this; rw [hks]; exact this)
      obtain ⟨A0, cap0, hi0, hi1, hi2⟩ := HF.im
      obtain ⟨A1, cap1, hj0, hj1, hj2⟩ := HF.fm
      have HI := Lib.hid hi1
      have HJ := Lib.hid hj1
      have HFH := Lib.hid HF
      have hv2 := HF.vs 2 (by decide) (by decide)
      have hv3 := HF.vs 3 (by decide) (by decide)
      have hv4 := HF.vs 4 (by decide) (by decide)
      have hv5 := HF.vs 5 (by decide) (by decide)
      have hv6 := HF.vs 6 (by decide) (by decide)
      have hv7 := HF.vs 7 (by decide) (by decide)
      have hv8 := HF.vs 8 (by decide) (by decide)
      have hv9 := HF.vs 9 (by decide) (by decide)
      have hv10 := HF.vs 10 (by decide) (by decide)
      have hv11 := HF.vs 11 (by decide) (by decide)
      have hv12 := HF.vs 12 (by decide) (by decide)
      have hv13 := HF.vs 13 (by decide) (by decide)
      have hv14 := HF.vs 14 (by decide) (by decide)
      have hv15 := HF.vs 15 (by decide) (by decide)
      have hv16 := HF.vs 16 (by decide) (by decide)
      have HT := Lib.hid (fun Fr => text_impl l Fr)
      have HPr := Lib.hid (props_calls (stL l 0) (stL l 1) (stS l) A0 A1 cap0 cap1 wr HI HJ (stL_small HOk.out 0).1 (stL_small HOk.out 1).1 (Lib.hid (stL_small HOk.out 0).2) (Lib.hid (stL_small HOk.out 1).2) (Lib.hid (stS_small HOk.out)))
      have gl : decide ((l.length : Int) ≤ 20) = true := by simp; omega
      clear hi1 hi2 hj1 hj2 HF hks HG
      go_wp2_with fail
      refine HPr.out.mono ?_
      rintro e w1 ⟨T, rfl, hT, hTs, hb⟩
      have HST := Lib.hid (HFH.out.on hb)
      have hcr := HST.out.res
      have hfr := HST.out.rfree
      have HTT := Lib.hid (hT.trans (HT.out HFr.out))
      clear hT hb
      go_wp2_with fail
      refine bodyPost_ret (v := .tuple #[.agg #[.string T], .bool true]) (by simp [results, Try.results85, go_sem, hcr]) rfl ⟨T, rfl, HTT.out, hTs, ?_⟩
      exact HST.out.below.setCell (by simp) _
end Go.Proofs.Ytmgkolcpomaceaa
