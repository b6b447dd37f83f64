/- TrustedResourceURLWithParams: the walk. -/
import Derived.Test.YtlpkdagdfopchaaQ7
namespace Go.Proofs.Ytlpkdagdfopchaa
open Go.RowKit Go.Maps Go.Sort
set_option linter.unusedVariables false
set_option linter.unusedSimpArgs false

structure WC (w wx : World) (t : ByteArray) : Prop where
  c0 : wx.cell? ⟨w.heap.size, 0, none⟩ = some (.string t)
  c1 : wx.cell? ⟨w.heap.size + 1, 0, none⟩ = some (.string ⟨#[]⟩)
  f1 : wx.frozen? ⟨w.heap.size + 1, 0, none⟩ = false
  lt : w.heap.size + 1 < wx.heap.size
  below : Below w.heap.size w wx
theorem WC.on {w wx wy : World} {t : ByteArray} (h : WC w wx t) (hb : Below wx.heap.size wx wy) : WC w wy t :=
  ⟨(hb.cell (p := ⟨w.heap.size, 0, none⟩) (by have := h.lt; simp; omega)).trans h.c0, (hb.cell (p := ⟨w.heap.size + 1, 0, none⟩) h.lt).trans h.c1, (hb.frozen (p := ⟨w.heap.size + 1, 0, none⟩) h.lt).trans h.f1,
   Nat.lt_of_lt_of_le h.lt hb.size, below_then h.below h.below.size hb⟩
theorem wc_start (w : World) (t : ByteArray) : WC w ((w.alloc (Obj.cells #[.string t] 42)).alloc (Obj.cells #[.string ⟨#[]⟩] 42)) t := by
  refine ⟨?_, ?_, ?_, by simp, ((Below.refl _ _).alloc (Nat.le_refl _) _).alloc (by simp) _⟩
  · rw [(Below.own (w.alloc (Obj.cells #[.string t] 42)) (Obj.cells #[.string ⟨#[]⟩] 42)).cell (p := ⟨w.heap.size, 0, none⟩) (by simp), World.cell?_alloc_new]; rfl
  · have : w.heap.size + 1 = (w.alloc (Obj.cells #[.string t] 42)).heap.size := by simp
    rw [this, World.cell?_alloc_new]; rfl
  · have : w.heap.size + 1 = (w.alloc (Obj.cells #[.string t] 42)).heap.size := by simp
    rw [this]; simp [go_sem]
theorem Own79.below {w w' : World} {b n : Nat} {l : List Pr} (h : Own79 w b n l) (hb : Below w.heap.size w w') : Own79 w' b n l := by
  have hlt : b < w.heap.size := World.ownsMap.lt h
  obtain ⟨es, clock, hh, F, hs, hD⟩ := h
  exact ⟨es, clock, (hb.block b hlt).trans hh, F, hs, hD⟩
theorem below_grown {w w' : World} (h : Below w.heap.size w w') (row : Option Nat) : w.grownBy w' row := ⟨h.os, h.tape, h.output, h.size, fun k hk _ => h.block k hk⟩
def sepB (a n : Nat) : ByteArray := mkB (sepL a n)
theorem sepL_len (a n : Nat) : (sepL a n).length ≤ 1 := by
  unfold sepL
  split
  · simp
  · split <;> simp
def resL (hd tl : ByteArray) (a : Nat) (S : List (List UInt8)) : List UInt8 := hd.data.toList ++ (if S = [] then [] else sepL a hd.size ++ joinA S) ++ tl.data.toList
def WPost (hd tl : ByteArray) (a : Nat) (l : List Pr) (e : Ending) : Prop := ∃ (X : ByteArray) (S : List (List UInt8)), e = .returned (.agg #[.string X]) ∧ S.Perm (textsL l) ∧ S.Pairwise (fun x y => x ≤ y) ∧ X.data.toList = resL hd tl a S
theorem merge_sorted (ss : List (List UInt8)) : (ss.mergeSort fun x y => decide (x ≤ y)).Pairwise (fun x y => x ≤ y) := by
  have tr : ∀ a b c : List UInt8, leB a b = true → leB b c = true → leB a c = true := fun a b c h1 h2 => by simp only [leB, decide_eq_true_eq] at *; exact List.le_trans h1 h2
  have tot : ∀ a b : List UInt8, (leB a b || leB b a) = true := fun a b => by simp only [leB, Bool.or_eq_true, decide_eq_true_eq]; exact List.le_total a b
  have := List.pairwise_mergeSort tr tot ss
  exact this.imp fun h => by simpa [leB] using h
theorem txt_len {p : Pr} (h : okP p = true) : (txtL p).length ≤ 1201 := by
  simp [okP, smallB] at h
  have h1 := pctL_len p.1.data.toList
  have h2 := pctL_len p.2.data.toList
  have e1 : p.1.data.toList.length = p.1.size := by simp
  have e2 : p.2.data.toList.length = p.2.size := by simp
  simp only [txtL, List.length_append, List.length_cons, List.length_nil]
  omega

theorem row_cells {w : World} {B g n cap : Nat} {ts : List (List UInt8)} (h : w.ownsRow B 9 1 (.slice (some ⟨g, 0, none⟩) n cap) n (ts.map encStr)) (hn : ts.length = n) : StrsAt w (some ⟨g, 0, none⟩) (ts.map mkB) := by
  rcases h.2 with ⟨e, _⟩ | ⟨g', cap', cur, e, hg, hb, h1, h2, h3, h4⟩
  · cases e
  · injection e with e1 e2 e3
    injection e1 with e1
    injection e1 with e1
    subst e1
    intro k hk
    have hk' : k < ts.length := by simpa using hk
    refine ⟨_, rfl, (Array.getElem?_eq_some_iff.1 hb).1, ?_⟩
    rw [addr_add, cell_of_row w g k cur 9 (0, 0) hb]
    have h5 : (cur.toList.take (n * 1))[k]? = (ts.map encStr)[k]? := by rw [h4]
    rw [List.getElem?_take_of_lt (by omega), List.getElem?_map, List.getElem?_eq_getElem hk'] at h5
    simpa [encStr, mkB] using h5
theorem sort_row (B g cap : Nat) (ts : List (List UInt8)) (w : World) (h : w.ownsRow B 9 1 (.slice (some ⟨g, 0, none⟩) ts.length cap) ts.length (ts.map encStr)) (hts : ts.length ≤ 20) :
    Calls Try.prog 28 #[.slice (some ⟨g, 0, none⟩) ts.length cap] w fun e w' => e = .returned (.tuple #[]) ∧ StrsAt w' (some ⟨g, 0, none⟩) ((ts.mergeSort fun x y => decide (x ≤ y)).map mkB) ∧ ∀ A, A ≤ g → A ≤ w.heap.size → Below A w w' := by
  rcases h.2 with ⟨e, _⟩ | ⟨g', cap', cur, e, hg, hb, h1, h2, h3, h4⟩
  · cases e
  · injection e with e1 e2 e3
    injection e1 with e1
    injection e1 with e1
    subst e1 e3
    have hH : Holds encStr w g 0 ts.toArray := holds_of_block hb (by simpa using h4)
    refine (sortStrings_calls g cap ts w hH (Array.getElem?_eq_some_iff.1 hb).1 (by omega)).mono ?_
    rintro e w' ⟨rfl, nn, os, rfl⟩
    refine ⟨rfl, row_cells (ownsRow_sorted (by simp) hg hb h1 h2 h3) (by simp), fun A hA hA2 => (Below.refl _ _).grown (grownBy_sorted _) hA2 (fun j hj => by cases hj; exact hA)⟩
theorem merge_perm (ts : List (List UInt8)) : (ts.mergeSort fun x y => decide (x ≤ y)).Perm ts := List.mergeSort_perm ts _
theorem sbuf_row {w : World} {B : Nat} {v : Value} {ts : List (List UInt8)} (h : SBuf w B 9 v (ts.map mkB)) (hn : v ≠ .slice none 0 0) : ∃ g cap, v = .slice (some ⟨g, 0, none⟩) ts.length cap ∧ B ≤ g ∧ g < w.heap.size ∧ w.ownsRow B 9 1 (.slice (some ⟨g, 0, none⟩) ts.length cap) ts.length (ts.map encStr) := by
  have h0 := h
  rcases h.2 with ⟨e, _⟩ | ⟨g, cap, cur, e, hg, hb, h1, h2, h3, h4⟩
  · exact absurd e hn
  · rw [List.length_map] at e
    refine ⟨g, cap, e, hg, (Array.getElem?_eq_some_iff.1 hb).1, ?_⟩
    have e2 : (ts.map mkB).map Value.string = ts.map encStr := by rw [List.map_map]; rfl
    have h5 : w.ownsRow B 9 1 v (ts.map mkB).length ((ts.map mkB).map Value.string) := h0
    rw [e2, List.length_map, e] at h5
    exact h5

set_option maxHeartbeats 16000000 in
set_option maxRecDepth 100000 in
theorem withParams_calls (s : ByteArray) (l : List Pr) (b : Nat) (w : World) (hs : s.size ≤ 200) (hok : pairsOkB l = true) (hown : Hid (Own79 w b l.length l)) :
    Calls Try.prog 18 #[.agg #[.string s], .map (some b)] w fun e w' => WPost (headP s) (tailP s) (cutN (headP s).data.toList 63) l e ∧ Below w.heap.size w w' := by
  have hl20 := len_of_ok hok
  have HFr := Lib.hid (fresh_of_ok hok)
  have HOk := Lib.hid (okP_of_ok hok)
  clear hok
  have HI := Lib.hid (fun w => zzIndex_calls s 35 35 rfl w (by omega))
  have HCut := Lib.hid (idx_cut s.data.toList 35)
  have hcl := cutN_le s.data.toList 35
  rw [show s.data.toList.length = s.size by simp] at hcl HCut
  have HHd := Lib.hid (show headP s = s.extract 0 (cutN s.data.toList 35) from rfl)
  have HTl := Lib.hid (show tailP s = s.extract (cutN s.data.toList 35) s.size from rfl)
  have hhs : (headP s).size ≤ 200 := by rw [headP]; simp [ByteArray.size_extract]; omega
  have hts : (tailP s).size ≤ 200 := by rw [tailP]; simp [ByteArray.size_extract]; omega
  generalize cutN s.data.toList 35 = c at hcl HCut HHd HTl
  generalize idxI s.data.toList 35 = z at HI HCut
  generalize headP s = hd at HHd hhs ⊢
  generalize tailP s = tl at HTl hts ⊢
  have HI2 := Lib.hid (fun w => zzIndex_calls hd 63 63 rfl w (by omega))
  have HCut2 := Lib.hid (idx_cut hd.data.toList 63)
  have hal := cutN_le hd.data.toList 63
  rw [show hd.data.toList.length = hd.size by simp] at hal HCut2
  generalize cutN hd.data.toList 63 = a at HCut2 hal ⊢
  generalize idxI hd.data.toList 63 = z2 at HI2 HCut2
  have HWC := Lib.hid (wc_start w s)
  obtain ⟨i0, hi, hz0, hz1, hz2⟩ := info_parts info9
  have HInfo := Lib.hid (And.intro hi (And.intro hz0 (And.intro hz1 hz2)))
  clear hi hz0 hz1 hz2
  go_enter Try.func18, Try.ntmps18
  go_wp2_with fail
  refine (HI.out _).mono ?_
  rintro e w1 ⟨rfl, rfl⟩
  go_upto_if 19 with fail
  go_cut [5, 6] (fun u f wx => u = .string hd ∧ f = .string tl ∧ Hid (WC w wx s))
  case first =>
    rcases HCut.out with ⟨rfl, hc⟩ | ⟨rfl, hc⟩
    · have HE1 := Lib.hid (show hd = s by rw [HHd.out, hc]; apply WideShapes.bytes_inj; rw [Lib.extract_data, List.drop_zero, Nat.sub_zero, List.take_of_length_le (by simp)])
      have HE2 := Lib.hid (show tl = ⟨#[]⟩ by rw [HTl.out, hc]; apply WideShapes.bytes_inj; rw [Lib.extract_data]; simp)
      clear hc
      go_wp2_with fail
      go_meet
      exact ⟨by rw [HE1.out], by rw [HE2.out], HWC⟩
    · have gne : ((c : Int) == -1) = false := by rw [beq_eq_false_iff_ne]; omega
      have gne2 : ¬ ((c : Int) = -1) := by omega
      have he1 := HHd.out.symm
      have he2 := HTl.out.symm
      go_wp2_with fail
      go_meet
      exact ⟨rfl, rfl, HWC⟩
  case rest =>
    obtain ⟨rfl, rfl, hW⟩ := hcut
    clear HWC HI HCut HHd HTl
    go_wp2_with fail
    refine (HI2.out _).mono ?_
    rintro e w2 ⟨rfl, rfl⟩
    go_upto_if 29 with fail
    go_cut [8] (fun sp wx => sp = .string (sepB a hd.size) ∧ Hid (WC w wx s))
    case first =>
      rcases HCut2.out with ⟨rfl, hc⟩ | ⟨rfl, hc⟩
      · have HE := Lib.hid (show sepB a hd.size = ⟨#[63]⟩ by rw [sepB, sepL, if_pos hc]; rfl)
        clear hc
        go_wp2_with fail
        go_meet
        exact ⟨by rw [HE.out], hW⟩
      · have gne : ((a : Int) == -1) = false := by rw [beq_eq_false_iff_ne]; omega
        have gne2 : ¬ ((a : Int) = -1) := by omega
        by_cases h1 : a + 1 = hd.size
        · have g1 : ((a : Int) == (hd.size : Int) - 1) = true := by simp; omega
          have HE := Lib.hid (show sepB a hd.size = ⟨#[]⟩ by rw [sepB, sepL, if_neg (by omega), if_pos h1]; rfl)
          clear h1 hc
          go_wp2_with fail
          go_meet
          exact ⟨by rw [HE.out], hW⟩
        · have g1 : ((a : Int) == (hd.size : Int) - 1) = false := by rw [beq_eq_false_iff_ne]; omega
          have HE := Lib.hid (show sepB a hd.size = ⟨#[38]⟩ by rw [sepB, sepL, if_neg (by omega), if_neg h1]; rfl)
          clear h1 hc
          go_wp2_with fail
          go_meet
          exact ⟨by rw [HE.out], hW⟩
    case rest =>
      obtain ⟨rfl, hW2⟩ := hcut
      clear hW HI2 HCut2
      have HSb := Lib.hid (show (sepB a hd.size).data.toList = sepL a hd.size from rfl)
      have hSs : (sepB a hd.size).size ≤ 1 := by rw [sepB, mkB_size]; exact sepL_len _ _
      have HRes := Lib.hid (fun S => show resL hd tl a S = hd.data.toList ++ (if S = [] then [] else sepL a hd.size ++ joinA S) ++ tl.data.toList from rfl)
      generalize sepB a hd.size = sp at HSb hSs ⊢
      have HOwn := Lib.hid (hown.out.below hW2.out.below)
      have hmax : Maps.size (dOf l) ≤ 20 := Nat.le_trans (World.ownsMap.size_le HOwn.out) hl20
      have hmx : Maps.size (dOf l) ≤ maxLen := by unfold maxLen; omega
      have hbl := World.ownsMap.lt HOwn.out
      go_wp2_with (first
        | (at_len; refine wpList_len_own _ rfl _ 37 rfl 9 9 under37 _ b l.length _ rfl HOwn.out ?_)
        | (at_make; refine wpList_make_own _ rfl _ _ 25 rfl wc.heap.size 9 i0 (.string ⟨#[]⟩) 1 Try.underlying25 HInfo.out.1 HInfo.out.2.1 HInfo.out.2.2.1 _ _ _ (Maps.size (dOf l)) rfl rfl rfl (by rw [HInfo.out.2.2.2]; omega) hmx (Nat.le_refl _) ?_; intro wm hrow1 hg1)
        | (at_range; refine wpList_range_own _ rfl _ 37 rfl 9 9 law9 under37 _ b l.length _ rfl (World.ownsMap.kept HOwn.out hg1 (by simp)) ?_; intro w0 hrg0 hg0 hs0)
        | fail)
      go_frame
      have HB0 := Lib.hid (((Below.refl wc.heap.size wc).grown hg1 (Nat.le_refl _) (fun j hj => by cases hj)).grown hg0 hg1.size (fun j hj => by cases hj))
      have HR1 := Lib.hid (show SBuf w0 wc.heap.size 9 (.slice (some ⟨wc.heap.size, 0, none⟩) 0 (Maps.size (dOf l))) [] from hrow1.kept hg0 (Or.inr (by simp [Value.ownBlock])))
      have hRb : wc.heap.size ≤ wm.heap.size := hg1.size
      clear hrow1 hg0 hg1 hs0
      go_loopg [10] (Maps.size (dOf l)) (fun gk v wr => ∃ (left : Lit → Bool) (ss : List (List UInt8)), Hid (wr.ranges Try.prog 9 (plainElem (H := Unit) Try.prog 9) b wm.heap.size l.length (dOf l) left gk) ∧ ss.length + gk ≤ Maps.size (dOf l) ∧
        Hid (SBuf wr wc.heap.size 9 v ((ss.filterMap (txtOf l)).map mkB)) ∧ v ≠ .slice none 0 0 ∧ Hid (Collected (dOf l) left ss) ∧ Hid (Below wc.heap.size wc wr))
      case atStart => exact ⟨_, [], hrg0, by simp, HR1, by simp, Collected.start _, HB0⟩
      case round =>
        obtain ⟨left, ss, hrg, hcs, hbuf, hnn, hC, hB⟩ := hrel
        clear hrg0
        have hsl : (ss.filterMap (txtOf l)).length ≤ ss.length := List.length_filterMap_le _ _
        go_wp2_with (first
          | (at_next; refine wpList_next_ranges _ rfl _ rfl 9 law9 (plainElem (H := Unit) Try.prog 9) encStr Value.string (fun key kl hk => by obtain ⟨x, hx, _⟩ := Maps.keyOf_str Try.underlying9 hk; exact ⟨x, hx⟩) (fun v y hv => by obtain ⟨c, rfl, _⟩ := elem9_inv hv; exact ⟨c, rfl⟩) b wm.heap.size l.length _ _ _ rfl hrg.out ?_ ?_)
          | fail)
        · intro hc0 hl0
          have hP := Lib.hid (met_perm HFr.out hC.out hl0)
          have hsl2 : (ss.filterMap (txtOf l)).length ≤ 20 := by omega
          obtain ⟨ts, hts⟩ : ∃ ts, ss.filterMap (txtOf l) = ts := ⟨_, rfl⟩
          rw [hts] at hbuf hP hsl2
          clear hts hsl
          obtain ⟨g, cap, rfl, hBg, hglt, hrow⟩ := sbuf_row hbuf.out hnn
          have HRow := Lib.hid hrow
          have HSz := Lib.hid (show ∀ t ∈ ts, t.length ≤ 1201 from fun t ht => by
            have h1 := hP.out.mem_iff.1 ht
            rw [textsL, List.mem_map] at h1
            obtain ⟨p, hp, rfl⟩ := h1
            exact txt_len (HOk.out p (List.mem_filter.1 hp).1))
          clear hrow hbuf hnn hC hl0 hrg
          by_cases hne : 0 < ts.length
          · have gl : decide ((0:Int) < (ts.length : Int)) = true := by simp; omega
            have gl2 : decide (0 < ts.length) = true := by simp; omega
            have HS := Lib.hid (sort_row wc.heap.size g cap ts wr HRow.out hsl2)
            have HSP := Lib.hid (merge_perm ts)
            have HSPw := Lib.hid (merge_sorted ts)
            generalize (ts.mergeSort fun x y => decide (x ≤ y)) = S at HS HSP HSPw
            have hSl : S.length = ts.length := HSP.out.length_eq
            have HSne := Lib.hid (show S ≠ [] by intro h; rw [h] at hSl; simp at hSl; omega)
            have HJs := Lib.hid (show ∀ t ∈ S.map mkB, t.size ≤ 2000 from fun t ht => by
              rw [List.mem_map] at ht
              obtain ⟨x, hx, rfl⟩ := ht
              have := HSz.out x (HSP.out.mem_iff.1 hx)
              rw [mkB_size]; omega)
            go_wp2_with fail
            refine HS.out.mono ?_
            rintro e w5 ⟨rfl, hst, hbel⟩
            have HB5 := Lib.hid (hB.out.trans (hbel _ hBg hB.out.size))
            have HW5 := Lib.hid (hW2.out.on HB5.out)
            have HJ := Lib.hid (zzJoin_calls (S.map mkB) (some ⟨g, 0, none⟩) cap w5 (Lib.hid hst) (by rw [List.length_map]; omega) HJs)
            rw [List.length_map, hSl] at HJ
            have hcr := HW5.out.c1
            have hfr := HW5.out.f1
            clear hst hbel
            go_wp2_with fail
            refine HJ.out.mono ?_
            rintro e w6 ⟨⟨X, rfl, hX, hXs⟩, rfl⟩
            have HX := Lib.hid (show X.data.toList = joinA S by rw [hX, List.map_map]; congr 1; exact List.map_id' _)
            have ha1 : sp.size + X.size ≤ 9223372036854775807 := by omega
            have ha2 : hd.size + (sp ++ X).size ≤ 9223372036854775807 := by rw [ByteArray.size_append]; omega
            have ha3 : (hd ++ (sp ++ X)).size + tl.size ≤ 9223372036854775807 := by rw [ByteArray.size_append, ByteArray.size_append]; omega
            clear hX
            go_wp2_with fail
            refine bodyPost_ret (v := .agg #[.string (hd ++ (sp ++ X) ++ tl)]) (by simp [results, Try.results18, go_sem, hcr]) rfl ⟨⟨_, S, rfl, HSP.out.trans hP.out, HSPw.out, ?_⟩, ?_⟩
            · rw [HRes.out, if_neg HSne.out, bytes_append, bytes_append, bytes_append, HSb.out, HX.out]
            · exact HW5.out.below.setCell (p := ⟨w.heap.size + 1, 0, none⟩) (Nat.le_succ _) _
          · have gl : decide ((0:Int) < (ts.length : Int)) = false := decide_eq_false (by omega)
            have gl2 : decide (0 < ts.length) = false := decide_eq_false hne
            have hz : ts = [] := List.eq_nil_of_length_eq_zero (by omega)
            have HP2 := Lib.hid (show ([] : List (List UInt8)).Perm (textsL l) by rw [← hz]; exact hP.out)
            have HW5 := Lib.hid (hW2.out.on hB.out)
            have hcr := HW5.out.c1
            have hfr := HW5.out.f1
            have ha1 : hd.size + tl.size ≤ 9223372036854775807 := by omega
            clear hz
            go_wp2_with fail
            refine bodyPost_ret (v := .agg #[.string (hd ++ tl)]) (by simp [results, Try.results18, go_sem, hcr]) rfl ⟨⟨_, [], rfl, HP2.out, List.Pairwise.nil, ?_⟩, ?_⟩
            · rw [HRes.out, if_pos rfl, bytes_append]; simp
            · exact HW5.out.below.setCell (p := ⟨w.heap.size + 1, 0, none⟩) (Nat.le_succ _) _
        · intro x cv kl yd yp w2 cnt2 hkey hlk hv hat hrg2 hlt hg2 hs2 hen
          obtain ⟨x', ex, rfl, _⟩ := Maps.keyOf_str Try.underlying9 hkey
          obtain rfl : x = x' := encStr_inj ex
          obtain ⟨p, hp, hf, hp1, hy⟩ := entry_pair HFr.out hat
          obtain ⟨c', ec, hz⟩ := elem9_inv hv
          obtain rfl : cv = p.2 := by
            injection ec with ec
            rw [ec]
            rw [Prod.mk.injEq] at hz
            have h1 := hz.1
            have h2 : (DataW.lit (Lit.string p.2.data.toList) : DataW Unit) = .lit (.string c'.data.toList) := by rw [← hy]; exact h1
            injection h2 with h2
            injection h2 with h2
            exact (WideShapes.bytes_inj h2).symm
          have hxe : encStr x = .string p.1 := by rw [hp1]; rfl
          rw [hxe] at hen ⊢
          have HStep := Lib.hid (hC.out.step hlk hat)
          have HRg2 := Lib.hid hrg2
          have HBuf2 := Lib.hid (show SBuf w2 wc.heap.size 9 u10 ((ss.filterMap (txtOf l)).map mkB) from hbuf.out.moved fun k hk => hg2.block k (hbuf.out.lt hk).1 (fun e => (row_ne_iter hbuf.out hrg.out) (by rw [hk]; exact e.symm)))
          have HB2 := Lib.hid (hB.out.grown hg2 hB.out.size (fun j hj => by cases hj; exact hRb))
          have HT := Lib.hid (show (ss ++ [x]).filterMap (txtOf l) = ss.filterMap (txtOf l) ++ (if goodP p = true then [txtL p] else []) by
            rw [List.filterMap_append]
            congr 1
            show [x].filterMap (txtOf l) = _
            rw [List.filterMap_cons, txtOf, hf]
            cases hgp : goodP p <;> simp [hgp])
          have hcs2 : (ss ++ [x]).length + cnt2 ≤ Maps.size (dOf l) := by simp; omega
          have hopp := HOk.out p hp
          have hps1 : p.1.size ≤ 200 := by have := hopp; simp [okP, smallB] at this; omega
          have hps2 : p.2.size ≤ 200 := by have := hopp; simp [okP, smallB] at this; omega
          clear hkey hlk hv hat hrg2 hg2 hs2 hf hp1 hy hz ec hxe hopp hp hC hbuf hrg hB
          cases h1 : (p.1.toList == []) with
          | true =>
            have HT2 := Lib.hid (show (ss ++ [x]).filterMap (txtOf l) = ss.filterMap (txtOf l) by rw [HT.out, goodP, h1]; simp)
            go_wp2_with fail
            go_roundg cnt2
            case measure => exact hlt
            case rel => exact ⟨_, ss ++ [x], HRg2, hcs2, by rw [HT2.out]; exact HBuf2, hnn, HStep, HB2⟩
          | false =>
            cases h2 : (p.2.toList == []) with
            | true =>
              have HT2 := Lib.hid (show (ss ++ [x]).filterMap (txtOf l) = ss.filterMap (txtOf l) by rw [HT.out, goodP, h2]; simp)
              go_wp2_with fail
              go_roundg cnt2
              case measure => exact hlt
              case rel => exact ⟨_, ss ++ [x], HRg2, hcs2, by rw [HT2.out]; exact HBuf2, hnn, HStep, HB2⟩
            | false =>
              have HT2 := Lib.hid (show ((ss ++ [x]).filterMap (txtOf l)).map mkB = (ss.filterMap (txtOf l)).map mkB ++ [mkB (txtL p)] by rw [HT.out, goodP, h1, h2]; simp)
              have HQ1 := Lib.hid (fun w => queryEscape_calls p.1 w (by omega))
              have HQ2 := Lib.hid (fun w => queryEscape_calls p.2 w (by omega))
              have HTx := Lib.hid (show mkB (txtL p) = ByteArray.mk (pctL p.1.data.toList).toArray ++ ByteArray.mk #[61] ++ ByteArray.mk (pctL p.2.data.toList).toArray by
                apply WideShapes.bytes_inj
                rw [bytes_append, bytes_append]; rfl)
              have hl1 := pctL_len p.1.data.toList
              have hl2 := pctL_len p.2.data.toList
              have e1 : p.1.data.toList.length = p.1.size := by simp
              have e2 : p.2.data.toList.length = p.2.size := by simp
              have hm1 : (ByteArray.mk (pctL p.1.data.toList).toArray).size ≤ 600 := by
                have e : (ByteArray.mk (pctL p.1.data.toList).toArray).size = (pctL p.1.data.toList).length := by show (pctL p.1.data.toList).toArray.size = _; simp
                omega
              have hm2 : (ByteArray.mk (pctL p.2.data.toList).toArray).size ≤ 600 := by
                have e : (ByteArray.mk (pctL p.2.data.toList).toArray).size = (pctL p.2.data.toList).length := by show (pctL p.2.data.toList).toArray.size = _; simp
                omega
              clear hl1 hl2 e1 e2
              generalize ByteArray.mk (pctL p.1.data.toList).toArray = X1 at HQ1 HTx hm1
              generalize ByteArray.mk (pctL p.2.data.toList).toArray = X2 at HQ2 HTx hm2
              have h61 : (ByteArray.mk #[61]).size = 1 := rfl
              have ha1 : X1.size + (ByteArray.mk #[61]).size ≤ 9223372036854775807 := by rw [h61]; omega
              have ha2 : (X1 ++ ByteArray.mk #[61]).size + X2.size ≤ 9223372036854775807 := by rw [ByteArray.size_append, h61]; omega
              clear h61
              go_wp2_with fail
              refine (HQ1.out _).mono ?_
              rintro e w3 ⟨rfl, hb⟩
              have HRg3 := Lib.hid (HRg2.out.kept (below_grown hb none) (by simp) (by simp))
              have HBuf3 := Lib.hid (HBuf2.out.below hb)
              have HB3 := Lib.hid (below_then HB2.out HB2.out.size hb)
              clear hb
              go_wp2_with fail
              refine (HQ2.out _).mono ?_
              rintro e w4 ⟨rfl, hb⟩
              have HRg4 := Lib.hid (HRg3.out.kept (below_grown hb none) (by simp) (by simp))
              have HBuf4 := Lib.hid (HBuf3.out.below hb)
              have HB4 := Lib.hid (below_then HB3.out HB3.out.size hb)
              clear hb
              have HBa := Lib.hid (HB4.out.alloc HB4.out.size (.cells #[.string (X1 ++ ByteArray.mk #[61] ++ X2)] 9))
              have HU := Lib.hid (HBuf4.out.alloc (.cells #[.string (X1 ++ ByteArray.mk #[61] ++ X2)] 9))
              have HM := Lib.hid (show (w4.alloc (.cells #[.string (X1 ++ ByteArray.mk #[61] ++ X2)] 9)).cell? ⟨w4.heap.size, 0, none⟩ = some (.string (X1 ++ ByteArray.mk #[61] ++ X2)) by simp [go_sem])
              have hlen : ((ss.filterMap (txtOf l)).map mkB).length ≤ 2147483647 := by rw [List.length_map]; omega
              go_wp2_with (at_builtin; refine sbuf_append 25 9 (.string ⟨#[]⟩) Try.underlying25 info9 rfl rfl _ _ rfl wc.heap.size _ _ rfl HU.out _ _ rfl (X1 ++ ByteArray.mk #[61] ++ X2) HM.out hlen HBa.out.size ?_; intro v' w' hb' hg' hbel')
              have HRg5 := Lib.hid ((HRg4.out.alloc (.cells #[.string (X1 ++ ByteArray.mk #[61] ++ X2)] 9)).kept hg' (row_ne_low HU.out hbl) (row_ne_iter HU.out (HRg4.out.alloc _)))
              have hnn' : v' ≠ .slice none 0 0 := by
                rintro rfl
                rcases hb'.2 with ⟨_, h⟩ | ⟨_, _, _, h, _⟩
                · simp at h
                · cases h
              go_roundg cnt2
              case measure => exact hlt
              case rel => exact ⟨_, ss ++ [x], HRg5, hcs2, by rw [Hid, HT2.out, HTx.out]; exact hb', hnn', HStep, HBa.out.trans hbel'⟩
end Go.Proofs.Ytlpkdagdfopchaa
