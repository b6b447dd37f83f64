/- URLSetSanitized f17. -/
import Derived.Test.YtlpkdagdfopchaaGreatDoorG36
namespace Go.Proofs.YtlpkdagdfopchaaGreatDoor
open Go.RowKit
set_option linter.unusedVariables false
set_option linter.unusedSimpArgs false

theorem below_up {B : Nat} {w w1 w2 : World} (h : Below B w w1) (hB : B ≤ w1.heap.size) (k : Below w1.heap.size w1 w2) : Below B w w2 ∧ B ≤ w2.heap.size := ⟨below_then h hB k, Nat.le_trans hB k.size⟩
/-- The buffer, and what has become of the world. -/
structure BW (B : Nat) (w2 wx : World) (v : Value) (L : List UInt8) : Prop where
  buf : Buf wx B v L
  below : Below B w2 wx
  size : B ≤ wx.heap.size
theorem BW.step {B : Nat} {w2 wx wy : World} {v : Value} {L : List UInt8} (h : BW B w2 wx v L) (k : Below wx.heap.size wx wy) : BW B w2 wy v L :=
  ⟨h.buf.below k, below_then h.below h.size k, Nat.le_trans h.size k.size⟩
theorem BW.stepB {B : Nat} {w2 wx wy : World} {v v' : Value} {L L' : List UInt8} (h : BW B w2 wx v L) (k : Below B wx wy) (b : Buf wy B v' L') : BW B w2 wy v' L' :=
  ⟨b, h.below.trans k, Nat.le_trans h.size k.size⟩
theorem addL_1 (u : List UInt8) : addL [] u [] = [] ++ commaL u := by rw [addL, if_pos rfl, if_pos rfl, List.append_nil]
theorem addL_2 (u : List UInt8) {m : List UInt8} (hm : ¬ m = []) : addL [] u m = [] ++ commaL u ++ [32] ++ m := by rw [addL, if_pos rfl, if_neg hm, ← List.append_assoc]
theorem addL_3 {o : List UInt8} (u : List UInt8) (ho : ¬ o = []) : addL o u [] = o ++ [32, 44, 32] ++ commaL u := by rw [addL, if_neg ho, if_pos rfl, List.append_nil]
theorem addL_4 {o : List UInt8} (u : List UInt8) {m : List UInt8} (ho : ¬ o = []) (hm : ¬ m = []) : addL o u m = o ++ [32, 44, 32] ++ commaL u ++ [32] ++ m := by rw [addL, if_neg ho, if_neg hm, ← List.append_assoc]
theorem below_frozen {C : Nat} {w w' : World} (h : Below C w w') (b o : Nat) (hb : b < C) : w'.frozen? ⟨b, o, none⟩ = w.frozen? ⟨b, o, none⟩ := by
  simp only [World.frozen?, h.block b hb]
theorem load33 {W : World} {G : Nat} {A : ByteArray} (hc : W.cell? ⟨G, 0, none⟩ = some (.string A)) : (loadVar 33 ⟨G, 0, none⟩).run Tryz.prog W = .ok (.agg #[.string A]) W := by
  have h1 : (isAgg 33).run Tryz.prog W = .ok true W := by kernel_rfl
  have h2 : (sizeOf 33).run Tryz.prog W = .ok 1 W := by kernel_rfl
  have h3 : (loadCells ⟨G, 0, none⟩ 1).run Tryz.prog W = .ok #[.string A] W := by
    have := run_loadCells (P := Tryz.prog) W ⟨G, 0, none⟩ 1 (fun _ => .string A) (fun j hj => by
      have : j = 0 := by omega
      subst this
      have hadd : (⟨G, 0, none⟩ : Addr).add 0 = ⟨G, 0, none⟩ := by unfold Addr.add; split <;> simp_all
      rw [hadd]; exact hc)
    exact this
  simp only [loadVar, Sem.run_bind, h1, h2, h3, Result.andThen_ok, if_true, Sem.run_pure]
theorem empty_of {T : ByteArray} (h : T.size = 0) : T = ByteArray.empty := by
  apply ByteArray.ext
  exact Array.eq_empty_of_size_eq_zero h

set_option maxHeartbeats 8000000 in
set_option maxRecDepth 100000 in
theorem sanitized_calls (s : ByteArray) (hs : s.size ≤ 200) (R : List UInt8) (hR : Hid (setL (s.size + 1) s.data.toList [] = (R, true))) (w : World) (hE : Hid (Env2 w w.heap.size)) :
    Calls Tryz.prog 17 #[.string s] w fun e w' => (∃ A : ByteArray, e = .returned (.agg #[.string A]) ∧ A.data.toList = finL R) ∧ Below w.heap.size w w' := by
  have HB0 := Lib.hid ((Below.refl w.heap.size w).alloc (Nat.le_refl _) (Obj.cells #[Value.string ⟨#[]⟩] 33))
  have HC0 : Hid ((w.alloc (Obj.cells #[Value.string ⟨#[]⟩] 33)).cell? ⟨w.heap.size, 0, none⟩ = some (.string ⟨#[]⟩)) := Lib.hid (by rw [World.cell?_alloc_at _ _ _ _ rfl]; rfl)
  have HF0 : Hid ((w.alloc (Obj.cells #[Value.string ⟨#[]⟩] 33)).frozen? ⟨w.heap.size, 0, none⟩ = false) := Lib.hid (World.frozen?_alloc_at _ _ _ _ rfl)
  have HG0 : Hid ((w.alloc (Obj.cells #[Value.string ⟨#[]⟩] 33)).heap.size = w.heap.size + 1) := Lib.hid (by simp)
  go_enter Tryz.func17, Tryz.ntmps17
  go_upto_block 0 with fail
  generalize w.alloc (Obj.cells #[Value.string ⟨#[]⟩] 33) = w2 at HB0 HC0 HF0 HG0 ⊢
  generalize hG : w.heap.size = G at HC0 HF0 HG0 HB0 hE ⊢
  have hG := Lib.hid hG
  obtain ⟨B, hB⟩ : ∃ B, B = w2.heap.size := ⟨_, rfl⟩
  have hB := Lib.hid hB
  have HE : Hid (Env2 w2 B) := Lib.hid ((hE.out.below HB0.out).up (by rw [hB.out, HG0.out]; omega))
  have HBW : Hid (BW B w2 w2 (.slice none 0 0) []) := Lib.hid ⟨Buf.nil _ _, Below.refl _ _, by rw [hB.out]; exact Nat.le_refl _⟩
  go_cut [3] (fun v wx => Hid (BW B w2 wx v R))
  case first =>
    go_wp2_with fail
    go_loopg [0, 3] (s.size + 1) (fun gg s0 s3 wx => ∃ (T : ByteArray) (v : Value) (L : List UInt8), T.size < gg ∧ T.size ≤ 200 ∧ L.length ≤ 11 * (200 - T.size) ∧ s0 = .string T ∧ s3 = v ∧ Hid (setL gg T.data.toList L = (R, true)) ∧ Hid (BW B w2 wx v L))
    case atStart => exact ⟨s, _, [], by omega, hs, by simp, rfl, rfl, hR, HBW⟩
    case round =>
      obtain ⟨T, v, L, hTg, hT, hLl, rfl, rfl, hset, hbw⟩ := hrel
      obtain ⟨n, rfl⟩ : ∃ n, gk = n + 1 := ⟨gk - 1, by omega⟩
      by_cases hT0 : T.size = 0
      · have hTe := empty_of hT0
        subst hTe
        have hRL : Hid (R = L) := Lib.hid (by
          have h := hset.out
          rw [show ByteArray.empty.data.toList = ([] : List UInt8) from rfl, setL_nil] at h
          injection h with h _
          exact h.symm)
        go_wp2_with fail
        go_meet
        rw [hRL.out]
        exact hbw
      · have hne : ¬ T = ByteArray.empty := fun e => hT0 (by rw [e]; rfl)
        have hsay := Lib.hid (say_of hset.out)
        go_wp2_with fail
        refine (white_calls _).mono ?_
        rintro e w3 ⟨rfl, hb⟩
        have hbw3 := Lib.hid (hbw.out.step hb)
        clear hb
        go_wp2_with fail
        refine (consumeIn_calls whiteA spaceC (Lib.hid whiteMask) T (by omega) _).mono ?_
        rintro e w4 ⟨X1, T1, rfl, _, hT1, hb⟩
        have hbw4 := Lib.hid (hbw3.out.step hb)
        have hT1s : T1.size ≤ T.size := by
          have a := tw_dw spaceC T.data.toList
          rw [← hT1, len_data, len_data] at a
          omega
        have hT1 := Lib.hid hT1
        clear hb
        go_wp2_with fail
        refine (white_calls _).mono ?_
        rintro e w5 ⟨rfl, hb⟩
        have hbw5 := Lib.hid (hbw4.out.step hb)
        clear hb
        go_wp2_with fail
        refine (consumeNotIn_calls whiteA spaceC (Lib.hid whiteMask) T1 (by omega) _).mono ?_
        rintro e w6 ⟨U, T2, rfl, hU, hT2, hb⟩
        have hbw6 := Lib.hid (hbw5.out.step hb)
        have hT2s : T2.size ≤ 200 := by
          have a := tw_dw (fun c => !spaceC c) T1.data.toList
          rw [← hT2, len_data, len_data] at a
          omega
        have hU := Lib.hid hU
        have hT2 := Lib.hid hT2
        clear hb
        go_wp2_with fail
        refine (white_calls _).mono ?_
        rintro e w7 ⟨rfl, hb⟩
        have hbw7 := Lib.hid (hbw6.out.step hb)
        clear hb
        go_wp2_with fail
        refine (consumeIn_calls whiteA spaceC (Lib.hid whiteMask) T2 (by omega) _).mono ?_
        rintro e w8 ⟨X2, T3, rfl, _, hT3, hb⟩
        have hbw8 := Lib.hid (hbw7.out.step hb)
        have hT3s : T3.size ≤ 200 := by
          have a := tw_dw spaceC T2.data.toList
          rw [← hT3, len_data, len_data] at a
          omega
        have hT3 := Lib.hid hT3
        clear hb
        go_wp2_with fail
        refine (metas_calls _).mono ?_
        rintro e w9 ⟨rfl, hb⟩
        have hbw9 := Lib.hid (hbw8.out.step hb)
        clear hb
        go_wp2_with fail
        refine (consumeNotIn_calls metaA metaC (Lib.hid metaMask) T3 (by omega) _).mono ?_
        rintro e wa ⟨M, T4, rfl, hM, hT4, hb⟩
        have hbwa := Lib.hid (hbw9.out.step hb)
        have hT4s : T4.size ≤ 200 := by
          have a := tw_dw (fun c => !metaC c) T3.data.toList
          rw [← hT4, len_data, len_data] at a
          omega
        have hM := Lib.hid hM
        have hT4 := Lib.hid hT4
        clear hb
        go_wp2_with fail
        refine (white_calls _).mono ?_
        rintro e wb ⟨rfl, hb⟩
        have hbwb := Lib.hid (hbwa.out.step hb)
        clear hb
        go_wp2_with fail
        refine (consumeIn_calls whiteA spaceC (Lib.hid whiteMask) T4 (by omega) _).mono ?_
        rintro e wc ⟨X3, T5, rfl, _, hT5, hb⟩
        have hbwc := Lib.hid (hbwb.out.step hb)
        have hT5 := Lib.hid hT5
        clear hb
        have hUd : Hid (U.data.toList = uOf T.data.toList) := Lib.hid (by rw [hU.out, hT1.out]; rfl)
        have hMd : Hid (M.data.toList = mOf T.data.toList) := Lib.hid (by rw [hM.out, hT3.out, hT2.out, hT1.out]; rfl)
        have hRd : Hid (T5.data.toList = rOf T.data.toList) := Lib.hid (by rw [hT5.out, hT4.out, hT3.out, hT2.out, hT1.out]; rfl)
        have hsz : U.size + M.size + T5.size ≤ T.size := by
          have a := round_len T.data.toList
          rw [← hUd.out, ← hMd.out, ← hRd.out, len_data, len_data, len_data, len_data] at a
          exact a
        clear hbw hbw3 hbw4 hbw5 hbw6 hbw7 hbw8 hbw9 hbwa hbwb hU hM hT1 hT2 hT3 hT4 hT5 hT1s hT2s hT3s hT4s
        obtain ⟨sa, hsp⟩ : ∃ sa, specSafe U = (sa, true) := ⟨(specSafe U).1, by
          have h := hsay.out.1
          rw [← hUd.out, bl_data] at h
          rw [← h]⟩
        obtain ⟨ma, hmp⟩ : ∃ ma, measR M.data.toList = (ma, true) := ⟨(measR M.data.toList).1, by
          have h := hsay.out.2
          rw [← hMd.out] at h
          rw [← h]⟩
        have hsafe := Lib.hid (safe_sides U sa hsp)
        obtain ⟨X, hX0⟩ : ∃ X : Bool, X = (decide (U.data.toList ≠ []) && sa && ma) := ⟨_, rfl⟩
        have hNext : Hid (nextL T.data.toList L = if X = true then addL L U.data.toList M.data.toList else L) := Lib.hid (by
          rw [nextL, ← hUd.out, ← hMd.out, bl_data, hsp, hmp, hX0]
          by_cases h : U.data.toList = [] <;> cases sa <;> cases ma <;> simp [h])
        have hX := Lib.hid hX0
        have hmp := Lib.hid hmp
        clear hX0 hsp
        go_upto_region 9 with fail
        go_cut [49] (fun q wx => q = .bool X ∧ Hid (BW B w2 wx u3 L))
        case first =>
          by_cases hU0 : U.size = 0
          · have hXf : Hid (X = false) := Lib.hid (by
              have : U.data.toList = [] := List.eq_nil_of_length_eq_zero (by rw [len_data]; exact hU0)
              rw [hX.out, this]; rfl)
            have hUe := empty_of hU0
            clear hU0
            subst hUe
            go_wp2_with fail
            go_meet
            exact ⟨by rw [hXf.out], hbwc⟩
          · have hXt : Hid (X = (sa && ma)) := Lib.hid (by
              have : U.data.toList ≠ [] := fun e => hU0 (by rw [← len_data, e]; rfl)
              rw [hX.out, decide_eq_true this, Bool.true_and])
            have t1 : ((U.size : Int) != 0) = true := by rw [bne_iff_ne]; omega
            have hUne : ¬ U = ByteArray.empty := fun e => hU0 (by rw [e]; rfl)
            go_wp2_with fail
            refine (isSafe_calls U _ (by omega)).mono ?_
            rintro e wd ⟨rfl, hb⟩
            rw [hsafe.out]
            have hbwd := Lib.hid (hbwc.out.step hb)
            clear hb
            cases sa with
            | false =>
              go_wp2_with fail
              go_meet
              exact ⟨by rw [hXt.out]; rfl, hbwd⟩
            | true =>
              go_wp2_with fail
              refine (wellFormed_calls M (by omega) ma hmp _ (Lib.hid ((HE.out.below hbwd.out.below).up hbwd.out.size))).mono ?_
              rintro e we ⟨rfl, hb⟩
              have hbwe := Lib.hid (hbwd.out.step hb)
              clear hb
              go_wp2_with fail
              go_meet
              exact ⟨by rw [hXt.out]; rfl, hbwe⟩
        case rest =>
          obtain ⟨rfl, hbw1⟩ := hcut
          go_upto_if 49 with fail
          go_cut [3] (fun q wx => Hid (BW B w2 wx q (nextL T.data.toList L)))
          case first =>
            cases X with
            | false =>
              go_wp2_with fail
              go_meet
              rw [hNext.out]
              exact hbw1
            | true =>
              have hU1 : 0 < U.size := by
                rcases Nat.eq_zero_or_pos U.size with e | e
                · have h0 : U.data.toList = [] := List.eq_nil_of_length_eq_zero (by rw [len_data]; exact e)
                  have := hX.out
                  rw [h0] at this
                  simp at this
                · exact e
              have hXN : Hid (nextL T.data.toList L = addL L U.data.toList M.data.toList) := Lib.hid (by rw [hNext.out]; rfl)
              have hUb : U.size ≤ 200 := by omega
              have hMb : M.size ≤ 200 := by omega
              have hLb : L.length ≤ 2200 := by omega
              have HLs : L.length + (ByteArray.mk #[32, 44, 32]).size ≤ 140737488355328 := by show L.length + 3 ≤ _; omega
              rcases hbw1.out.buf.cells with ⟨hv, hL0⟩ | ⟨g, cap, hv, _⟩
              · subst hv
                subst hL0
                go_wp2_with fail
                have hL1 : ([] : List UInt8).length ≤ 2300 := by simp
                refine (append_calls U hU1 hUb B _ ([] : List UInt8) _ (by omega) hbw1.out.size (Lib.hid hbw1.out.buf)).mono ?_
                rintro e wy ⟨v2, rfl, hbuf2, hbel2⟩
                have hbwy := Lib.hid (hbw1.out.stepB hbel2 hbuf2)
                clear hbuf2 hbel2
                have hl2 : (([] : List UInt8) ++ commaL U.data.toList).length ≤ 2600 := by
                  have := commaL_len U.data.toList
                  rw [len_data] at this
                  rw [List.length_append]; omega
                obtain ⟨L2, hL2⟩ : ∃ L2, L2 = ([] : List UInt8) ++ commaL U.data.toList := ⟨_, rfl⟩
                rw [← hL2] at hbwy hl2
                have hL2 := Lib.hid hL2
                by_cases hM0 : M.size = 0
                · have hMe := empty_of hM0
                  clear hM0
                  subst hMe
                  have hfin : Hid (L2 = nextL T.data.toList []) := Lib.hid (by rw [hXN.out, hL2.out]; exact (addL_1 _).symm)
                  go_wp2_with fail
                  go_meet
                  rw [← hfin.out]
                  exact hbwy
                · have tM : ((M.size : Int) != 0) = true := by rw [bne_iff_ne]; omega
                  have hMne : ¬ M = ByteArray.empty := fun e => hM0 (by rw [e]; rfl)
                  have hMl : Hid (¬ M.data.toList = []) := Lib.hid (fun e => hM0 (by rw [← len_data, e]; rfl))
                  have hfin : Hid (L2 ++ [32] ++ M.data.toList = nextL T.data.toList []) := Lib.hid (by rw [hXN.out, hL2.out]; exact (addL_2 _ hMl.out).symm)
                  have hszA : ∀ o : Obj, B ≤ (wy.alloc o).heap.size := fun o => Nat.le_trans hbwy.out.size ((Below.refl wy.heap.size wy).alloc (Nat.le_refl _) o).size
                  have HM1 : ∀ j (hj : j < ([32] : List UInt8).length), (wy.alloc (Obj.cells #[Value.int .u8 32] 5)).cell? ⟨wy.heap.size, j, none⟩ = some (byteV ([32] : List UInt8)[j]) := fun j hj => by
                    have hj0 : j = 0 := by simp at hj; omega
                    subst hj0
                    rw [World.cell?_alloc_at _ _ _ _ rfl]; rfl
                  have hl3 : L2.length + 1 ≤ 140737488355328 := by omega
                  clear hM0
                  have HM1 := Lib.hid HM1
                  go_upto_region 15 with (at_builtin; refine buf_append_byte rfl _ _ rfl B _ _ rfl (hbwy.out.buf.alloc _) _ _ _ rfl [32] rfl HM1.out hl3 (hszA _) ?_; intro v3 w3 hb3 hg3 hbl3)
                  have hbw3 := Lib.hid ((BW.mk (hbwy.out.buf.alloc _) (hbwy.out.below.alloc hbwy.out.size (Obj.cells #[Value.int .u8 32] 5)) (hszA _)).stepB hbl3 hb3)
                  have hl4 : (L2 ++ [32]).length + M.size ≤ 140737488355328 := by rw [List.length_append]; show _ + 1 + _ ≤ _; omega
                  clear hb3 hg3 hbl3
                  go_wp2_with (at_builtin; refine buf_append_str rfl _ _ rfl B _ _ rfl hbw3.out.buf _ rfl hl4 hbw3.out.size ?_; intro v4 w4 hb4 hg4 hbl4)
                  have hbw4 := Lib.hid (hbw3.out.stepB hbl4 hb4)
                  clear hb4 hg4 hbl4
                  go_meet
                  rw [← hfin.out]
                  exact hbw4
              · subst hv
                by_cases hL0 : L = []
                · subst hL0
                  go_wp2_with fail
                  have hL1 : ([] : List UInt8).length ≤ 2300 := by simp
                  refine (append_calls U hU1 hUb B _ ([] : List UInt8) _ (by omega) hbw1.out.size (Lib.hid hbw1.out.buf)).mono ?_
                  rintro e wy ⟨v2, rfl, hbuf2, hbel2⟩
                  have hbwy := Lib.hid (hbw1.out.stepB hbel2 hbuf2)
                  clear hbuf2 hbel2
                  have hl2 : (([] : List UInt8) ++ commaL U.data.toList).length ≤ 2600 := by
                    have := commaL_len U.data.toList
                    rw [len_data] at this
                    rw [List.length_append]; omega
                  obtain ⟨L2, hL2⟩ : ∃ L2, L2 = ([] : List UInt8) ++ commaL U.data.toList := ⟨_, rfl⟩
                  rw [← hL2] at hbwy hl2
                  have hL2 := Lib.hid hL2
                  by_cases hM0 : M.size = 0
                  · have hMe := empty_of hM0
                    clear hM0
                    subst hMe
                    have hfin : Hid (L2 = nextL T.data.toList []) := Lib.hid (by rw [hXN.out, hL2.out]; exact (addL_1 _).symm)
                    go_wp2_with fail
                    go_meet
                    rw [← hfin.out]
                    exact hbwy
                  · have tM : ((M.size : Int) != 0) = true := by rw [bne_iff_ne]; omega
                    have hMne : ¬ M = ByteArray.empty := fun e => hM0 (by rw [e]; rfl)
                    have hMl : Hid (¬ M.data.toList = []) := Lib.hid (fun e => hM0 (by rw [← len_data, e]; rfl))
                    have hfin : Hid (L2 ++ [32] ++ M.data.toList = nextL T.data.toList []) := Lib.hid (by rw [hXN.out, hL2.out]; exact (addL_2 _ hMl.out).symm)
                    have hszA : ∀ o : Obj, B ≤ (wy.alloc o).heap.size := fun o => Nat.le_trans hbwy.out.size ((Below.refl wy.heap.size wy).alloc (Nat.le_refl _) o).size
                    have HM1 : ∀ j (hj : j < ([32] : List UInt8).length), (wy.alloc (Obj.cells #[Value.int .u8 32] 5)).cell? ⟨wy.heap.size, j, none⟩ = some (byteV ([32] : List UInt8)[j]) := fun j hj => by
                      have hj0 : j = 0 := by simp at hj; omega
                      subst hj0
                      rw [World.cell?_alloc_at _ _ _ _ rfl]; rfl
                    have hl3 : L2.length + 1 ≤ 140737488355328 := by omega
                    clear hM0
                    have HM1 := Lib.hid HM1
                    go_upto_region 15 with (at_builtin; refine buf_append_byte rfl _ _ rfl B _ _ rfl (hbwy.out.buf.alloc _) _ _ _ rfl [32] rfl HM1.out hl3 (hszA _) ?_; intro v3 w3 hb3 hg3 hbl3)
                    have hbw3 := Lib.hid ((BW.mk (hbwy.out.buf.alloc _) (hbwy.out.below.alloc hbwy.out.size (Obj.cells #[Value.int .u8 32] 5)) (hszA _)).stepB hbl3 hb3)
                    have hl4 : (L2 ++ [32]).length + M.size ≤ 140737488355328 := by rw [List.length_append]; show _ + 1 + _ ≤ _; omega
                    clear hb3 hg3 hbl3
                    go_wp2_with (at_builtin; refine buf_append_str rfl _ _ rfl B _ _ rfl hbw3.out.buf _ rfl hl4 hbw3.out.size ?_; intro v4 w4 hb4 hg4 hbl4)
                    have hbw4 := Lib.hid (hbw3.out.stepB hbl4 hb4)
                    clear hb4 hg4 hbl4
                    go_meet
                    rw [← hfin.out]
                    exact hbw4
                · have hL0' := Lib.hid hL0
                  have hlp : 0 < L.length := List.length_pos_iff.2 hL0
                  have tL : ((L.length : Int) != 0) = true := by rw [bne_iff_ne]; omega
                  go_wp2_with (at_builtin; refine buf_append_str rfl _ _ rfl B _ _ rfl hbw1.out.buf _ rfl HLs hbw1.out.size ?_; intro v1 w1 hb1 hg1 hbl1)
                  have hbwx : Hid (BW B w2 w1 v1 (L ++ [32, 44, 32])) := Lib.hid (hbw1.out.stepB hbl1 hb1)
                  clear hb1 hg1 hbl1
                  have hL1 : (L ++ [32, 44, 32]).length ≤ 2300 := by rw [List.length_append]; show _ + 3 ≤ _; omega
                  refine (append_calls U hU1 hUb B v1 (L ++ [32, 44, 32]) _ (by omega) hbwx.out.size (Lib.hid hbwx.out.buf)).mono ?_
                  rintro e wy ⟨v2, rfl, hbuf2, hbel2⟩
                  have hbwy := Lib.hid (hbwx.out.stepB hbel2 hbuf2)
                  clear hbuf2 hbel2
                  have hl2 : (L ++ [32, 44, 32] ++ commaL U.data.toList).length ≤ 2600 := by
                    have := commaL_len U.data.toList
                    rw [len_data] at this
                    rw [List.length_append]; omega
                  obtain ⟨L2, hL2⟩ : ∃ L2, L2 = L ++ [32, 44, 32] ++ commaL U.data.toList := ⟨_, rfl⟩
                  rw [← hL2] at hbwy hl2
                  have hL2 := Lib.hid hL2
                  by_cases hM0 : M.size = 0
                  · have hMe := empty_of hM0
                    clear hM0
                    subst hMe
                    have hfin : Hid (L2 = nextL T.data.toList L) := Lib.hid (by rw [hXN.out, hL2.out]; exact (addL_3 _ hL0'.out).symm)
                    go_wp2_with fail
                    go_meet
                    rw [← hfin.out]
                    exact hbwy
                  · have tM : ((M.size : Int) != 0) = true := by rw [bne_iff_ne]; omega
                    have hMne : ¬ M = ByteArray.empty := fun e => hM0 (by rw [e]; rfl)
                    have hMl : Hid (¬ M.data.toList = []) := Lib.hid (fun e => hM0 (by rw [← len_data, e]; rfl))
                    have hfin : Hid (L2 ++ [32] ++ M.data.toList = nextL T.data.toList L) := Lib.hid (by rw [hXN.out, hL2.out]; exact (addL_4 _ hL0'.out hMl.out).symm)
                    have hszA : ∀ o : Obj, B ≤ (wy.alloc o).heap.size := fun o => Nat.le_trans hbwy.out.size ((Below.refl wy.heap.size wy).alloc (Nat.le_refl _) o).size
                    have HM1 : ∀ j (hj : j < ([32] : List UInt8).length), (wy.alloc (Obj.cells #[Value.int .u8 32] 5)).cell? ⟨wy.heap.size, j, none⟩ = some (byteV ([32] : List UInt8)[j]) := fun j hj => by
                      have hj0 : j = 0 := by simp at hj; omega
                      subst hj0
                      rw [World.cell?_alloc_at _ _ _ _ rfl]; rfl
                    have hl3 : L2.length + 1 ≤ 140737488355328 := by omega
                    clear hM0
                    have HM1 := Lib.hid HM1
                    go_upto_region 15 with (at_builtin; refine buf_append_byte rfl _ _ rfl B _ _ rfl (hbwy.out.buf.alloc _) _ _ _ rfl [32] rfl HM1.out hl3 (hszA _) ?_; intro v3 w3 hb3 hg3 hbl3)
                    have hbw3 := Lib.hid ((BW.mk (hbwy.out.buf.alloc _) (hbwy.out.below.alloc hbwy.out.size (Obj.cells #[Value.int .u8 32] 5)) (hszA _)).stepB hbl3 hb3)
                    have hl4 : (L2 ++ [32]).length + M.size ≤ 140737488355328 := by rw [List.length_append]; show _ + 1 + _ ≤ _; omega
                    clear hb3 hg3 hbl3
                    go_wp2_with (at_builtin; refine buf_append_str rfl _ _ rfl B _ _ rfl hbw3.out.buf _ rfl hl4 hbw3.out.size ?_; intro v4 w4 hb4 hg4 hbl4)
                    have hbw4 := Lib.hid (hbw3.out.stepB hbl4 hb4)
                    clear hb4 hg4 hbl4
                    go_meet
                    rw [← hfin.out]
                    exact hbw4
          case rest =>
            have hbw2 := hcut
            have hnl : (nextL T.data.toList L).length ≤ L.length + 9 + U.size + M.size := by
              have a := next_len T.data.toList L
              rw [← hUd.out, ← hMd.out, len_data, len_data] at a
              exact a
            by_cases hT50 : T5.size = 0
            · have hr : rOf T.data.toList = [] := by rw [← hRd.out]; exact List.eq_nil_of_length_eq_zero (by rw [len_data]; exact hT50)
              have hRf : Hid (R = nextL T.data.toList L) := Lib.hid (by
                have h := hset.out
                rw [setL_end hsay.out hr] at h
                injection h with h _
                exact h.symm)
              have hTe := empty_of hT50
              clear hT50 hr
              subst hTe
              go_wp2_with fail
              go_meet
              rw [hRf.out]
              exact hbw2
            · have hT5p : 0 < T5.size := by omega
              have hhd := head_byte hT5p
              have hr : Hid (rOf T.data.toList = T5[0] :: T5.data.toList.drop 1) := Lib.hid (hRd.out.symm.trans hhd)
              have hT5ne : ¬ T5 = ByteArray.empty := fun e => hT50 (by rw [e]; rfl)
              have t5 : ((T5.size : Int) == 0) = false := by simp; omega
              clear hhd
              by_cases h44 : T5[0].toNat = 44
              · have t44 : ((T5[0].toNat : Int) != 44) = false := by rw [bne_eq_false_iff_eq]; omega
                have hmore : Hid (setL n (T5.extract 1 T5.size).data.toList (nextL T.data.toList L) = (R, true)) := Lib.hid (by
                  rw [ext_drop, ← setL_more hsay.out hr.out h44]
                  exact hset.out)
                have hXs : (T5.extract 1 T5.size).size = T5.size - 1 := by rw [ByteArray.size_extract]; omega
                clear h44
                go_wp2_with fail
                go_roundg n
                case measure => omega
                case rel => exact ⟨T5.extract 1 T5.size, _, nextL T.data.toList L, by rw [hXs]; omega, by rw [hXs]; omega, by rw [hXs]; omega, rfl, rfl, hmore, hbw2⟩
              · have t44 : ((T5[0].toNat : Int) != 44) = true := by rw [bne_iff_ne]; omega
                have hRf : Hid (R = nextL T.data.toList L) := Lib.hid (by
                  have h := hset.out
                  rw [setL_stop hsay.out hr.out h44] at h
                  injection h with h _
                  exact h.symm)
                clear h44
                go_wp2_with fail
                go_meet
                rw [hRf.out]
                exact hbw2
  case rest =>
    have hbw := hcut
    have hGB : G < B := by rw [hB.out, HG0.out]; omega
    have hcell : _ := (below_cell hbw.out.below G 0 hGB).trans HC0.out
    have hfr : _ := (below_frozen hbw.out.below G 0 hGB).trans HF0.out
    have hEnd : Hid (Below G w wc) := Lib.hid (HB0.out.trans (hbw.out.below.mono (by omega)))
    have hcs : ∀ v : Value, (wc.setCell ⟨G, 0, none⟩ v).cell? ⟨G, 0, none⟩ = some v := fun v => World.cell?_setCell_same _ _ _ hcell
    have hcs := Lib.hid hcs
    have hE2 : ∀ v : Value, Below w.heap.size w (wc.setCell ⟨G, 0, none⟩ v) := fun v => by rw [hG.out]; exact hEnd.out.setCell (Nat.le_refl _) _
    have hE2 := Lib.hid hE2
    have hconv := buf_string hbw.out.buf
    rcases hbw.out.buf.cells with ⟨hv, hL0⟩ | ⟨g, cap, hv, _⟩
    · subst hv
      subst hL0
      clear hconv
      go_wp2_with fail
      have hc := hcs.out (Value.string innoc)
      refine bodyPost_ret (v := .agg #[.string innoc]) (results_cell rfl rfl (load33 hc)) rfl ⟨⟨innoc, rfl, by rw [finL, if_pos rfl]⟩, hE2.out _⟩
    · subst hv
      by_cases hL0 : R = []
      · subst hL0
        clear hconv
        go_wp2_with fail
        have hc := hcs.out (Value.string innoc)
        refine bodyPost_ret (v := .agg #[.string innoc]) (results_cell rfl rfl (load33 hc)) rfl ⟨⟨innoc, rfl, by rw [finL, if_pos rfl]⟩, hE2.out _⟩
      · have hL0' := Lib.hid hL0
        have tL : ((R.length : Int) == 0) = false := by
          have := List.length_pos_iff.2 hL0
          simp; omega
        clear hL0
        go_wp2_with fail
        have hc := hcs.out (Value.string ⟨R.toArray⟩)
        refine bodyPost_ret (v := .agg #[.string ⟨R.toArray⟩]) (results_cell rfl rfl (load33 hc)) rfl ⟨⟨⟨R.toArray⟩, rfl, by rw [finL, if_neg hL0'.out]⟩, hE2.out _⟩

end Go.Proofs.YtlpkdagdfopchaaGreatDoor
