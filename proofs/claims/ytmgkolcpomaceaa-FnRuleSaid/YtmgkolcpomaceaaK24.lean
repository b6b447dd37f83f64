/- StyleFromProperties. -/
import Derived.Test.YtmgkolcpomaceaaK23
namespace Go.Proofs.Ytmgkolcpomaceaa
open Go.RowKit
set_option linter.unusedVariables false
set_option linter.unusedSimpArgs false

set_option maxHeartbeats 64000000 in
set_option maxRecDepth 100000 in
theorem props_calls (l0 l1 : List ByteArray) (s : Nat → ByteArray) (A0 A1 : Option Addr) (c0 c1 : Nat) (w : World)
    (h0 : Hid (StrsAt w A0 l0)) (h1 : Hid (StrsAt w A1 l1)) (hl0 : l0.length ≤ 201) (hl1 : l1.length ≤ 201)
    (hs0 : Hid (∀ x ∈ l0, x.size ≤ 200 ∧ asciiB x = true)) (hs1 : Hid (∀ x ∈ l1, x.size ≤ 200 ∧ asciiB x = true)) (hss : Hid (∀ i, (s i).size ≤ 200)) :
    Calls Try.prog 109 #[.agg #[.slice A0 l0.length c0, .slice A1 l1.length c1, .string (s 2), .string (s 3), .string (s 4), .string (s 5), .string (s 6), .string (s 7), .string (s 8), .string (s 9), .string (s 10), .string (s 11), .string (s 12), .string (s 13), .string (s 14), .string (s 15), .string (s 16)]] w fun e w' =>
      ∃ T : ByteArray, e = .returned (.agg #[.string T]) ∧ T.data.toList = textP l0 l1 s 17 ∧ T.size ≤ 2000000 ∧ Below w.heap.size w w' := by
  obtain ⟨pc, hpc⟩ : ∃ pc, pc = (propCell A0 l0.length c0 A1 l1.length c1 s) := ⟨_, rfl⟩
  have HPC := fun i => congrFun hpc i
  have HPS : Hid (PropW pc w ((w.alloc (Obj.cells (propArr (propCell A0 l0.length c0 A1 l1.length c1 s)) 102)).alloc (Obj.cells #[.string ⟨#[]⟩] 54))) := by rw [hpc]; exact propW_start _ w
  clear hpc
  have hz : textP l0 l1 s 0 = [] := rfl
  go_enter Try.func109, Try.ntmps109
  go_upto_if 12 with fail
  rename_i K hK
  refine stage0_calls l0 A0 c0 pc _ w _ ⟨#[]⟩ (by decide) ?fr ?h12 h0 hl0 hs0 (HPC 0) HPS (Lib.hid (fun a1 T1 w1 fr1 hT1 hs1' hP1 => ?_))
  case fr => exact ⟨rfl, rfl, rfl, rfl, rfl⟩
  case h12 => rfl
  refine hK _ _ ?_
  clear hK HPS
  have hz0 : (ByteArray.mk #[]).size = 0 := rfl
  replace hs1' : T1.size ≤ 450000 := by omega
  replace hT1 : T1.data.toList = textP l0 l1 s 1 := by rw [hT1, textP_succ l0 l1 s 0, hz]; rfl
  refine wp_seq ?_
  refine stage1_calls l1 A1 c1 pc a1 w w1 T1 (by omega) fr1 h1 hl1 hs1 (HPC 1) hP1 (Lib.hid (fun a2 T2 w2 fr2 hT2 hs2 hP2 => ?_))
  replace hT2 : T2.data.toList = textP l0 l1 s 2 := by rw [hT2, hT1, textP_succ l0 l1 s 1]; rfl
  replace hs2 : T2.size ≤ 1000000 := by omega
  clear hT1 hP1 fr1 hs1'
  refine wp_seq ?_
  refine stage_S 87 2 (by decide) (by decide) (by decide) (ByteArray.mk #[100, 105, 115, 112, 108, 97, 121, 58]) 136 shownS (fun x w h => filter_shownS x w h) (fun x h => shownS_size x h) (fun g w => by kernel_rfl) _ _ pc a2 w w2 T2 (s 2) fr2 hP2 (HPC 2) (hss.out 2) (by omega) (by decide) (fun a3 T3 w3 fr3 hT3 hs3 hP3 => ?_) _ _ _ _ _ _ _ _ _ _ _ _ _ _ _ _ _ _ _ _ _ _ _ _ _ _ _ _ _ _ _ _ _
  replace hT3 : T3.data.toList = textP l0 l1 s 3 := by
    rw [hT3, hT2, textP_succ l0 l1 s 2]
    show _ = _ ++ pieceS 2 (s 2) (shownS (s 2))
    rw [pieceS]
    show _ ++ (if _ then [] else (nmL 2 ++ [58]) ++ _ ++ _) = _
    rfl
  replace hs3 : T3.size ≤ 1000000 + 241 * (2 - 1) := by omega
  clear hT2 hP2 fr2 hs2
  refine wp_seq ?_
  refine stage_S 97 3 (by decide) (by decide) (by decide) (ByteArray.mk #[98, 97, 99, 107, 103, 114, 111, 117, 110, 100, 45, 99, 111, 108, 111, 114, 58]) 137 regS (fun x w h => filter_regS x w h) (fun x h => regS_size x h) (fun g w => by kernel_rfl) _ _ pc a3 w w3 T3 (s 3) fr3 hP3 (HPC 3) (hss.out 3) (by omega) (by decide) (fun a4 T4 w4 fr4 hT4 hs4 hP4 => ?_) _ _ _ _ _ _ _ _ _ _ _ _ _ _ _ _ _ _ _ _ _ _ _ _ _ _ _ _ _ _ _ _ _
  replace hT4 : T4.data.toList = textP l0 l1 s 4 := by
    rw [hT4, hT3, textP_succ l0 l1 s 3]
    show _ = _ ++ pieceS 3 (s 3) (regS (s 3))
    rw [pieceS]
    show _ ++ (if _ then [] else (nmL 3 ++ [58]) ++ _ ++ _) = _
    rfl
  replace hs4 : T4.size ≤ 1000000 + 241 * (3 - 1) := by omega
  clear hT3 hP3 fr3 hs3
  refine wp_seq ?_
  refine stage_S 107 4 (by decide) (by decide) (by decide) (ByteArray.mk #[98, 97, 99, 107, 103, 114, 111, 117, 110, 100, 45, 112, 111, 115, 105, 116, 105, 111, 110, 58]) 137 regS (fun x w h => filter_regS x w h) (fun x h => regS_size x h) (fun g w => by kernel_rfl) _ _ pc a4 w w4 T4 (s 4) fr4 hP4 (HPC 4) (hss.out 4) (by omega) (by decide) (fun a5 T5 w5 fr5 hT5 hs5 hP5 => ?_) _ _ _ _ _ _ _ _ _ _ _ _ _ _ _ _ _ _ _ _ _ _ _ _ _ _ _ _ _ _ _ _ _
  replace hT5 : T5.data.toList = textP l0 l1 s 5 := by
    rw [hT5, hT4, textP_succ l0 l1 s 4]
    show _ = _ ++ pieceS 4 (s 4) (regS (s 4))
    rw [pieceS]
    show _ ++ (if _ then [] else (nmL 4 ++ [58]) ++ _ ++ _) = _
    rfl
  replace hs5 : T5.size ≤ 1000000 + 241 * (4 - 1) := by omega
  clear hT4 hP4 fr4 hs4
  refine wp_seq ?_
  refine stage_S 117 5 (by decide) (by decide) (by decide) (ByteArray.mk #[98, 97, 99, 107, 103, 114, 111, 117, 110, 100, 45, 114, 101, 112, 101, 97, 116, 58]) 137 regS (fun x w h => filter_regS x w h) (fun x h => regS_size x h) (fun g w => by kernel_rfl) _ _ pc a5 w w5 T5 (s 5) fr5 hP5 (HPC 5) (hss.out 5) (by omega) (by decide) (fun a6 T6 w6 fr6 hT6 hs6 hP6 => ?_) _ _ _ _ _ _ _ _ _ _ _ _ _ _ _ _ _ _ _ _ _ _ _ _ _ _ _ _ _ _ _ _ _
  replace hT6 : T6.data.toList = textP l0 l1 s 6 := by
    rw [hT6, hT5, textP_succ l0 l1 s 5]
    show _ = _ ++ pieceS 5 (s 5) (regS (s 5))
    rw [pieceS]
    show _ ++ (if _ then [] else (nmL 5 ++ [58]) ++ _ ++ _) = _
    rfl
  replace hs6 : T6.size ≤ 1000000 + 241 * (5 - 1) := by omega
  clear hT5 hP5 fr5 hs5
  refine wp_seq ?_
  refine stage_S 127 6 (by decide) (by decide) (by decide) (ByteArray.mk #[98, 97, 99, 107, 103, 114, 111, 117, 110, 100, 45, 115, 105, 122, 101, 58]) 137 regS (fun x w h => filter_regS x w h) (fun x h => regS_size x h) (fun g w => by kernel_rfl) _ _ pc a6 w w6 T6 (s 6) fr6 hP6 (HPC 6) (hss.out 6) (by omega) (by decide) (fun a7 T7 w7 fr7 hT7 hs7 hP7 => ?_) _ _ _ _ _ _ _ _ _ _ _ _ _ _ _ _ _ _ _ _ _ _ _ _ _ _ _ _ _ _ _ _ _
  replace hT7 : T7.data.toList = textP l0 l1 s 7 := by
    rw [hT7, hT6, textP_succ l0 l1 s 6]
    show _ = _ ++ pieceS 6 (s 6) (regS (s 6))
    rw [pieceS]
    show _ ++ (if _ then [] else (nmL 6 ++ [58]) ++ _ ++ _) = _
    rfl
  replace hs7 : T7.size ≤ 1000000 + 241 * (6 - 1) := by omega
  clear hT6 hP6 fr6 hs6
  refine wp_seq ?_
  refine stage_S 137 7 (by decide) (by decide) (by decide) (ByteArray.mk #[99, 111, 108, 111, 114, 58]) 137 regS (fun x w h => filter_regS x w h) (fun x h => regS_size x h) (fun g w => by kernel_rfl) _ _ pc a7 w w7 T7 (s 7) fr7 hP7 (HPC 7) (hss.out 7) (by omega) (by decide) (fun a8 T8 w8 fr8 hT8 hs8 hP8 => ?_) _ _ _ _ _ _ _ _ _ _ _ _ _ _ _ _ _ _ _ _ _ _ _ _ _ _ _ _ _ _ _ _ _
  replace hT8 : T8.data.toList = textP l0 l1 s 8 := by
    rw [hT8, hT7, textP_succ l0 l1 s 7]
    show _ = _ ++ pieceS 7 (s 7) (regS (s 7))
    rw [pieceS]
    show _ ++ (if _ then [] else (nmL 7 ++ [58]) ++ _ ++ _) = _
    rfl
  replace hs8 : T8.size ≤ 1000000 + 241 * (7 - 1) := by omega
  clear hT7 hP7 fr7 hs7
  refine wp_seq ?_
  refine stage_S 147 8 (by decide) (by decide) (by decide) (ByteArray.mk #[104, 101, 105, 103, 104, 116, 58]) 137 regS (fun x w h => filter_regS x w h) (fun x h => regS_size x h) (fun g w => by kernel_rfl) _ _ pc a8 w w8 T8 (s 8) fr8 hP8 (HPC 8) (hss.out 8) (by omega) (by decide) (fun a9 T9 w9 fr9 hT9 hs9 hP9 => ?_) _ _ _ _ _ _ _ _ _ _ _ _ _ _ _ _ _ _ _ _ _ _ _ _ _ _ _ _ _ _ _ _ _
  replace hT9 : T9.data.toList = textP l0 l1 s 9 := by
    rw [hT9, hT8, textP_succ l0 l1 s 8]
    show _ = _ ++ pieceS 8 (s 8) (regS (s 8))
    rw [pieceS]
    show _ ++ (if _ then [] else (nmL 8 ++ [58]) ++ _ ++ _) = _
    rfl
  replace hs9 : T9.size ≤ 1000000 + 241 * (8 - 1) := by omega
  clear hT8 hP8 fr8 hs8
  refine wp_seq ?_
  refine stage_S 157 9 (by decide) (by decide) (by decide) (ByteArray.mk #[119, 105, 100, 116, 104, 58]) 137 regS (fun x w h => filter_regS x w h) (fun x h => regS_size x h) (fun g w => by kernel_rfl) _ _ pc a9 w w9 T9 (s 9) fr9 hP9 (HPC 9) (hss.out 9) (by omega) (by decide) (fun a10 T10 w10 fr10 hT10 hs10 hP10 => ?_) _ _ _ _ _ _ _ _ _ _ _ _ _ _ _ _ _ _ _ _ _ _ _ _ _ _ _ _ _ _ _ _ _
  replace hT10 : T10.data.toList = textP l0 l1 s 10 := by
    rw [hT10, hT9, textP_succ l0 l1 s 9]
    show _ = _ ++ pieceS 9 (s 9) (regS (s 9))
    rw [pieceS]
    show _ ++ (if _ then [] else (nmL 9 ++ [58]) ++ _ ++ _) = _
    rfl
  replace hs10 : T10.size ≤ 1000000 + 241 * (9 - 1) := by omega
  clear hT9 hP9 fr9 hs9
  refine wp_seq ?_
  refine stage_S 167 10 (by decide) (by decide) (by decide) (ByteArray.mk #[108, 101, 102, 116, 58]) 137 regS (fun x w h => filter_regS x w h) (fun x h => regS_size x h) (fun g w => by kernel_rfl) _ _ pc a10 w w10 T10 (s 10) fr10 hP10 (HPC 10) (hss.out 10) (by omega) (by decide) (fun a11 T11 w11 fr11 hT11 hs11 hP11 => ?_) _ _ _ _ _ _ _ _ _ _ _ _ _ _ _ _ _ _ _ _ _ _ _ _ _ _ _ _ _ _ _ _ _
  replace hT11 : T11.data.toList = textP l0 l1 s 11 := by
    rw [hT11, hT10, textP_succ l0 l1 s 10]
    show _ = _ ++ pieceS 10 (s 10) (regS (s 10))
    rw [pieceS]
    show _ ++ (if _ then [] else (nmL 10 ++ [58]) ++ _ ++ _) = _
    rfl
  replace hs11 : T11.size ≤ 1000000 + 241 * (10 - 1) := by omega
  clear hT10 hP10 fr10 hs10
  refine wp_seq ?_
  refine stage_S 177 11 (by decide) (by decide) (by decide) (ByteArray.mk #[114, 105, 103, 104, 116, 58]) 137 regS (fun x w h => filter_regS x w h) (fun x h => regS_size x h) (fun g w => by kernel_rfl) _ _ pc a11 w w11 T11 (s 11) fr11 hP11 (HPC 11) (hss.out 11) (by omega) (by decide) (fun a12 T12 w12 fr12 hT12 hs12 hP12 => ?_) _ _ _ _ _ _ _ _ _ _ _ _ _ _ _ _ _ _ _ _ _ _ _ _ _ _ _ _ _ _ _ _ _
  replace hT12 : T12.data.toList = textP l0 l1 s 12 := by
    rw [hT12, hT11, textP_succ l0 l1 s 11]
    show _ = _ ++ pieceS 11 (s 11) (regS (s 11))
    rw [pieceS]
    show _ ++ (if _ then [] else (nmL 11 ++ [58]) ++ _ ++ _) = _
    rfl
  replace hs12 : T12.size ≤ 1000000 + 241 * (11 - 1) := by omega
  clear hT11 hP11 fr11 hs11
  refine wp_seq ?_
  refine stage_S 187 12 (by decide) (by decide) (by decide) (ByteArray.mk #[116, 111, 112, 58]) 137 regS (fun x w h => filter_regS x w h) (fun x h => regS_size x h) (fun g w => by kernel_rfl) _ _ pc a12 w w12 T12 (s 12) fr12 hP12 (HPC 12) (hss.out 12) (by omega) (by decide) (fun a13 T13 w13 fr13 hT13 hs13 hP13 => ?_) _ _ _ _ _ _ _ _ _ _ _ _ _ _ _ _ _ _ _ _ _ _ _ _ _ _ _ _ _ _ _ _ _
  replace hT13 : T13.data.toList = textP l0 l1 s 13 := by
    rw [hT13, hT12, textP_succ l0 l1 s 12]
    show _ = _ ++ pieceS 12 (s 12) (regS (s 12))
    rw [pieceS]
    show _ ++ (if _ then [] else (nmL 12 ++ [58]) ++ _ ++ _) = _
    rfl
  replace hs13 : T13.size ≤ 1000000 + 241 * (12 - 1) := by omega
  clear hT12 hP12 fr12 hs12
  refine wp_seq ?_
  refine stage_S 197 13 (by decide) (by decide) (by decide) (ByteArray.mk #[98, 111, 116, 116, 111, 109, 58]) 137 regS (fun x w h => filter_regS x w h) (fun x h => regS_size x h) (fun g w => by kernel_rfl) _ _ pc a13 w w13 T13 (s 13) fr13 hP13 (HPC 13) (hss.out 13) (by omega) (by decide) (fun a14 T14 w14 fr14 hT14 hs14 hP14 => ?_) _ _ _ _ _ _ _ _ _ _ _ _ _ _ _ _ _ _ _ _ _ _ _ _ _ _ _ _ _ _ _ _ _
  replace hT14 : T14.data.toList = textP l0 l1 s 14 := by
    rw [hT14, hT13, textP_succ l0 l1 s 13]
    show _ = _ ++ pieceS 13 (s 13) (regS (s 13))
    rw [pieceS]
    show _ ++ (if _ then [] else (nmL 13 ++ [58]) ++ _ ++ _) = _
    rfl
  replace hs14 : T14.size ≤ 1000000 + 241 * (13 - 1) := by omega
  clear hT13 hP13 fr13 hs13
  refine wp_seq ?_
  refine stage_S 207 14 (by decide) (by decide) (by decide) (ByteArray.mk #[102, 111, 110, 116, 45, 119, 101, 105, 103, 104, 116, 58]) 137 regS (fun x w h => filter_regS x w h) (fun x h => regS_size x h) (fun g w => by kernel_rfl) _ _ pc a14 w w14 T14 (s 14) fr14 hP14 (HPC 14) (hss.out 14) (by omega) (by decide) (fun a15 T15 w15 fr15 hT15 hs15 hP15 => ?_) _ _ _ _ _ _ _ _ _ _ _ _ _ _ _ _ _ _ _ _ _ _ _ _ _ _ _ _ _ _ _ _ _
  replace hT15 : T15.data.toList = textP l0 l1 s 15 := by
    rw [hT15, hT14, textP_succ l0 l1 s 14]
    show _ = _ ++ pieceS 14 (s 14) (regS (s 14))
    rw [pieceS]
    show _ ++ (if _ then [] else (nmL 14 ++ [58]) ++ _ ++ _) = _
    rfl
  replace hs15 : T15.size ≤ 1000000 + 241 * (14 - 1) := by omega
  clear hT14 hP14 fr14 hs14
  refine wp_seq ?_
  refine stage_S 217 15 (by decide) (by decide) (by decide) (ByteArray.mk #[112, 97, 100, 100, 105, 110, 103, 58]) 137 regS (fun x w h => filter_regS x w h) (fun x h => regS_size x h) (fun g w => by kernel_rfl) _ _ pc a15 w w15 T15 (s 15) fr15 hP15 (HPC 15) (hss.out 15) (by omega) (by decide) (fun a16 T16 w16 fr16 hT16 hs16 hP16 => ?_) _ _ _ _ _ _ _ _ _ _ _ _ _ _ _ _ _ _ _ _ _ _ _ _ _ _ _ _ _ _ _ _ _
  replace hT16 : T16.data.toList = textP l0 l1 s 16 := by
    rw [hT16, hT15, textP_succ l0 l1 s 15]
    show _ = _ ++ pieceS 15 (s 15) (regS (s 15))
    rw [pieceS]
    show _ ++ (if _ then [] else (nmL 15 ++ [58]) ++ _ ++ _) = _
    rfl
  replace hs16 : T16.size ≤ 1000000 + 241 * (15 - 1) := by omega
  clear hT15 hP15 fr15 hs15
  refine wp_seq ?_
  refine stage_S 227 16 (by decide) (by decide) (by decide) (ByteArray.mk #[122, 45, 105, 110, 100, 101, 120, 58]) 137 regS (fun x w h => filter_regS x w h) (fun x h => regS_size x h) (fun g w => by kernel_rfl) _ _ pc a16 w w16 T16 (s 16) fr16 hP16 (HPC 16) (hss.out 16) (by omega) (by decide) (fun a17 T17 w17 fr17 hT17 hs17 hP17 => ?_) _ _ _ _ _ _ _ _ _ _ _ _ _ _ _ _ _ _ _ _ _ _ _ _ _ _ _ _ _ _ _ _ _
  replace hT17 : T17.data.toList = textP l0 l1 s 17 := by
    rw [hT17, hT16, textP_succ l0 l1 s 16]
    show _ = _ ++ pieceS 16 (s 16) (regS (s 16))
    rw [pieceS]
    show _ ++ (if _ then [] else (nmL 16 ++ [58]) ++ _ ++ _) = _
    rfl
  replace hs17 : T17.size ≤ 1000000 + 241 * (16 - 1) := by omega
  clear hT16 hP16 fr16 hs16
  have hcr := hP17.res
  have hfr := hP17.free
  obtain ⟨f, rfl⟩ := frame_open a17 fr17.sz fr17.df
  have e2 : f 2 = _ := Option.some.inj fr17.p2
  have e3 : f 3 = _ := Option.some.inj fr17.p3
  rw [e2, e3]
  clear e2 e3 fr17
  go_wp2_with fail
  refine bodyPost_ret (v := .agg #[.string T17]) (by simp [results, Try.results109, go_sem, hcr]) rfl ⟨T17, rfl, hT17, by omega, ?_⟩
  exact hP17.below.setCell (by simp) _
end Go.Proofs.Ytmgkolcpomaceaa
