/- laws.styled. -/
import Derived.Test.YtmgkolcpomaceaaK16
import Derived.Test.YtmgkolcpomaceaaK13
import Derived.Test.YtmgkolcpomaceaaJ3
import Derived.Deep.CutBlock
import Derived.Deep.DeepCutAuto
namespace Go.Proofs.Ytmgkolcpomaceaa
open Go.RowKit
set_option linter.unusedVariables false
set_option linter.unusedSimpArgs false

def hitB (f p : Pr) : Bool := sameN p.1 f.1
def blankB (f p : Pr) : Bool := p.2.toList.isEmpty && !(listB f.1)
def toldB (f p : Pr) : Bool := hitB f p && !(blankB f p)
def itemT (f p : Pr) : List UInt8 := if toldB f p = true then f.2.data.toList ++ [58] ++ (declS f.1 p.2).data.toList ++ [59] else []
def itemOk (f p : Pr) : Bool := !(toldB f p) || declB f.1 p.2
def rowT (l : List Pr) (f : Pr) : List UInt8 := l.flatMap (itemT f)
def styleT (l : List Pr) : List UInt8 := fieldsL.flatMap (rowT l)
def hits (l : List Pr) (f : Pr) : Nat := l.countP (hitB f)
def knownN (l : List Pr) (fs : List Pr) : Nat := (fs.map (hits l)).sum
theorem joinD_len (fam : Bool) (ls : List ByteArray) (h : ∀ x ∈ ls, x.size ≤ 200) : (joinD fam ls).length ≤ 2000 * ls.length := by
  have hl : ∀ x ∈ ls, (lineT fam x).length ≤ 1900 := by
    intro x hx
    have h1 := h x hx
    have h2 := famS_size x
    have h3 := quoS_size (sanS x)
    have h4 := sanS_size x
    unfold lineT
    split
    · have : (famS x).data.toList.length = (famS x).size := by simp
      omega
    · have : (quoS (sanS x)).data.toList.length = (quoS (sanS x)).size := by simp
      simp only [List.length_append, List.length_cons, List.length_nil]
      omega
  induction ls using revInd with
  | nil => simp [joinD]
  | snoc l x ih =>
    rw [joinD_snoc]
    have h1 := ih (fun y hy => h y (by simp [hy])) (fun y hy => hl y (by simp [hy]))
    have h2 := hl x (by simp)
    split <;> simp only [List.length_append, List.length_cons, List.length_nil] <;> omega
theorem declS_size (n s : ByteArray) (hs : s.size ≤ 200) : (declS n s).size ≤ 402000 := by
  have hll : (linesB s).length ≤ 201 := by
    have h1 := (linesL_len s.data.toList).1
    have h3 : (linesB s).length = (linesL s.data.toList).length := by simp [linesB]
    have h4 : s.data.toList.length = s.size := by simp
    omega
  have hm : ∀ x ∈ linesB s, x.size ≤ 200 := fun x hx => by have := (linesB_mem hx).1; omega
  have hw : wrongS.size = 28 := rfl
  have e : ∀ x : List UInt8, (mkB x).size = x.length := fun x => by show x.toArray.size = _; simp
  unfold declS
  split
  · unfold shownS; split <;> omega
  · split
    · rw [e]; have := joinD_len true _ hm; omega
    · split
      · rw [e]; have := joinD_len false _ hm; omega
      · unfold valueS; split <;> omega
theorem field_name_size : ∀ f ∈ fieldsL, f.2.size ≤ 30 := by decide
def StyledPost (l : List Pr) (e : Ending) : Prop := ∃ (X : ByteArray) (says : Bool), e = .returned (.tuple #[.string X, .bool says]) ∧
  (says = true → pairsOkB l = true ∧ (∀ f ∈ fieldsL, ∀ p ∈ l, itemOk f p = true) ∧ knownN l fieldsL = l.length ∧ X.data.toList = styleT l)
theorem addr_add (g n : Nat) : (⟨g, 0, none⟩ : Addr).add n = ⟨g, n, none⟩ := by unfold Addr.add; split <;> simp_all
theorem take_snoc1 {α : Type} (l : List α) (k : Nat) (h : k < l.length) : l.take (k + 1) = l.take k ++ [l[k]] := List.take_succ_eq_append_getElem h
theorem emp_iff (s : ByteArray) : s.toList.isEmpty = (s.toList == []) := by cases s.toList <;> rfl
theorem itemOk_snoc {l : List Pr} {f p : Pr} {k : Nat} (hT : l.take (k + 1) = l.take k ++ [p]) (h : ∀ q ∈ l.take k, itemOk f q = true) (hp : itemOk f p = true) : ∀ q ∈ l.take (k + 1), itemOk f q = true := by
  rw [hT]
  intro q hq
  rcases List.mem_append.1 hq with hq | hq
  · exact h q hq
  · rw [List.mem_singleton.1 hq]; exact hp

set_option maxHeartbeats 16000000 in
set_option maxRecDepth 100000 in
theorem styled_calls (l : List Pr) (A : Option Addr) (cap : Nat) (w : World) (hA : Hid (PairsAt w A l)) (hf : fitsB l = true) (hcap : l.length ≤ cap) :
    Calls Try.prog 44 #[.slice A l.length cap] w fun e w' => StyledPost l e ∧ Below w.heap.size w w' := by
  cases hok : pairsOkB l with
  | false =>
    have HOK := Lib.hid hok
    clear hok
    go_enter Try.func44, Try.ntmps44
    go_wp2_with fail
    refine (pairsOk_calls l A cap _ hA hf hcap).mono ?_
    rw [HOK.out]
    rintro e w1 ⟨rfl, hb⟩
    go_wp2_with fail
    go_ret2
    exact ⟨⟨⟨#[]⟩, false, rfl, by simp⟩, hb⟩
  | true =>
    have HOK := Lib.hid hok
    have hl20 := len_of_ok hok
    have HOkP := Lib.hid (okP_of_ok hok)
    clear hok
    go_enter Try.func44, Try.ntmps44
    go_wp2_with fail
    refine (pairsOk_calls l A cap _ hA hf hcap).mono ?_
    rw [HOK.out]
    rintro e w1 ⟨rfl, hb⟩
    have HA1 := Lib.hid (hA.out.below hb)
    have HB1 := Lib.hid hb
    clear hb hf
    go_wp2_with fail
    refine (fields_calls _).mono ?_
    rintro e w2 ⟨g, rfl, hF, hb⟩
    have HF2 := Lib.hid hF
    have HA2 := Lib.hid (HA1.out.below hb)
    have HB2 := Lib.hid (below_then HB1.out HB1.out.size hb)
    clear hb hF
    go_wp2_with fail
    go_loopg [4, 5, 17] 17 (fun gk v c i wr => ∃ (j : Nat) (T : ByteArray) (kn : Nat), gk = 17 - j ∧ j ≤ 17 ∧ i = .int .i64 j ∧ v = .string T ∧ c = .int .i64 kn ∧ T.size ≤ 10000000 * j ∧ kn ≤ 20 * j ∧
      Hid (T.data.toList = (fieldsL.take j).flatMap (rowT l)) ∧ Hid (kn = knownN l (fieldsL.take j)) ∧ Hid (∀ f ∈ fieldsL.take j, ∀ p ∈ l, itemOk f p = true) ∧ Hid (Below w2.heap.size w2 wr) ∧ Hid (Below w.heap.size w wr))
    case atStart => exact ⟨0, ⟨#[]⟩, 0, rfl, Nat.zero_le _, rfl, rfl, rfl, by decide, by decide, by simp [Hid], by simp [Hid, knownN], by simp [Hid], Below.refl _ _, HB2⟩
    case round =>
      obtain ⟨j, T, kn, hgk, hj, rfl, rfl, rfl, hTs, hks, hT, hkn, hall, hBa, hB⟩ := hrel
      have HG := Lib.hid hgk
      clear hgk
      by_cases hlt : j < 17
      · obtain ⟨ad, hade, hblk, hc, hd⟩ := (HF2.out.below hBa.out) j hlt
        obtain rfl : ad = ⟨g, 0, none⟩ := by injection hade with h; exact h.symm
        have HJ := Lib.hid (take_snoc1 fieldsL j hlt)
        have hfs := field_name_size fieldsL[j] (List.getElem_mem _)
        rw [addr_add] at hc hd
        have gj : decide ((j:Int) < 17) = true := by simp; omega
        generalize fieldsL[j] = f at hc hd HJ hfs
        have HT0 := Lib.hid hT.out
        have Hkn0 := Lib.hid hkn.out
        have Hall0 := Lib.hid hall.out
        clear hT hkn hall
        go_wp2_with fail
        have HBw := Lib.hid (hBa.out.trans (Below.mono (Below.own wr (Obj.cells #[Value.string f.1, Value.string f.2] 44)) hBa.out.size))
        have HBw0 := Lib.hid (hB.out.alloc hB.out.size (Obj.cells #[Value.string f.1, Value.string f.2] 44))
        go_loopg [4, 5, 23] l.length (fun gk2 v c i w3 => ∃ (k : Nat) (T' : ByteArray) (kn' : Nat), gk2 = l.length - k ∧ k ≤ l.length ∧ i = .int .i64 k ∧ v = .string T' ∧ c = .int .i64 kn' ∧ T'.size ≤ 10000000 * j + 450000 * k ∧ kn' ≤ 20 * j + k ∧
          Hid (T'.data.toList = T.data.toList ++ (l.take k).flatMap (itemT f)) ∧ Hid (kn' = kn + (l.take k).countP (hitB f)) ∧ Hid (∀ p ∈ l.take k, itemOk f p = true) ∧
          Hid (Below (wr.alloc (Obj.cells #[Value.string f.1, Value.string f.2] 44)).heap.size (wr.alloc (Obj.cells #[Value.string f.1, Value.string f.2] 44)) w3) ∧ Hid (Below w.heap.size w w3))
        case atStart => exact ⟨0, T, kn, rfl, Nat.zero_le _, rfl, rfl, rfl, by omega, by omega, by simp [Hid], by simp [Hid], by simp [Hid], Below.refl _ _, HBw0⟩
        case round =>
          obtain ⟨k, T', kn', hgk2, hk, rfl, rfl, rfl, hTs', hks', hT', hkn', hall', hBi, hBo⟩ := hrel
          have HG2 := Lib.hid hgk2
          clear hgk2 hc hd gj
          by_cases hkl : k < l.length
          · have HTk := Lib.hid (take_snoc1 l k hkl)
            have hcf := own_cell hBi.out 0
            have hdf := own_cell hBi.out 1
            have hltf := own_lt hBi.out
            simp at hcf hdf
            obtain ⟨ad2, rfl, hblk2, hc2, hd2⟩ := ((HA2.out.below HBw.out).below hBi.out) k hkl
            have hps : l[k].2.size ≤ 200 := by have := HOkP.out l[k] (List.getElem_mem _); simp [okP, smallB] at this; omega
            generalize l[k] = p at hc2 hd2 HTk hps
            have HCt := Lib.hid (show (l.take (k + 1)).flatMap (itemT f) = (l.take k).flatMap (itemT f) ++ itemT f p by rw [HTk.out]; simp)
            have HCn := Lib.hid (show (l.take (k + 1)).countP (hitB f) = (l.take k).countP (hitB f) + (if hitB f p = true then 1 else 0) by rw [HTk.out, List.countP_append, List.countP_cons, List.countP_nil]; simp)
            have HCo := Lib.hid (itemOk_snoc HTk.out hall'.out)
            cases hh : (p.1.toList == f.1.toList) with
            | false =>
              have HH := Lib.hid (show hitB f p = false from hh)
              have HI := Lib.hid (show itemT f p = [] by unfold itemT toldB; rw [HH.out]; rfl)
              have HO := Lib.hid (show itemOk f p = true by unfold itemOk toldB; rw [HH.out]; rfl)
              go_wp2_with fail
              go_roundg (l.length - (k + 1))
              case measure => rw [HG2.out]; omega
              case rel => exact ⟨k + 1, T', kn', rfl, by omega, by simp, rfl, rfl, by omega, by omega, by rw [Hid, HCt.out, HI.out, List.append_nil]; exact hT'.out, by rw [Hid, HCn.out, HH.out]; exact hkn'.out, HCo.out HO.out, hBi.out.alloc hBi.out.size _, hBo.out.alloc hBo.out.size _⟩
            | true =>
              have HH := Lib.hid (show hitB f p = true from hh)
              cases hv : (p.2.toList == []) with
              | true =>
                have HV := Lib.hid hv
                cases hli : listB f.1 with
                | false =>
                  have HLi := Lib.hid hli
                  clear hli
                  have HI := Lib.hid (show itemT f p = [] by unfold itemT toldB blankB; rw [HH.out, emp_iff, HV.out, HLi.out]; rfl)
                  have HO := Lib.hid (show itemOk f p = true by unfold itemOk toldB blankB; rw [HH.out, emp_iff, HV.out, HLi.out]; rfl)
                  go_wp2_with fail
                  refine (list_calls f.1 _).mono ?_
                  rw [HLi.out]
                  rintro e w5 ⟨rfl, rfl⟩
                  go_wp2_with fail
                  go_roundg (l.length - (k + 1))
                  case measure => rw [HG2.out]; omega
                  case rel => exact ⟨k + 1, T', kn' + 1, rfl, by omega, by simp, rfl, by simp, by omega, by omega, by rw [Hid, HCt.out, HI.out, List.append_nil]; exact hT'.out, by rw [Hid, HCn.out, HH.out, hkn'.out]; simp [Nat.add_assoc], HCo.out HO.out, hBi.out.alloc hBi.out.size _, hBo.out.alloc hBo.out.size _⟩
                | true =>
                  have HLi := Lib.hid hli
                  clear hli
                  have HTo := Lib.hid (show toldB f p = true by unfold toldB blankB; rw [HH.out, emp_iff, HV.out, HLi.out]; rfl)
                  have HI := Lib.hid (show itemT f p = f.2.data.toList ++ [58] ++ (declS f.1 p.2).data.toList ++ [59] by unfold itemT; rw [HTo.out]; rfl)
                  have HO := Lib.hid (show itemOk f p = declB f.1 p.2 by unfold itemOk; rw [HTo.out]; rfl)
                  have HDs := declS_size f.1 p.2 hps
                  have HDc := Lib.hid (fun w => declared_calls f.1 p.2 w hps)
                  generalize declS f.1 p.2 = D at HI HDs HDc
                  cases hdb : declB f.1 p.2 with
                  | false =>
                    have HDB := Lib.hid hdb
                    clear hdb
                    go_wp2_with fail
                    refine (list_calls f.1 _).mono ?_
                    rw [HLi.out]
                    rintro e w5 ⟨rfl, rfl⟩
                    go_wp2_with fail
                    refine (HDc.out _).mono ?_
                    rw [HDB.out]
                    rintro e w4 ⟨rfl, hb⟩
                    go_wp2_with fail
                    go_ret2
                    exact ⟨⟨⟨#[]⟩, false, rfl, by simp⟩, below_then hBo.out hBo.out.size (below_own hb)⟩
                  | true =>
                    have HDB := Lib.hid hdb
                    clear hdb
                    have h58 : (ByteArray.mk #[58]).size = 1 := rfl
                    have h59 : (ByteArray.mk #[59]).size = 1 := rfl
                    have hadd1 : f.2.size + (ByteArray.mk #[58]).size ≤ 9223372036854775807 := by rw [h58]; omega
                    have hadd2 : (f.2 ++ ByteArray.mk #[58]).size + D.size ≤ 9223372036854775807 := by rw [ByteArray.size_append, h58]; omega
                    have hadd3 : (f.2 ++ ByteArray.mk #[58] ++ D).size + (ByteArray.mk #[59]).size ≤ 9223372036854775807 := by rw [ByteArray.size_append, ByteArray.size_append, h58, h59]; omega
                    have hadd4 : T'.size + (f.2 ++ ByteArray.mk #[58] ++ D ++ ByteArray.mk #[59]).size ≤ 9223372036854775807 := by rw [ByteArray.size_append, ByteArray.size_append, ByteArray.size_append, h58, h59]; omega
                    have hsz : (T' ++ (f.2 ++ ByteArray.mk #[58] ++ D ++ ByteArray.mk #[59])).size ≤ 10000000 * j + 450000 * (k + 1) := by rw [ByteArray.size_append, ByteArray.size_append, ByteArray.size_append, ByteArray.size_append, h58, h59]; omega
                    clear h58 h59
                    go_wp2_with fail
                    refine (list_calls f.1 _).mono ?_
                    rw [HLi.out]
                    rintro e w5 ⟨rfl, rfl⟩
                    go_wp2_with fail
                    refine (HDc.out _).mono ?_
                    rw [HDB.out]
                    rintro e w4 ⟨rfl, hb⟩
                    have hBi4 := Lib.hid (below_then hBi.out hBi.out.size (below_own hb))
                    have hBo4 := Lib.hid (below_then hBo.out hBo.out.size (below_own hb))
                    have hcf4 := own_cell hBi4.out 0
                    have hdf4 := own_cell hBi4.out 1
                    simp at hcf4 hdf4
                    clear hb hcf hdf
                    go_wp2_with fail
                    go_roundg (l.length - (k + 1))
                    case measure => rw [HG2.out]; omega
                    case rel => exact ⟨k + 1, _, kn' + 1, rfl, by omega, by simp, rfl, by simp, hsz, by omega, by rw [Hid, HCt.out, HI.out, ← List.append_assoc, ← hT'.out]; simp [bytes_append], by rw [Hid, HCn.out, HH.out, hkn'.out]; simp [Nat.add_assoc], HCo.out (by rw [HO.out, HDB.out]), hBi4, hBo4⟩

              | false =>
                have HV := Lib.hid hv
                have HTo := Lib.hid (show toldB f p = true by unfold toldB blankB; rw [HH.out, emp_iff, HV.out]; rfl)
                have HI := Lib.hid (show itemT f p = f.2.data.toList ++ [58] ++ (declS f.1 p.2).data.toList ++ [59] by unfold itemT; rw [HTo.out]; rfl)
                have HO := Lib.hid (show itemOk f p = declB f.1 p.2 by unfold itemOk; rw [HTo.out]; rfl)
                have HDs := declS_size f.1 p.2 hps
                have HDc := Lib.hid (fun w => declared_calls f.1 p.2 w hps)
                generalize declS f.1 p.2 = D at HI HDs HDc
                cases hdb : declB f.1 p.2 with
                | false =>
                  have HDB := Lib.hid hdb
                  clear hdb
                  go_wp2_with fail
                  refine (HDc.out _).mono ?_
                  rw [HDB.out]
                  rintro e w4 ⟨rfl, hb⟩
                  go_wp2_with fail
                  go_ret2
                  exact ⟨⟨⟨#[]⟩, false, rfl, by simp⟩, below_then hBo.out hBo.out.size (below_own hb)⟩
                | true =>
                  have HDB := Lib.hid hdb
                  clear hdb
                  have h58 : (ByteArray.mk #[58]).size = 1 := rfl
                  have h59 : (ByteArray.mk #[59]).size = 1 := rfl
                  have hadd1 : f.2.size + (ByteArray.mk #[58]).size ≤ 9223372036854775807 := by rw [h58]; omega
                  have hadd2 : (f.2 ++ ByteArray.mk #[58]).size + D.size ≤ 9223372036854775807 := by rw [ByteArray.size_append, h58]; omega
                  have hadd3 : (f.2 ++ ByteArray.mk #[58] ++ D).size + (ByteArray.mk #[59]).size ≤ 9223372036854775807 := by rw [ByteArray.size_append, ByteArray.size_append, h58, h59]; omega
                  have hadd4 : T'.size + (f.2 ++ ByteArray.mk #[58] ++ D ++ ByteArray.mk #[59]).size ≤ 9223372036854775807 := by rw [ByteArray.size_append, ByteArray.size_append, ByteArray.size_append, h58, h59]; omega
                  have hsz : (T' ++ (f.2 ++ ByteArray.mk #[58] ++ D ++ ByteArray.mk #[59])).size ≤ 10000000 * j + 450000 * (k + 1) := by rw [ByteArray.size_append, ByteArray.size_append, ByteArray.size_append, ByteArray.size_append, h58, h59]; omega
                  clear h58 h59
                  go_wp2_with fail
                  refine (HDc.out _).mono ?_
                  rw [HDB.out]
                  rintro e w4 ⟨rfl, hb⟩
                  have hBi4 := Lib.hid (below_then hBi.out hBi.out.size (below_own hb))
                  have hBo4 := Lib.hid (below_then hBo.out hBo.out.size (below_own hb))
                  have hcf4 := own_cell hBi4.out 0
                  have hdf4 := own_cell hBi4.out 1
                  simp at hcf4 hdf4
                  clear hb hcf hdf
                  go_wp2_with fail
                  go_roundg (l.length - (k + 1))
                  case measure => rw [HG2.out]; omega
                  case rel => exact ⟨k + 1, _, kn' + 1, rfl, by omega, by simp, rfl, by simp, hsz, by omega, by rw [Hid, HCt.out, HI.out, ← List.append_assoc, ← hT'.out]; simp [bytes_append], by rw [Hid, HCn.out, HH.out, hkn'.out]; simp [Nat.add_assoc], HCo.out (by rw [HO.out, HDB.out]), hBi4, hBo4⟩

          · have hks : k = l.length := by omega
            have HE1 := Lib.hid (show T'.data.toList = (fieldsL.take (j + 1)).flatMap (rowT l) by
              have h1 := hT'.out
              rw [hks, List.take_of_length_le (Nat.le_refl _)] at h1
              rw [HJ.out, h1, HT0.out]; simp [rowT])
            have HE2 := Lib.hid (show kn' = knownN l (fieldsL.take (j + 1)) by
              have h1 := hkn'.out
              rw [hks, List.take_of_length_le (Nat.le_refl _)] at h1
              rw [HJ.out, h1, Hkn0.out]; simp [knownN, hits])
            have HE3 := Lib.hid (show ∀ f ∈ fieldsL.take (j + 1), ∀ p ∈ l, itemOk f p = true by
              have h1 := hall'.out
              rw [hks, List.take_of_length_le (Nat.le_refl _)] at h1
              rw [HJ.out]
              intro g hg
              rcases List.mem_append.1 hg with hg | hg
              · exact Hall0.out g hg
              · rw [List.mem_singleton.1 hg]; exact h1)
            have hTb : T'.size ≤ 10000000 * (j + 1) := by omega
            have hkb : kn' ≤ 20 * (j + 1) := by omega
            clear hks
            go_wp2_with fail
            go_roundg (17 - (j + 1))
            case measure => rw [HG.out]; omega
            case rel => exact ⟨j + 1, T', kn', rfl, by omega, by simp, rfl, rfl, hTb, hkb, HE1, HE2, HE3, below_then HBw.out HBw.out.size hBi.out, hBo⟩
      · have hj17 : j = 17 := by omega
        have HT0 := Lib.hid (show T.data.toList = styleT l by have h1 := hT.out; rw [hj17] at h1; exact h1)
        have HK0 := Lib.hid (show kn = knownN l fieldsL by have h1 := hkn.out; rw [hj17] at h1; exact h1)
        have HA0 := Lib.hid (show ∀ f ∈ fieldsL, ∀ p ∈ l, itemOk f p = true by have h1 := hall.out; rw [hj17] at h1; exact h1)
        have gj : decide ((j:Int) < 17) = false := by simp; omega
        clear hj17 HG
        go_wp2_with fail
        go_ret2
        exact ⟨⟨T, _, rfl, fun h => ⟨HOK.out, HA0.out, by rw [← HK0.out]; have := h; simp at this; omega, HT0.out⟩⟩, hB.out⟩
end Go.Proofs.Ytmgkolcpomaceaa
