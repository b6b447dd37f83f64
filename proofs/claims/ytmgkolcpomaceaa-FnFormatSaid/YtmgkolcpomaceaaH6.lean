/- impl.Append and what it calls. -/
import Derived.Test.YtmgkolcpomaceaaH2
import Derived.Test.YtmgkolcpomaceaaH5
import Derived.Test.YtmgkolcpomaceaaE3
import Derived.Deep.DeepCutAuto
namespace Go.Proofs.Ytmgkolcpomaceaa
open Go.RowKit
set_option linter.unusedVariables false
set_option linter.unusedSimpArgs false

set_option maxRecDepth 100000 in
theorem errNew_calls (s : ByteArray) (w : World) :
    Calls Try.prog 100 #[.string s] w fun e w' => e = .returned (.iface 110 (.pointer (some ⟨w.heap.size, 0, none⟩))) ∧ Below w.heap.size w w' := by
  go_enter Try.func100, Try.ntmps100
  go_wp2_with fail
  go_ret
  exact ⟨rfl, (Below.refl _ _).alloc (Nat.le_refl _) _⟩

set_option maxRecDepth 100000 in
theorem trFromConst_calls (s : ByteArray) (w : World) :
    Calls Try.prog 102 #[.string s] w fun e w' => e = .returned (.agg #[.string s]) ∧ Below w.heap.size w w' := by
  go_enter Try.func102, Try.ntmps102
  go_wp2_with fail
  refine bodyPost_ret (v := .agg #[.string s]) (by simp [results, Try.results102, go_sem]) rfl ⟨rfl, ?_⟩
  first | exact (Below.refl w.heap.size w).alloc (Nat.le_refl _) _ | exact ((Below.refl w.heap.size w).alloc (Nat.le_refl _) _).setCell (p := ⟨w.heap.size, 0, none⟩) (Nat.le_refl _) _ | trace_state

set_option maxRecDepth 100000 in
theorem zzTrusted_calls (s : ByteArray) (w : World) :
    Calls Try.prog 73 #[.string s] w fun e w' => e = .returned (.agg #[.string s]) ∧ Below w.heap.size w w' := by
  go_enter Try.func73, Try.ntmps73
  go_wp2_with fail
  refine (trFromConst_calls s _).mono ?_
  rintro e w1 ⟨rfl, hb⟩
  have hc := own_cell hb 0
  have hf := own_free hb 0
  have HB := Lib.hid hb
  clear hb
  simp at hc
  go_wp2
  refine bodyPost_ret (v := .agg #[.string s]) (by simp [results, Try.results73, go_sem, hc]) rfl ⟨rfl, ?_⟩
  exact (below_own HB.out).setCell (Nat.le_refl _) _

set_option maxRecDepth 100000 in
theorem trString_calls (s : ByteArray) (w : World) :
    Calls Try.prog 98 #[.agg #[.string s]] w fun e w' => e = .returned (.string s) ∧ Below w.heap.size w w' := by
  go_enter Try.func98, Try.ntmps98
  go_wp2
  go_ret
  exact ⟨rfl, (Below.refl _ _).alloc (Nat.le_refl _) _⟩

set_option maxRecDepth 100000 in
theorem trusted_ok (s : ByteArray) (w : World) :
    Calls Try.prog 71 #[.agg #[.string s], .nilIface] w fun e w' => e = .returned (.tuple #[.string s, .bool true]) ∧ Below w.heap.size w w' := by
  go_enter Try.func71, Try.ntmps71
  go_wp2_with fail
  refine (trString_calls s _).mono ?_
  rintro e w1 ⟨rfl, hb⟩
  go_wp2
  go_ret2
  exact ⟨rfl, below_own hb⟩

set_option maxRecDepth 100000 in
theorem trusted_no (s : ByteArray) (g : Addr) (w : World) :
    Calls Try.prog 71 #[.agg #[.string s], .iface 110 (.pointer (some g))] w fun e w' => e = .returned (.tuple #[.string ⟨#[]⟩, .bool false]) ∧ Below w.heap.size w w' := by
  go_enter Try.func71, Try.ntmps71
  go_wp2_with fail
  go_ret2
  exact ⟨rfl, (Below.refl _ _).alloc (Nat.le_refl _) _⟩

set_option maxHeartbeats 4000000 in
set_option maxRecDepth 100000 in
theorem trAppend_no (s t : ByteArray) (w : World) (hs : s.size ≤ 2147483647) (ht : t.size ≤ 2147483647) (h : Hid (basedL s.data.toList = false)) :
    Calls Try.prog 72 #[.agg #[.string s], .string t] w fun e w' => (∃ g, e = .returned (.tuple #[.agg #[.string ⟨#[]⟩], .iface 110 (.pointer (some g))])) ∧ Below w.heap.size w w' := by
  have HP := Lib.hid (pat_based s.data.toList)
  go_enter Try.func72, Try.ntmps72
  go_wp2_with fail
  refine (prefixOk_calls s _ hs).mono ?_
  rw [HP.out, h.out]
  rintro e w1 ⟨rfl, hb⟩
  have hsz := hb.size
  have hc0 : w1.cell? ⟨w.heap.size, 0, none⟩ = some (.string s) := by rw [hb.cell (by simp <;> omega)]; simp [go_sem]
  have hc1 : w1.cell? ⟨w.heap.size + 1, 0, none⟩ = some (.string ⟨#[]⟩) := by rw [hb.cell (by simp <;> omega)]; simp [go_sem]
  have hf1 : w1.frozen? ⟨w.heap.size + 1, 0, none⟩ = false := by rw [hb.frozen (by simp <;> omega)]; simp [go_sem]
  have hlt0 : w.heap.size < w1.heap.size := by have := hsz; simp at this; omega
  have hlt : w.heap.size + 1 < w1.heap.size := by have := hsz; simp at this; omega
  have HB := Lib.hid (show Below w.heap.size w w1 from (((Below.refl w.heap.size w).alloc (Nat.le_refl _) _).alloc (by simp) _).trans (hb.mono (by simp; omega)))
  clear hb hsz
  go_wp2_with fail
  refine (errNew_calls _ _).mono ?_
  rintro e w2 ⟨rfl, hb2⟩
  have hc2 : w2.cell? ⟨w.heap.size + 1, 0, none⟩ = some (.string ⟨#[]⟩) := (hb2.cell hlt).trans hc1
  have hf2 : w2.frozen? ⟨w.heap.size + 1, 0, none⟩ = false := (hb2.frozen hlt).trans hf1
  have HB2 := Lib.hid hb2
  clear hb2 hc1 hf1 hc0
  go_wp2_with fail
  refine bodyPost_ret (v := .tuple #[.agg #[.string ⟨#[]⟩], .iface 110 (.pointer (some ⟨w1.heap.size, 0, none⟩))]) (by simp [results, Try.results72, go_sem, hc2]) rfl ⟨⟨_, rfl⟩, ?_⟩
  exact (below_then HB.out HB.out.size HB2.out).setCell (p := ⟨w.heap.size + 1, 0, none⟩) (Nat.le_succ _) _

set_option maxHeartbeats 4000000 in
set_option maxRecDepth 100000 in
theorem trAppend_ok (s t : ByteArray) (w : World) (hs : s.size ≤ 2147483647) (ht : t.size ≤ 2147483647) (h : Hid (basedL s.data.toList = true)) :
    Calls Try.prog 72 #[.agg #[.string s], .string t] w fun e w' => e = .returned (.tuple #[.agg #[.string (s ++ ⟨(pctL t.data.toList).toArray⟩)], .nilIface]) ∧ Below w.heap.size w w' := by
  have HP := Lib.hid (pat_based s.data.toList)
  go_enter Try.func72, Try.ntmps72
  go_wp2_with fail
  refine (prefixOk_calls s _ hs).mono ?_
  rw [HP.out, h.out]
  rintro e w1 ⟨rfl, hb⟩
  have hsz := hb.size
  have hc0 : w1.cell? ⟨w.heap.size, 0, none⟩ = some (.string s) := by rw [hb.cell (by simp <;> omega)]; simp [go_sem]
  have hc1 : w1.cell? ⟨w.heap.size + 1, 0, none⟩ = some (.string ⟨#[]⟩) := by rw [hb.cell (by simp <;> omega)]; simp [go_sem]
  have hf1 : w1.frozen? ⟨w.heap.size + 1, 0, none⟩ = false := by rw [hb.frozen (by simp <;> omega)]; simp [go_sem]
  have hlt0 : w.heap.size < w1.heap.size := by have := hsz; simp at this; omega
  have hlt : w.heap.size + 1 < w1.heap.size := by have := hsz; simp at this; omega
  have HB := Lib.hid (show Below w.heap.size w w1 from (((Below.refl w.heap.size w).alloc (Nat.le_refl _) _).alloc (by simp) _).trans (hb.mono (by simp; omega)))
  clear hb hsz
  have hd0 : w1.drew.cell? ⟨w.heap.size, 0, none⟩ = some (.string s) := hc0
  have hd1 : w1.drew.cell? ⟨w.heap.size + 1, 0, none⟩ = some (.string ⟨#[]⟩) := hc1
  have hdf : w1.drew.frozen? ⟨w.heap.size + 1, 0, none⟩ = false := hf1
  have hpl := pctL_len t.data.toList
  have hadd : s.size + (ByteArray.mk (pctL t.data.toList).toArray).size ≤ 9223372036854775807 := by
    have e : (ByteArray.mk (pctL t.data.toList).toArray).size = (pctL t.data.toList).length := by show (pctL t.data.toList).toArray.size = _; simp
    simp at hpl
    rw [e]; omega
  clear hpl
  generalize hX : (ByteArray.mk (pctL t.data.toList).toArray) = X at hadd
  have HX := Lib.hid hX
  clear hX
  go_upto_region 3 with fail
  go_region_with (refine (queryEscape_calls t _ ht).mono ?_; rw [HX.out]; rintro e w2 ⟨rfl, hb2⟩; have hc2 : w2.cell? ⟨w.heap.size, 0, none⟩ = some (.string s) := (hb2.cell hlt0).trans hc0; have hc3 : w2.cell? ⟨w.heap.size + 1, 0, none⟩ = some (.string ⟨#[]⟩) := (hb2.cell hlt).trans hc1; have hf3 : w2.frozen? ⟨w.heap.size + 1, 0, none⟩ = false := (hb2.frozen hlt).trans hf1)
  all_goals
    have HB2 := Lib.hid hb2
    clear hb2
    go_wp2_with fail
    refine bodyPost_ret (v := .tuple #[.agg #[.string (s ++ X)], .nilIface]) (by simp [results, Try.results72, go_sem, hc3]) rfl ⟨by rw [HX.out], ?_⟩
    exact (below_then HB.out.drew HB.out.size HB2.out).setCell (p := ⟨w.heap.size + 1, 0, none⟩) (Nat.le_succ _) _

def appendS (s t : ByteArray) : ByteArray := s ++ ⟨(pctL t.data.toList).toArray⟩
set_option maxHeartbeats 4000000 in
set_option maxRecDepth 100000 in
theorem implAppend_calls (s t : ByteArray) (w : World) (hs : s.size ≤ 200) (ht : t.size ≤ 200) (ha : Hid (asciiB s = true)) (hb : Hid (asciiB t = true)) :
    Calls Try.prog 32 #[.string s, .string t] w fun e w' => e = .returned (.tuple #[.string (if basedL s.data.toList = true then appendS s t else ⟨#[]⟩), .bool (basedL s.data.toList)]) ∧ Below w.heap.size w w' := by
  have HP := Lib.hid (show ((asciiB s && asciiB t) && (smallB s && smallB t)) = true by rw [ha.out, hb.out]; simp [smallB, hs, ht])
  cases hB : basedL s.data.toList with
  | false =>
    have HBd := Lib.hid hB
    go_enter Try.func32, Try.ntmps32
    go_wp2_with fail
    refine (isPlain_two s t _ _ _ (by exact strsAt_new _ _ [s, t] 9 (by simp)) (by omega) (by omega)).mono ?_
    rw [HP.out]
    rintro e w1 ⟨rfl, rfl⟩
    go_wp2_with fail
    refine (zzTrusted_calls s _).mono ?_
    rintro e w1 ⟨rfl, hb1⟩
    go_wp2_with fail
    refine (trAppend_no s t _ (by omega) (by omega) HBd).mono ?_
    rintro e w2 ⟨⟨g, rfl⟩, hb2⟩
    go_wp2_with fail
    refine (trusted_no _ _ _).mono ?_
    rintro e w3 ⟨rfl, hb3⟩
    go_wp2_with fail
    go_ret2
    exact ⟨by simp, below_then (below_then (below_own hb1) (below_own hb1).size hb2) (below_then (below_own hb1) (below_own hb1).size hb2).size hb3⟩
  | true =>
    have HBd := Lib.hid hB
    go_enter Try.func32, Try.ntmps32
    go_wp2_with fail
    refine (isPlain_two s t _ _ _ (by exact strsAt_new _ _ [s, t] 9 (by simp)) (by omega) (by omega)).mono ?_
    rw [HP.out]
    rintro e w1 ⟨rfl, rfl⟩
    go_wp2_with fail
    refine (zzTrusted_calls s _).mono ?_
    rintro e w1 ⟨rfl, hb1⟩
    go_wp2_with fail
    refine (trAppend_ok s t _ (by omega) (by omega) HBd).mono ?_
    rintro e w2 ⟨rfl, hb2⟩
    go_wp2_with fail
    refine (trusted_ok _ _).mono ?_
    rintro e w3 ⟨rfl, hb3⟩
    go_wp2_with fail
    go_ret2
    exact ⟨by simp [appendS], below_then (below_then (below_own hb1) (below_own hb1).size hb2) (below_then (below_own hb1) (below_own hb1).size hb2).size hb3⟩
end Go.Proofs.Ytmgkolcpomaceaa
