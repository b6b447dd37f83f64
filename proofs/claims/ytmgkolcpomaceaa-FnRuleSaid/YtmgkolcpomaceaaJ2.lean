/- Two points one behind the other: spec.Upwards and safehtmlutil's pattern. -/
import Derived.Test.YtmgkolcpomaceaaB5
import Derived.Test.YtmgkolcpomaceaaH3
import Derived.Laws.RangeString
namespace Go.Proofs.Ytmgkolcpomaceaa
open Go.RowKit
set_option linter.unusedVariables false
set_option linter.unusedSimpArgs false

def pointL (l : List UInt8) : Nat := if startsL l [46] then 1 else if startsL l [37, 50, 101] then 3 else 0
def upAt (l : List UInt8) (i : Nat) : Bool := decide (0 < pointL (l.drop i)) && decide (0 < pointL (l.drop (i + pointL (l.drop i))))
def upsL (l : List UInt8) : Bool := (List.range l.length).any (upAt l)
def upwardsL (l : List UInt8) : Bool := upsL (lowL l)
theorem startsL_len {l p : List UInt8} (h : startsL l p = true) : p.length ≤ l.length := by
  rw [startsL, List.isPrefixOf_iff_prefix] at h; exact h.length_le
theorem pointL_le (l : List UInt8) : pointL l ≤ l.length := by
  unfold pointL
  by_cases h1 : startsL l [46] = true
  · rw [if_pos h1]; exact startsL_len h1
  · rw [if_neg h1]
    by_cases h2 : startsL l [37, 50, 101] = true
    · rw [if_pos h2]; exact startsL_len h2
    · rw [if_neg h2]; omega

set_option maxRecDepth 100000 in
theorem point_calls (s : ByteArray) (w : World) :
    Calls Try.prog 105 #[.string s] w fun e w' => e = .returned (.int .i64 (pointL s.data.toList : Nat)) ∧ w = w' := by
  cases h1 : startsB s ⟨#[46]⟩ with
  | true =>
    have H1 := Lib.hid (show pointL s.data.toList = 1 by rw [pointL, if_pos (show startsL s.data.toList [46] = true from h1)])
    go_enter Try.func105, Try.ntmps105
    go_wp2_with fail
    refine (specStarts_calls _ _ _).mono ?_
    rintro e w2 ⟨rfl, rfl⟩
    go_wp2_with fail
    go_ret
    exact ⟨ret_int (by rw [H1.out]; rfl), rfl⟩
  | false =>
    have N1 := Lib.hid (show ¬ startsL s.data.toList [46] = true by rw [Bool.not_eq_true]; exact h1)
    cases h2 : startsB s ⟨#[37, 50, 101]⟩ with
    | true =>
      have H1 := Lib.hid (show pointL s.data.toList = 3 by rw [pointL, if_neg N1.out, if_pos (show startsL s.data.toList [37, 50, 101] = true from h2)])
      go_enter Try.func105, Try.ntmps105
      go_wp2_with fail
      refine (specStarts_calls _ _ _).mono ?_
      rintro e w2 ⟨rfl, rfl⟩
      go_wp2_with fail
      refine (specStarts_calls _ _ _).mono ?_
      rintro e w2 ⟨rfl, rfl⟩
      go_wp2_with fail
      go_ret
      exact ⟨ret_int (by rw [H1.out]; rfl), rfl⟩
    | false =>
      have H1 := Lib.hid (show pointL s.data.toList = 0 by rw [pointL, if_neg N1.out, if_neg (show ¬ startsL s.data.toList [37, 50, 101] = true by rw [Bool.not_eq_true]; exact h2)])
      go_enter Try.func105, Try.ntmps105
      go_wp2_with fail
      refine (specStarts_calls _ _ _).mono ?_
      rintro e w2 ⟨rfl, rfl⟩
      go_wp2_with fail
      refine (specStarts_calls _ _ _).mono ?_
      rintro e w2 ⟨rfl, rfl⟩
      go_wp2_with fail
      go_ret
      exact ⟨ret_int (by rw [H1.out]; rfl), rfl⟩

theorem point_from (s : ByteArray) (i : Nat) (w : World) :
    Calls Try.prog 105 #[.string (s.extract i s.size)] w fun e w' => e = .returned (.int .i64 (pointL (s.data.toList.drop i) : Nat)) ∧ w = w' := by
  have h := point_calls (s.extract i s.size) w
  rw [extract_from] at h
  exact h

theorem range_any_succ (f : Nat → Bool) (k : Nat) : (List.range (k + 1)).any f = ((List.range k).any f || f k) := by
  rw [List.range_succ, List.any_append]; simp
theorem range_any_true (f : Nat → Bool) (n k : Nat) (h : k < n) (hf : f k = true) : (List.range n).any f = true :=
  List.any_eq_true.2 ⟨k, by simpa using h, hf⟩

set_option maxHeartbeats 4000000 in
set_option maxRecDepth 100000 in
theorem upwards_calls (s : ByteArray) (w : World) (hs : s.size ≤ 2147483647) :
    Calls Try.prog 81 #[.string s] w fun e w' => e = .returned (.bool (upwardsL s.data.toList)) ∧ Below w.heap.size w w' := by
  have HLow := Lib.hid (fun w => specLower_calls s w hs)
  have HU := Lib.hid (show upwardsL s.data.toList = upsL (lowS s).data.toList from rfl)
  have hLs : (lowS s).size ≤ 2147483647 := by rw [lowS_size]; exact hs
  generalize lowS s = L at HLow hLs HU
  have HU2 := Lib.hid (show upsL L.data.toList = (List.range L.size).any (upAt L.data.toList) by rw [upsL]; simp)
  go_enter Try.func81, Try.ntmps81
  go_wp2_with fail
  refine (HLow.out _).mono ?_
  rintro e w1 ⟨rfl, hb⟩
  have hB := Lib.hid hb
  clear hb
  go_wp2_with fail
  go_loopg [4] L.size (fun gk i wr => ∃ k : Nat, gk = L.size - k ∧ k ≤ L.size ∧ i = .int .i64 k ∧ Hid ((List.range k).any (upAt L.data.toList) = false) ∧ Hid (Below w.heap.size w wr))
  case atStart => exact ⟨0, rfl, Nat.zero_le _, rfl, by simp [Hid], hB⟩
  case round =>
    obtain ⟨k, hgk, hk, rfl, ha, hB⟩ := hrel
    have HG := Lib.hid hgk
    clear hgk
    by_cases hlt : k < L.size
    · have HP := Lib.hid (fun w => point_from L k w)
      have H := Lib.hid (range_any_succ (upAt L.data.toList) k)
      have hple := pointL_le (L.data.toList.drop k)
      obtain ⟨n, hn⟩ : ∃ n, pointL (L.data.toList.drop k) = n := ⟨_, rfl⟩
      have HQ := Lib.hid (show upAt L.data.toList k = (decide (0 < n) && decide (0 < pointL (L.data.toList.drop (k + n)))) by rw [upAt, hn])
      rw [hn] at HP hple
      have hkn : k + n ≤ L.size := by simp at hple; omega
      clear hn hple
      have HP2 := Lib.hid (fun w => point_from L (k + n) w)
      by_cases h0 : 0 < n
      · have g0 : decide ((0:Int) < (n : Int)) = true := by simp; omega
        obtain ⟨m, hm⟩ : ∃ m, pointL (L.data.toList.drop (k + n)) = m := ⟨_, rfl⟩
        rw [hm] at HP2 HQ
        have H0 := Lib.hid (show decide (0 < n) = true by simp; omega)
        clear hm
        by_cases h1 : 0 < m
        · have g1 : decide ((0:Int) < (m : Int)) = true := by simp; omega
          have HT := Lib.hid (show upAt L.data.toList k = true by rw [HQ.out]; simp [h0, h1])
          go_wp2_with fail
          refine (HP.out _).mono ?_
          rintro e w2 ⟨rfl, rfl⟩
          go_wp2_with fail
          refine (HP2.out _).mono ?_
          rintro e w2 ⟨rfl, rfl⟩
          go_wp2_with fail
          go_ret
          exact ⟨ret_bool (by rw [HU.out, HU2.out, range_any_true _ _ k hlt HT.out]), hB.out⟩
        · have g1 : decide ((0:Int) < (m : Int)) = false := by simp; omega
          have HT := Lib.hid (show upAt L.data.toList k = false by rw [HQ.out]; simp [h0, h1])
          go_wp2_with fail
          refine (HP.out _).mono ?_
          rintro e w2 ⟨rfl, rfl⟩
          go_wp2_with fail
          refine (HP2.out _).mono ?_
          rintro e w2 ⟨rfl, rfl⟩
          go_wp2_with fail
          go_roundg (L.size - (k + 1))
          case measure => rw [HG.out]; omega
          case rel => exact ⟨k + 1, rfl, by omega, by simp, by rw [Hid, H.out, ha.out, HT.out]; rfl, hB⟩
      · have g0 : decide ((0:Int) < (n : Int)) = false := by simp; omega
        have HT := Lib.hid (show upAt L.data.toList k = false by rw [HQ.out]; simp [h0])
        go_wp2_with fail
        refine (HP.out _).mono ?_
        rintro e w2 ⟨rfl, rfl⟩
        go_wp2_with fail
        go_roundg (L.size - (k + 1))
        case measure => rw [HG.out]; omega
        case rel => exact ⟨k + 1, rfl, by omega, by simp, by rw [Hid, H.out, ha.out, HT.out]; rfl, hB⟩
    · have hks : k = L.size := by omega
      have HT := Lib.hid (show (List.range L.size).any (upAt L.data.toList) = false by rw [← hks]; exact ha.out)
      clear hks HG
      go_wp2_with fail
      go_ret
      exact ⟨ret_bool (by rw [HU.out, HU2.out, HT.out]), hB.out⟩

set_option maxHeartbeats 4000000 in
set_option maxRecDepth 100000 in
theorem zzDot_calls (s : ByteArray) (i : Nat) (hi : i ≤ s.size) (w : World) (hs : s.size ≤ 2147483647) :
    Calls Try.prog 162 #[.string s, .int .i64 i] w fun e w' => e = .returned (.int .i64 ((i + pointL (s.data.toList.drop i) : Nat) : Int)) ∧ w = w' := by
  by_cases hlt : i < s.size
  · have g1 : decide ((i:Int) < (s.size : Int)) = true := by simp; omega
    have hD := drop_byte s i hlt
    cases h46 : ((s[i].toNat : Int) == 46) with
    | true =>
      have HP := Lib.hid (show pointL (s.data.toList.drop i) = 1 by
        have e : s[i] = 46 := by have := u8_beq s[i] 46; rw [show ((46 : UInt8).toNat : Int) = 46 from rfl, h46] at this; simpa using this.symm
        rw [pointL, if_pos (by rw [hD, startsL, e]; rfl)])
      clear hD
      go_enter Try.func162, Try.ntmps162
      go_wp2_with fail
      go_ret
      exact ⟨ret_int (by rw [HP.out]; simp), rfl⟩
    | false =>
      have HN := Lib.hid (show ¬ startsL (s.data.toList.drop i) [46] = true by
        have e : (s[i] == 46) = false := by have := u8_beq s[i] 46; rw [show ((46 : UInt8).toNat : Int) = 46 from rfl, h46] at this; exact this.symm
        rw [hD, startsL]
        simp [List.isPrefixOf]
        intro h; rw [← h] at e; simp at e)
      clear hD
      have HX := Lib.hid (extract_from s i)
      cases h2 : startsB (s.extract i s.size) ⟨#[37, 50, 101]⟩ with
      | true =>
        have HP := Lib.hid (show pointL (s.data.toList.drop i) = 3 by
          rw [pointL, if_neg HN.out, if_pos (by rw [startsB, HX.out] at h2; exact h2)])
        go_enter Try.func162, Try.ntmps162
        go_wp2_with fail
        refine (utilStarts_calls _ _ _).mono ?_
        rintro e w2 ⟨rfl, rfl⟩
        go_wp2_with fail
        go_ret
        exact ⟨ret_int (by rw [HP.out]; simp), rfl⟩
      | false =>
        have HP := Lib.hid (show pointL (s.data.toList.drop i) = 0 by
          rw [pointL, if_neg HN.out, if_neg (by rw [startsB, HX.out] at h2; rw [Bool.not_eq_true]; exact h2)])
        go_enter Try.func162, Try.ntmps162
        go_wp2_with fail
        refine (utilStarts_calls _ _ _).mono ?_
        rintro e w2 ⟨rfl, rfl⟩
        go_wp2_with fail
        go_ret
        exact ⟨ret_int (by rw [HP.out]; simp), rfl⟩
  · have g1 : decide ((i:Int) < (s.size : Int)) = false := by simp; omega
    have HP := Lib.hid (show pointL (s.data.toList.drop i) = 0 by rw [List.drop_of_length_le (by simp; omega)]; rfl)
    go_enter Try.func162, Try.ntmps162
    go_wp2_with fail
    go_ret
    exact ⟨ret_int (by rw [HP.out]; simp), rfl⟩

theorem low_ascii (s : ByteArray) (h : asciiB s = true) (i : Nat) (hi : i < (lowS s).size) : ((lowS s)[i]).toNat < 128 := by
  have h1 := getElem_mem_data (lowS s) i hi
  rw [lowS_data, lowL, List.mem_map] at h1
  obtain ⟨c, hc, he⟩ := h1
  have h2 := List.all_eq_true.1 h c hc
  simp [asciiC] at h2
  rw [← he, lowC]
  split
  · have h3 : (c + 32).toNat = (c.toNat + 32) % 256 := by simp [UInt8.toNat_add]
    omega
  · omega

theorem next_ascii (w : World) (k : Nat) (s : ByteArray) (pos : Nat) (hk : w.heap[k]? = some (.stringIter s pos)) (h : pos < s.size) (ha : s[pos].toNat < 128) :
    ∃ (wi : World) (r : Int), (∀ ty, (Instr.next (.pointer (some ⟨k, 0, none⟩)) true ty).run Try.prog w = .ok (.tuple #[.bool true, .int .i64 pos, .int .i32 r]) wi) ∧
      wi.heap[k]? = some (.stringIter s (pos + 1)) ∧ wi.heap.size = w.heap.size ∧ (∀ B, B ≤ k → Below B w wi) := by
  have hd := decode_ascii s pos h ha
  have h1 := Lib.run_next_any_at (P := Try.prog) w k s pos
  rw [hd] at h1
  exact ⟨w.iterAt k s (pos + 1), _, fun ty => h1 ty hk h, Lib.iterAt_heap w k s pos _ hk, Lib.iterAt_size w k s _, fun B hB => Lib.below_iterAt (Below.refl _ _) hB s _⟩

set_option maxHeartbeats 4000000 in
set_option maxRecDepth 100000 in
theorem dotPattern_calls (s : ByteArray) (w : World) (hs : s.size ≤ 2147483647) (hasc : Hid (asciiB s = true)) :
    Calls Try.prog 161 #[.string s] w fun e w' => e = .returned (.bool (upwardsL s.data.toList)) ∧ Below w.heap.size w w' := by
  have HLow := Lib.hid (fun w => utilLower_calls s w hs)
  have HU := Lib.hid (show upwardsL s.data.toList = upsL (lowS s).data.toList from rfl)
  have hLs : (lowS s).size ≤ 2147483647 := by rw [lowS_size]; exact hs
  have HA := Lib.hid (low_ascii s hasc.out)
  generalize lowS s = L at HLow hLs HU HA
  have HU2 := Lib.hid (show upsL L.data.toList = (List.range L.size).any (upAt L.data.toList) by rw [upsL]; simp)
  go_enter Try.func161, Try.ntmps161
  go_wp2_with fail
  refine (HLow.out _).mono ?_
  rintro e w1 ⟨rfl, hb⟩
  have hB := Lib.hid hb
  clear hb
  go_wp2_with fail
  have HI1 := Lib.hid (World.iter_heap w1 L 0)
  have HB1 := Lib.hid (show Below w.heap.size w (w1.iter L 0) from hB.out.alloc hB.out.size _)
  go_loopg [3] L.size (fun gk v wr => ∃ k : Nat, gk = L.size - k ∧ k ≤ L.size ∧ Hid (wr.heap[w1.heap.size]? = some (.stringIter L k)) ∧ Hid ((List.range k).any (upAt L.data.toList) = false) ∧ Hid (Below w.heap.size w wr))
  case atStart => exact ⟨0, rfl, Nat.zero_le _, HI1, by simp [Hid], HB1⟩
  case round =>
    obtain ⟨k, hgk, hk, hit, ha, hBr⟩ := hrel
    have HG := Lib.hid hgk
    clear hgk
    by_cases hlt : k < L.size
    · obtain ⟨wi, r, hnx, hki, hsz, hbel⟩ := next_ascii wr _ L k hit.out hlt (HA.out k hlt)
      have HK := Lib.hid hki
      have HBi := Lib.hid (hBr.out.trans (hbel _ hB.out.size))
      clear hki hbel hsz
      have HP := Lib.hid (fun w => zzDot_calls L k hk w hLs)
      have H := Lib.hid (range_any_succ (upAt L.data.toList) k)
      have hple := pointL_le (L.data.toList.drop k)
      obtain ⟨n, hn⟩ : ∃ n, pointL (L.data.toList.drop k) = n := ⟨_, rfl⟩
      have HQ := Lib.hid (show upAt L.data.toList k = (decide (0 < n) && decide (0 < pointL (L.data.toList.drop (k + n)))) by rw [upAt, hn])
      rw [hn] at HP hple
      have hkn : k + n ≤ L.size := by simp at hple; omega
      clear hn hple
      have HP2 := Lib.hid (fun w => zzDot_calls L (k + n) hkn w hLs)
      by_cases h0 : 0 < n
      · have g0 : decide ((k:Int) < ((k + n : Nat) : Int)) = true := by simp; omega
        obtain ⟨m, hm⟩ : ∃ m, pointL (L.data.toList.drop (k + n)) = m := ⟨_, rfl⟩
        rw [hm] at HP2 HQ
        obtain ⟨q, hq⟩ : ∃ q, k + n = q := ⟨_, rfl⟩
        rw [hq] at HP HP2 g0
        clear hm
        by_cases h1 : 0 < m
        · have g1 : decide ((q:Int) < ((q + m : Nat) : Int)) = true := by simp; omega
          have HT := Lib.hid (show upAt L.data.toList k = true by rw [HQ.out]; simp [h0, h1])
          obtain ⟨q2, hq2⟩ : ∃ q2, q + m = q2 := ⟨_, rfl⟩
          rw [hq2] at HP2 g1
          have g1n : decide (q < q2) = decide ((q:Int) < (q2 : Int)) := by simp
          rw [g1] at g1n
          have g0n : decide (k < q) = decide ((k:Int) < (q : Int)) := by simp
          rw [g0] at g0n
          clear hq hq2
          go_wp2_with fail
          refine (HP.out _).mono ?_
          rintro e w2 ⟨rfl, rfl⟩
          go_wp2_with fail
          refine (HP2.out _).mono ?_
          rintro e w2 ⟨rfl, rfl⟩
          go_wp2_with fail
          go_ret
          exact ⟨ret_bool (by rw [HU.out, HU2.out, range_any_true _ _ k hlt HT.out]), HBi.out⟩
        · have g1 : decide ((q:Int) < ((q + m : Nat) : Int)) = false := by simp; omega
          have HT := Lib.hid (show upAt L.data.toList k = false by rw [HQ.out]; simp [h0, h1])
          obtain ⟨q2, hq2⟩ : ∃ q2, q + m = q2 := ⟨_, rfl⟩
          rw [hq2] at HP2 g1
          have g1n : decide (q < q2) = decide ((q:Int) < (q2 : Int)) := by simp
          rw [g1] at g1n
          have g0n : decide (k < q) = decide ((k:Int) < (q : Int)) := by simp
          rw [g0] at g0n
          clear hq hq2
          go_wp2_with fail
          refine (HP.out _).mono ?_
          rintro e w2 ⟨rfl, rfl⟩
          go_wp2_with fail
          refine (HP2.out _).mono ?_
          rintro e w2 ⟨rfl, rfl⟩
          go_wp2_with fail
          go_roundg (L.size - (k + 1))
          case measure => rw [HG.out]; omega
          case rel => exact ⟨k + 1, rfl, by omega, HK, by rw [Hid, H.out, ha.out, HT.out]; rfl, HBi⟩
      · have g0 : decide ((k:Int) < ((k + n : Nat) : Int)) = false := by simp; omega
        have HT := Lib.hid (show upAt L.data.toList k = false by rw [HQ.out]; simp [h0])
        obtain ⟨q, hq⟩ : ∃ q, k + n = q := ⟨_, rfl⟩
        rw [hq] at HP g0
        have g0n : decide (k < q) = decide ((k:Int) < (q : Int)) := by simp
        rw [g0] at g0n
        clear hq
        go_wp2_with fail
        refine (HP.out _).mono ?_
        rintro e w2 ⟨rfl, rfl⟩
        go_wp2_with fail
        go_roundg (L.size - (k + 1))
        case measure => rw [HG.out]; omega
        case rel => exact ⟨k + 1, rfl, by omega, HK, by rw [Hid, H.out, ha.out, HT.out]; rfl, HBi⟩
    · have hks : k = L.size := by omega
      have HT := Lib.hid (show (List.range L.size).any (upAt L.data.toList) = false by rw [← hks]; exact ha.out)
      have hend := fun ty => Lib.run_next_end_at (P := Try.prog) wr w1.heap.size L k ty hit.out hlt
      clear hks HG
      go_wp2_with fail
      go_ret
      exact ⟨ret_bool (by rw [HU.out, HU2.out, HT.out]), hBr.out⟩

set_option maxRecDepth 100000 in
theorem dotDot_calls (s : ByteArray) (w : World) (hs : s.size ≤ 2147483647) (hasc : Hid (asciiB s = true)) :
    Calls Try.prog 156 #[.string s] w fun e w' => e = .returned (.bool (upwardsL s.data.toList)) ∧ Below w.heap.size w w' := by
  go_enter Try.func156, Try.ntmps156
  go_wp2_with fail
  refine (dotPattern_calls s _ hs hasc).mono ?_
  rintro e w1 ⟨rfl, hb⟩
  go_wp2_with fail
  go_ret
  exact ⟨rfl, hb⟩
end Go.Proofs.Ytmgkolcpomaceaa
