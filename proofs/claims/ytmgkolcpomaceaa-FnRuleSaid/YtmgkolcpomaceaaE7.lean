/- spec.Safe, spec.Sanitized and FnURL: the walks. -/
import Derived.Test.YtmgkolcpomaceaaE6
namespace Go.Proofs.Ytmgkolcpomaceaa
open Go.RowKit
set_option linter.unusedVariables false
set_option linter.unusedSimpArgs false

set_option maxHeartbeats 4000000 in
set_option maxRecDepth 100000 in
theorem specSafe_calls (s : ByteArray) (w : World) (hs : s.size ≤ 2147483647) :
    Calls Try.prog 62 #[.string s] w (PairPost (specSafe s) w) := by
  have hls : (lowS s).size ≤ 2147483647 := by rw [lowS_size]; exact hs
  have HS := Lib.hid (show specSafe s = if schemes.any (startsB (lowS s)) then (true, true) else if startsB (lowS s) sData then dataRes (lowS s) else (scanL s.data.toList, true) from rfl)
  go_enter Try.func62, Try.ntmps62
  go_wp2_with fail
  refine (specLower_calls s _ hs).mono ?_
  rintro e w1 ⟨rfl, hb1⟩
  generalize lowS s = t at hls HS ⊢
  have HB1 := Lib.hid hb1
  have hz1 := hb1.size
  clear hb1
  have HA := Lib.hid (strsAt_new w1 w1.heap.size schemes 9 rfl)
  have HB := Lib.hid (HB1.out.alloc hz1 (.cells (schemes.map Value.string).toArray 9))
  go_wp2
  change Code.wp Try.prog _ _ _ (w1.alloc (Obj.cells (List.map Value.string schemes).toArray 9))
  generalize w1.alloc (Obj.cells (List.map Value.string schemes).toArray 9) = wq at HA HB ⊢
  go_loop [12] (fun j => ∃ n : Nat, n ≤ 4 ∧ j = .int .i64 n ∧ Hid ((schemes.take n).any (startsB t) = false)) (fun j => 4 - (intOf j).toNat)
  case atStart => exact ⟨0, by omega, rfl, rfl⟩
  case round =>
    obtain ⟨n, hn, rfl, ha⟩ := hrel
    by_cases hnt : n < 4
    · have hn5 : n < schemes.length := hnt
      have HT := Lib.hid (any_take_succ (p := startsB t) schemes n hn5)
      have HX := Lib.hid (fun h => any_true_of (p := startsB t) schemes n hn5 h)
      obtain ⟨ad, e1, hblk, hc⟩ := HA.out n hn5
      rw [Option.some.injEq] at e1
      rw [← e1] at hc
      have hc' : wq.cell? ⟨w1.heap.size, n, none⟩ = some (.string schemes[n]) := by
        rw [← hc]; congr 1; unfold Addr.add; split <;> simp_all
      clear hc e1 hblk
      generalize schemes[n] = e at HT HX hc'
      cases hb : startsB t e
      · have HP := Lib.hid hb
        clear hb
        go_wp2_with fail
        refine (specStarts_calls _ e _).mono ?_
        rintro x w' ⟨rfl, rfl⟩
        have hp := HP.out
        go_wp2
        go_round
        case rel => exact ⟨n + 1, by omega, by go_num, by rw [Hid, HT.out, ha.out, HP.out]; rfl⟩
        case measure => simp [intOf]; omega
      · have HP := Lib.hid hb
        clear hb
        go_wp2_with fail
        refine (specStarts_calls _ e _).mono ?_
        rintro x w' ⟨rfl, rfl⟩
        have hp := HP.out
        go_wp2
        go_ret2
        exact ⟨by rw [HS.out, if_pos (HX.out HP.out)]; rfl, HB.out⟩
    · have HN := Lib.hid (show specSafe s = if startsB t sData then dataRes t else (scanL s.data.toList, true) by
        rw [HS.out, if_neg (by rw [any_of_take schemes n (by show 4 ≤ n; omega) ha.out]; simp)])
      clear ha
      cases hd : startsB t sData
      · have HN2 := Lib.hid (show specSafe s = (scanL s.data.toList, true) by rw [HN.out, if_neg (by rw [hd]; simp)])
        have HP := Lib.hid hd
        clear hd
        go_wp2_with fail
        refine (specStarts_calls t sData _).mono ?_
        rintro x w' ⟨rfl, rfl⟩
        have hp := HP.out
        go_wp2
        clear hp
        go_loop [7] (fun i => ∃ k : Nat, k ≤ s.size ∧ i = .int .i64 k ∧ Hid (scanL s.data.toList = scanL (s.data.toList.drop k))) (fun i => s.size - (intOf i).toNat)
        case atStart => exact ⟨0, Nat.zero_le _, rfl, by simp [Hid]⟩
        case round =>
          obtain ⟨k, hk, rfl, hp⟩ := hrel
          by_cases hlt : k < s.size
          · have HD := Lib.hid (drop_byte s k hlt)
            have h256 := toNat_lt_256 s[k]
            by_cases h47 : s[k] = 47
            · have g47 : ((s[k].toNat : Int) == 47) = true := eq_u8 _ _ h47
              have HE := Lib.hid (scanL_end (c := s[k]) (l := s.data.toList.drop (k + 1)) (by rw [h47]; decide) (by simp [h47]))
              clear h47
              go_wp2
              go_ret2
              exact ⟨by rw [HN2.out, hp.out, HD.out, HE.out]; rfl, HB.out⟩
            have g47 : ((s[k].toNat : Int) == 47) = false := ne_u8 _ _ h47
            have H47 := Lib.hid h47
            clear h47
            by_cases h63 : s[k] = 63
            · have g63 : ((s[k].toNat : Int) == 63) = true := eq_u8 _ _ h63
              have HE := Lib.hid (scanL_end (c := s[k]) (l := s.data.toList.drop (k + 1)) (by rw [h63]; decide) (by simp [h63]))
              clear h63
              go_wp2
              go_ret2
              exact ⟨by rw [HN2.out, hp.out, HD.out, HE.out]; rfl, HB.out⟩
            have g63 : ((s[k].toNat : Int) == 63) = false := ne_u8 _ _ h63
            have H63 := Lib.hid h63
            clear h63
            by_cases h35 : s[k] = 35
            · have g35 : ((s[k].toNat : Int) == 35) = true := eq_u8 _ _ h35
              have HE := Lib.hid (scanL_end (c := s[k]) (l := s.data.toList.drop (k + 1)) (by rw [h35]; decide) (by simp [h35]))
              clear h35
              go_wp2
              go_ret2
              exact ⟨by rw [HN2.out, hp.out, HD.out, HE.out]; rfl, HB.out⟩
            have g35 : ((s[k].toNat : Int) == 35) = false := ne_u8 _ _ h35
            have H35 := Lib.hid h35
            clear h35
            by_cases h58 : s[k] = 58
            · have g58 : ((s[k].toNat : Int) == 58) = true := eq_u8 _ _ h58
              have HE := Lib.hid (scanL_colon (l := s.data.toList.drop (k + 1)) h58)
              clear h58
              go_wp2
              go_ret2
              exact ⟨by rw [HN2.out, hp.out, HD.out, HE.out]; rfl, HB.out⟩
            have g58 : ((s[k].toNat : Int) == 58) = false := ne_u8 _ _ h58
            have HE := Lib.hid (scanL_on (l := s.data.toList.drop (k + 1)) h58 H47.out H63.out H35.out)
            clear h58
            go_wp2
            go_round
            case rel => exact ⟨k + 1, by omega, by go_num, by rw [Hid, hp.out, HD.out, HE.out]⟩
            case measure => simp [intOf]; omega
          · go_wp2
            go_ret2
            exact ⟨by rw [HN2.out, hp.out, List.drop_eq_nil_of_le (by simp; omega)]; rfl, HB.out⟩
      · have HN2 := Lib.hid (show specSafe s = dataRes t by rw [HN.out, if_pos hd])
        have h5 : 5 ≤ t.size := startsB_size hd
        have HP := Lib.hid hd
        clear hd
        go_wp2_with fail
        refine (specStarts_calls t sData _).mono ?_
        rintro x w' ⟨rfl, rfl⟩
        have hp := HP.out
        go_wp2_with fail
        refine (data_calls t _ hls h5).mono ?_
        rintro x w2 ⟨rfl, hb2⟩
        go_wp2
        go_ret2
        exact ⟨by rw [HN2.out]; rfl, below_then HB.out HB.out.size hb2⟩

def SanPost (s : ByteArray) (p : Bool × Bool) (w : World) (e : Ending) (w' : World) : Prop := e = .returned (.tuple #[.string (if p.1 then s else innoc), .bool p.2]) ∧ Below w.heap.size w w'
set_option maxRecDepth 100000 in
theorem sanitized_calls (s : ByteArray) (w : World) (hs : s.size ≤ 2147483647) :
    Calls Try.prog 25 #[.string s] w (SanPost s (specSafe s) w) := by
  obtain ⟨⟨a, b⟩, hp⟩ : ∃ p, p = specSafe s := ⟨_, rfl⟩
  have HP := Lib.hid hp
  clear hp
  cases a
  · go_enter Try.func25, Try.ntmps25
    go_wp2_with fail
    refine (specSafe_calls s _ hs).mono ?_
    rw [← HP.out]
    rintro e w1 ⟨rfl, hb⟩
    go_wp2
    go_ret2
    exact ⟨by rw [← HP.out]; rfl, hb⟩
  · go_enter Try.func25, Try.ntmps25
    go_wp2_with fail
    refine (specSafe_calls s _ hs).mono ?_
    rw [← HP.out]
    rintro e w1 ⟨rfl, hb⟩
    go_wp2
    go_ret2
    exact ⟨by rw [← HP.out]; rfl, hb⟩

set_option maxHeartbeats 2000000 in
set_option maxRecDepth 100000 in
theorem fnURL_any (s : ByteArray) (w : World) (hs : s.size ≤ maxLen) :
    Calls Try.prog 6 #[.string s] w fun x w' => x = .returned (.bool true) ∧ Below w.heap.size w w' := by
  unfold maxLen at hs
  by_cases h1 : 2147483647 < s.size
  · have g1 : decide (2147483647 < (s.size : Int)) = true := decide_eq_true (by omega)
    have g2 : decide (2147483647 < s.size) = true := decide_eq_true (by omega)
    go_enter Try.func6, Try.ntmps6
    go_wp2
    go_ret
    exact ⟨rfl, Below.refl _ _⟩
  · have g1 : decide (2147483647 < (s.size : Int)) = false := decide_eq_false (by omega)
    have g2 : decide (2147483647 < s.size) = false := decide_eq_false (by omega)
    obtain ⟨⟨a, b⟩, hp⟩ : ∃ p, p = specSafe s := ⟨_, rfl⟩
    have HP := Lib.hid hp
    clear hp
    cases h2 : asciiB s && smallB s
    · have H2 := Lib.hid h2
      clear h2
      cases a
      all_goals
        go_enter Try.func6, Try.ntmps6
        go_wp2_with fail
        refine (sanitized_calls s _ (by omega)).mono ?_
        rw [← HP.out]
        rintro e w1 ⟨rfl, hb⟩
        simp only
        go_wp2_with fail
        refine (ascii_calls s _ (by omega)).mono ?_
        rw [H2.out]
        rintro e w2 ⟨rfl, rfl⟩
        go_wp2
        go_ret
        exact ⟨rfl, hb⟩
    · have H2 := Lib.hid h2
      have HA := Lib.hid (show asciiB s = true by rw [Bool.and_eq_true] at h2; exact h2.1)
      have hsz : s.size ≤ 200 := by rw [Bool.and_eq_true] at h2; simpa [smallB] using h2.2
      clear h2
      cases b
      · cases a
        all_goals
          go_enter Try.func6, Try.ntmps6
          go_wp2_with fail
          refine (sanitized_calls s _ (by omega)).mono ?_
          rw [← HP.out]
          rintro e w1 ⟨rfl, hb⟩
          simp only
          go_wp2_with fail
          refine (ascii_calls s _ (by omega)).mono ?_
          rw [H2.out]
          rintro e w2 ⟨rfl, rfl⟩
          go_wp2
          go_ret
          exact ⟨rfl, hb⟩
      · have HU := Lib.hid (show urlS s = if a then s else innoc by rw [urlS, safe_sides s a HP.out.symm])
        cases a
        all_goals
          go_enter Try.func6, Try.ntmps6
          go_wp2_with fail
          refine (sanitized_calls s _ (by omega)).mono ?_
          rw [← HP.out]
          rintro e w1 ⟨rfl, hb⟩
          simp only
          rw [← HU.out]
          go_wp2_with fail
          refine (ascii_calls s _ (by omega)).mono ?_
          rw [H2.out]
          rintro e w2 ⟨rfl, rfl⟩
          go_wp2_with fail
          refine (implURL_calls s _ hsz HA).mono ?_
          rintro e w2 ⟨rfl, hb2⟩
          go_wp2
          go_ret
          exact ⟨rfl, below_then hb hb.size hb2⟩
end Go.Proofs.Ytmgkolcpomaceaa
