/- The package's URLs: schemes, data, kinds of data. -/
import Derived.Test.YtmgkolcpomaceaaB6
import Derived.Test.YtmgkolcpomaceaaB7
import Derived.Test.YtmgkolcpomaceaaB8
import Derived.Test.YtmgkolcpomaceaaD1
namespace Go.Proofs.Ytmgkolcpomaceaa
open Go.RowKit
set_option linter.unusedVariables false
set_option linter.unusedSimpArgs false

set_option maxHeartbeats 4000000 in
set_option maxRecDepth 100000 in
theorem data1_calls (c : UInt8) (w : World) : Calls Try.prog 149 #[.int .u8 (c.toNat : Int)] w fun e w' => e = .returned (.bool (b64C c)) ∧ Below w.heap.size w w' := by
  have h256 := c.toNat_lt
  have HW := Lib.hid (Below.refl w.heap.size w)
  by_cases e0 : 97 ≤ c.toNat ∧ c.toNat ≤ 122
  · have HF := Lib.hid (show b64C c = true by simp [b64C, e0.1, e0.2])
    obtain ⟨e0a, e0b⟩ := e0
    go_enter Try.func149, Try.ntmps149
    go_wp2
    go_ret
    exact ⟨ret_bool HF.out.symm, HW.out⟩
  have P0 := Lib.hid (show (decide (97 ≤ c.toNat) && decide (c.toNat ≤ 122)) = false by rw [Bool.and_eq_false_iff, decide_eq_false_iff_not, decide_eq_false_iff_not]; omega)
  rcases (show c.toNat < 97 ∨ 122 < c.toNat from by omega) with e0' | e0'

  case' inl =>
    have g0 : decide (97 ≤ (c.toNat : Int)) = false := by simp; omega
  case' inr =>
    have g0 : decide (97 ≤ (c.toNat : Int)) = true := by simp; omega
    have k0 : decide ((c.toNat : Int) ≤ 122) = false := by simp; omega
  all_goals
    clear e0
    cases e1 : digitC c
    case' true =>
      have HF := Lib.hid (show b64C c = true by simp [b64C, e1])
      have P1 := Lib.hid e1
      clear e1
      go_enter Try.func149, Try.ntmps149
      go_wp2_with fail
      refine (zzDigit_calls c _).mono ?_
      rintro e w' ⟨rfl, rfl⟩
      have p1 := P1.out
      go_wp2
      go_ret
      exact ⟨ret_bool HF.out.symm, HW.out⟩
    have P1 := Lib.hid e1
    clear e1
    by_cases e2 : c = 43
    · have g2 : ((c.toNat : Int) == 43) = true := eq_u8 _ _ e2
      have HF := Lib.hid (show b64C c = true by simp [b64C, e2])
      clear e2
      go_enter Try.func149, Try.ntmps149
      go_wp2_with fail
      refine (zzDigit_calls c _).mono ?_
      rintro e w' ⟨rfl, rfl⟩
      have p1 := P1.out
      go_wp2
      go_ret
      exact ⟨ret_bool HF.out.symm, HW.out⟩
    have g2 : ((c.toNat : Int) == 43) = false := ne_u8 _ _ e2
    have P2 := Lib.hid e2
    clear e2
    by_cases e3 : c = 47
    · have g3 : ((c.toNat : Int) == 47) = true := eq_u8 _ _ e3
      have HF := Lib.hid (show b64C c = true by simp [b64C, e3])
      clear e3
      go_enter Try.func149, Try.ntmps149
      go_wp2_with fail
      refine (zzDigit_calls c _).mono ?_
      rintro e w' ⟨rfl, rfl⟩
      have p1 := P1.out
      go_wp2
      go_ret
      exact ⟨ret_bool HF.out.symm, HW.out⟩
    have g3 : ((c.toNat : Int) == 47) = false := ne_u8 _ _ e3
    have P3 := Lib.hid e3
    clear e3
    have HF := Lib.hid (show b64C c = false by simp [b64C, P0.out, P1.out, P2.out, P3.out])
    go_enter Try.func149, Try.ntmps149
    go_wp2_with fail
    refine (zzDigit_calls c _).mono ?_
    rintro e w' ⟨rfl, rfl⟩
    have p1 := P1.out
    go_wp2
    go_ret
    exact ⟨ret_bool HF.out.symm, HW.out⟩

def schemes : List ByteArray := [⟨#[104, 116, 116, 112, 58]⟩, ⟨#[104, 116, 116, 112, 115, 58]⟩, ⟨#[109, 97, 105, 108, 116, 111, 58]⟩, ⟨#[102, 116, 112, 58]⟩]
/-- Whether the first of : / ? # is no : (or there is none). -/
def scanL : List UInt8 → Bool
  | [] => true
  | c :: l => if c = 58 then false else if c = 47 ∨ c = 63 ∨ c = 35 then true else scanL l
theorem scanL_colon {c : UInt8} {l : List UInt8} (h : c = 58) : scanL (c :: l) = false := by rw [scanL, if_pos h]
theorem scanL_end {c : UInt8} {l : List UInt8} (h1 : ¬ c = 58) (h2 : c = 47 ∨ c = 63 ∨ c = 35) : scanL (c :: l) = true := by rw [scanL, if_neg h1, if_pos h2]
theorem scanL_on {c : UInt8} {l : List UInt8} (h1 : ¬ c = 58) (h2 : ¬ c = 47) (h3 : ¬ c = 63) (h4 : ¬ c = 35) : scanL (c :: l) = scanL l := by
  rw [scanL, if_neg h1, if_neg (by simp [h2, h3, h4])]
def safePatB (s : ByteArray) : Bool := schemes.any (startsB s) || scanL s.data.toList

set_option maxHeartbeats 1000000 in
set_option maxRecDepth 100000 in
theorem safePat_calls (s : ByteArray) (w : World) (hs : s.size ≤ 2147483647) :
    Calls Try.prog 124 #[.string s] w fun e w' => e = .returned (.bool (safePatB s)) ∧ Below w.heap.size w w' := by
  have HA := Lib.hid (strsAt_new w w.heap.size schemes 9 rfl)
  have HB := Lib.hid ((Below.refl w.heap.size w).alloc (Nat.le_refl _) (.cells (schemes.map Value.string).toArray 9))
  go_enter Try.func124, Try.ntmps124
  go_wp2
  change Code.wp Try.prog _ _ _ (w.alloc (Obj.cells (List.map Value.string schemes).toArray 9))
  generalize w.alloc (Obj.cells (List.map Value.string schemes).toArray 9) = wq at HA HB ⊢
  go_loop [8] (fun j => ∃ n : Nat, n ≤ 4 ∧ j = .int .i64 n ∧ Hid ((schemes.take n).any (startsB s) = false)) (fun j => 4 - (intOf j).toNat)
  case atStart => exact ⟨0, by omega, rfl, rfl⟩
  case round =>
    obtain ⟨n, hn, rfl, ha⟩ := hrel
    by_cases hnt : n < 4
    · have hn5 : n < schemes.length := hnt
      have HT := Lib.hid (any_take_succ (p := startsB s) schemes n hn5)
      have HX := Lib.hid (fun h => any_true_of (p := startsB s) schemes n hn5 h)
      obtain ⟨ad, e1, hblk, hc⟩ := HA.out n hn5
      rw [Option.some.injEq] at e1
      rw [← e1] at hc
      have hc' : wq.cell? ⟨w.heap.size, n, none⟩ = some (.string schemes[n]) := by
        rw [← hc]; congr 1; unfold Addr.add; split <;> simp_all
      clear hc e1 hblk
      generalize schemes[n] = e at HT HX hc'
      cases hb : startsB s e
      · have HP := Lib.hid hb
        clear hb
        go_wp2_with fail
        refine (zzStarts_calls _ e _).mono ?_
        rintro x w' ⟨rfl, rfl⟩
        have hp := HP.out
        go_wp2
        go_round
        case rel => exact ⟨n + 1, by omega, by go_num, by rw [Hid, HT.out, ha.out, HP.out]; rfl⟩
        case measure => simp [intOf]; omega
      · have HP := Lib.hid hb
        clear hb
        go_wp2_with fail
        refine (zzStarts_calls _ e _).mono ?_
        rintro x w' ⟨rfl, rfl⟩
        have hp := HP.out
        go_wp2
        go_ret
        exact ⟨ret_bool (by rw [safePatB, HX.out HP.out]; rfl), HB.out⟩
    · have HN := Lib.hid (any_of_take schemes n (by show 4 ≤ n; omega) ha.out)
      go_wp2
      go_loop [5] (fun i => ∃ k : Nat, k ≤ s.size ∧ i = .int .i64 k ∧ Hid (scanL s.data.toList = scanL (s.data.toList.drop k))) (fun i => s.size - (intOf i).toNat)
      case atStart => exact ⟨0, Nat.zero_le _, rfl, by simp [Hid]⟩
      case round =>
        obtain ⟨k, hk, rfl, hp⟩ := hrel
        by_cases hlt : k < s.size
        · have HD := Lib.hid (drop_byte s k hlt)
          have h256 := toNat_lt_256 s[k]
          by_cases h58 : s[k] = 58
          · have g58 : ((s[k].toNat : Int) == 58) = true := eq_u8 _ _ h58
            have HE := Lib.hid (scanL_colon (l := s.data.toList.drop (k + 1)) h58)
            clear h58
            go_wp2
            go_ret
            exact ⟨ret_bool (by rw [safePatB, HN.out, hp.out, HD.out, HE.out]; rfl), HB.out⟩
          have g58 : ((s[k].toNat : Int) == 58) = false := ne_u8 _ _ h58
          have H58 := Lib.hid h58
          clear h58
          by_cases h47 : s[k] = 47
          · have g47 : ((s[k].toNat : Int) == 47) = true := eq_u8 _ _ h47
            have HE := Lib.hid (scanL_end (l := s.data.toList.drop (k + 1)) H58.out (by simp [h47]))
            clear h47
            go_wp2
            go_ret
            exact ⟨ret_bool (by rw [safePatB, HN.out, hp.out, HD.out, HE.out]; rfl), HB.out⟩
          have g47 : ((s[k].toNat : Int) == 47) = false := ne_u8 _ _ h47
          have H47 := Lib.hid h47
          clear h47
          by_cases h63 : s[k] = 63
          · have g63 : ((s[k].toNat : Int) == 63) = true := eq_u8 _ _ h63
            have HE := Lib.hid (scanL_end (l := s.data.toList.drop (k + 1)) H58.out (by simp [h63]))
            clear h63
            go_wp2
            go_ret
            exact ⟨ret_bool (by rw [safePatB, HN.out, hp.out, HD.out, HE.out]; rfl), HB.out⟩
          have g63 : ((s[k].toNat : Int) == 63) = false := ne_u8 _ _ h63
          have H63 := Lib.hid h63
          clear h63
          by_cases h35 : s[k] = 35
          · have g35 : ((s[k].toNat : Int) == 35) = true := eq_u8 _ _ h35
            have HE := Lib.hid (scanL_end (l := s.data.toList.drop (k + 1)) H58.out (by simp [h35]))
            clear h35
            go_wp2
            go_ret
            exact ⟨ret_bool (by rw [safePatB, HN.out, hp.out, HD.out, HE.out]; rfl), HB.out⟩
          have g35 : ((s[k].toNat : Int) == 35) = false := ne_u8 _ _ h35
          have H35 := Lib.hid h35
          clear h35
          have HE := Lib.hid (scanL_on (l := s.data.toList.drop (k + 1)) H58.out H47.out H63.out H35.out)
          go_wp2
          go_round
          case rel => exact ⟨k + 1, by omega, by go_num, by rw [Hid, hp.out, HD.out, HE.out]⟩
          case measure => simp [intOf]; omega
        · go_wp2
          go_ret
          exact ⟨ret_bool (by rw [safePatB, HN.out, hp.out, List.drop_eq_nil_of_le (by simp; omega)]; rfl), HB.out⟩

def mimes : List (List UInt8) := [[97, 117, 100, 105, 111, 47, 51, 103, 112, 112, 50], [97, 117, 100, 105, 111, 47, 51, 103, 112, 112], [97, 117, 100, 105, 111, 47, 97, 97, 99], [97, 117, 100, 105, 111, 47, 109, 105, 100, 105], [97, 117, 100, 105, 111, 47, 109, 112, 51], [97, 117, 100, 105, 111, 47, 109, 112, 52], [97, 117, 100, 105, 111, 47, 109, 112, 101, 103], [97, 117, 100, 105, 111, 47, 111, 103, 97], [97, 117, 100, 105, 111, 47, 111, 103, 103], [97, 117, 100, 105, 111, 47, 111, 112, 117, 115], [97, 117, 100, 105, 111, 47, 120, 45, 109, 52, 97], [97, 117, 100, 105, 111, 47, 120, 45, 109, 97, 116, 114, 111, 115, 107, 97], [97, 117, 100, 105, 111, 47, 120, 45, 119, 97, 118], [97, 117, 100, 105, 111, 47, 119, 97, 118], [97, 117, 100, 105, 111, 47, 119, 101, 98, 109], [105, 109, 97, 103, 101, 47, 98, 109, 112], [105, 109, 97, 103, 101, 47, 103, 105, 102], [105, 109, 97, 103, 101, 47, 106, 112, 101, 103], [105, 109, 97, 103, 101, 47, 106, 112, 103], [105, 109, 97, 103, 101, 47, 112, 110, 103], [105, 109, 97, 103, 101, 47, 116, 105, 102, 102], [105, 109, 97, 103, 101, 47, 119, 101, 98, 112], [105, 109, 97, 103, 101, 47, 120, 45, 105, 99, 111, 110], [118, 105, 100, 101, 111, 47, 109, 112, 101, 103], [118, 105, 100, 101, 111, 47, 109, 112, 52], [118, 105, 100, 101, 111, 47, 111, 103, 103], [118, 105, 100, 101, 111, 47, 119, 101, 98, 109], [118, 105, 100, 101, 111, 47, 120, 45, 109, 97, 116, 114, 111, 115, 107, 97]]
def mimeB (s : ByteArray) : Bool := mimes.any fun m => s.toList == m
set_option maxHeartbeats 4000000 in
set_option maxRecDepth 100000 in
theorem mime_calls (s : ByteArray) (w : World) :
    Calls Try.prog 126 #[.string s] w fun e w' => e = .returned (.bool (mimeB s)) ∧ w = w' := by
  go_enter Try.func126, Try.ntmps126
  go_wp2
  all_goals
    go_ret
    refine ⟨ret_bool ?_, rfl⟩
    simp_all [mimeB, mimes]
end Go.Proofs.Ytmgkolcpomaceaa
