/- isSafeURL; spec.Safe. -/
import Derived.Test.YtlpkdagdfopchaaGreatDoorG1
namespace Go.Proofs.YtlpkdagdfopchaaGreatDoor
open Go.RowKit
set_option linter.unusedVariables false
set_option linter.unusedSimpArgs false

set_option linter.unusedVariables false
set_option linter.unusedSimpArgs false

set_option maxHeartbeats 4000000 in
set_option maxRecDepth 100000 in
theorem data1_calls (c : UInt8) (w : World) : Calls Tryz.prog 39 #[.int .u8 (c.toNat : Int)] w fun e w' => e = .returned (.bool (b64C c)) ∧ Below w.heap.size w w' := by
  have h256 := c.toNat_lt
  have HW := Lib.hid (Below.refl w.heap.size w)
  by_cases e0 : 97 ≤ c.toNat ∧ c.toNat ≤ 122
  · have HF := Lib.hid (show b64C c = true by simp [b64C, e0.1, e0.2])
    obtain ⟨e0a, e0b⟩ := e0
    go_enter Tryz.func39, Tryz.ntmps39
    go_wp2
    go_ret
    exact ⟨ret_bool HF.out.symm, HW.out⟩
  have P0 := Lib.hid (show (decide (97 ≤ c.toNat) && decide (c.toNat ≤ 122)) = false by rw [Bool.and_eq_false_iff, decide_eq_false_iff_not, decide_eq_false_iff_not]; omega)
  rcases (show c.toNat < 97 ∨ 122 < c.toNat from by omega) with e0' | e0'

  case' inl =>
    have g0 : decide (97 ≤ (c.toNat : Int)) = false := by simp; omega
  case' inr =>
    have g0 : decide (97 ≤ (c.toNat : Int)) = true := by simp; omega
    have k0 : decide ((c.toNat : Int) ≤ 122) = false := by simp; omega
  all_goals
    clear e0
    cases e1 : digitC c
    case' true =>
      have HF := Lib.hid (show b64C c = true by simp [b64C, e1])
      have P1 := Lib.hid e1
      clear e1
      go_enter Tryz.func39, Tryz.ntmps39
      go_wp2_with fail
      refine (zzDigit_calls c _).mono ?_
      rintro e w' ⟨rfl, rfl⟩
      have p1 := P1.out
      go_wp2
      go_ret
      exact ⟨ret_bool HF.out.symm, HW.out⟩
    have P1 := Lib.hid e1
    clear e1
    by_cases e2 : c = 43
    · have g2 : ((c.toNat : Int) == 43) = true := eq_u8 _ _ e2
      have HF := Lib.hid (show b64C c = true by simp [b64C, e2])
      clear e2
      go_enter Tryz.func39, Tryz.ntmps39
      go_wp2_with fail
      refine (zzDigit_calls c _).mono ?_
      rintro e w' ⟨rfl, rfl⟩
      have p1 := P1.out
      go_wp2
      go_ret
      exact ⟨ret_bool HF.out.symm, HW.out⟩
    have g2 : ((c.toNat : Int) == 43) = false := ne_u8 _ _ e2
    have P2 := Lib.hid e2
    clear e2
    by_cases e3 : c = 47
    · have g3 : ((c.toNat : Int) == 47) = true := eq_u8 _ _ e3
      have HF := Lib.hid (show b64C c = true by simp [b64C, e3])
      clear e3
      go_enter Tryz.func39, Tryz.ntmps39
      go_wp2_with fail
      refine (zzDigit_calls c _).mono ?_
      rintro e w' ⟨rfl, rfl⟩
      have p1 := P1.out
      go_wp2
      go_ret
      exact ⟨ret_bool HF.out.symm, HW.out⟩
    have g3 : ((c.toNat : Int) == 47) = false := ne_u8 _ _ e3
    have P3 := Lib.hid e3
    clear e3
    have HF := Lib.hid (show b64C c = false by simp [b64C, P0.out, P1.out, P2.out, P3.out])
    go_enter Tryz.func39, Tryz.ntmps39
    go_wp2_with fail
    refine (zzDigit_calls c _).mono ?_
    rintro e w' ⟨rfl, rfl⟩
    have p1 := P1.out
    go_wp2
    go_ret
    exact ⟨ret_bool HF.out.symm, HW.out⟩

def schemes : List ByteArray := [⟨#[104, 116, 116, 112, 58]⟩, ⟨#[104, 116, 116, 112, 115, 58]⟩, ⟨#[109, 97, 105, 108, 116, 111, 58]⟩, ⟨#[102, 116, 112, 58]⟩]
/-- Whether the first of : / ? # is no : (or there is none). -/
def scanL : List UInt8 → Bool
  | [] => true
  | c :: l => if c = 58 then false else if c = 47 ∨ c = 63 ∨ c = 35 then true else scanL l
theorem scanL_colon {c : UInt8} {l : List UInt8} (h : c = 58) : scanL (c :: l) = false := by rw [scanL, if_pos h]
theorem scanL_end {c : UInt8} {l : List UInt8} (h1 : ¬ c = 58) (h2 : c = 47 ∨ c = 63 ∨ c = 35) : scanL (c :: l) = true := by rw [scanL, if_neg h1, if_pos h2]
theorem scanL_on {c : UInt8} {l : List UInt8} (h1 : ¬ c = 58) (h2 : ¬ c = 47) (h3 : ¬ c = 63) (h4 : ¬ c = 35) : scanL (c :: l) = scanL l := by
  rw [scanL, if_neg h1, if_neg (by simp [h2, h3, h4])]
def safePatB (s : ByteArray) : Bool := schemes.any (startsB s) || scanL s.data.toList

set_option maxHeartbeats 1000000 in
set_option maxRecDepth 100000 in
theorem safePat_calls (s : ByteArray) (w : World) (hs : s.size ≤ 2147483647) :
    Calls Tryz.prog 33 #[.string s] w fun e w' => e = .returned (.bool (safePatB s)) ∧ Below w.heap.size w w' := by
  have HA := Lib.hid (strsAt_new w w.heap.size schemes 9 rfl)
  have HB := Lib.hid ((Below.refl w.heap.size w).alloc (Nat.le_refl _) (.cells (schemes.map Value.string).toArray 9))
  go_enter Tryz.func33, Tryz.ntmps33
  go_wp2
  change Code.wp Tryz.prog _ _ _ (w.alloc (Obj.cells (List.map Value.string schemes).toArray 9))
  generalize w.alloc (Obj.cells (List.map Value.string schemes).toArray 9) = wq at HA HB ⊢
  go_loop [8] (fun j => ∃ n : Nat, n ≤ 4 ∧ j = .int .i64 n ∧ Hid ((schemes.take n).any (startsB s) = false)) (fun j => 4 - (intOf j).toNat)
  case atStart => exact ⟨0, by omega, rfl, rfl⟩
  case round =>
    obtain ⟨n, hn, rfl, ha⟩ := hrel
    by_cases hnt : n < 4
    · have hn5 : n < schemes.length := hnt
      have HT := Lib.hid (any_take_succ (p := startsB s) schemes n hn5)
      have HX := Lib.hid (fun h => any_true_of (p := startsB s) schemes n hn5 h)
      obtain ⟨ad, e1, hblk, hc⟩ := HA.out n hn5
      rw [Option.some.injEq] at e1
      rw [← e1] at hc
      have hc' : wq.cell? ⟨w.heap.size, n, none⟩ = some (.string schemes[n]) := by
        rw [← hc]; congr 1; unfold Addr.add; split <;> simp_all
      clear hc e1 hblk
      generalize schemes[n] = e at HT HX hc'
      cases hb : startsB s e
      · have HP := Lib.hid hb
        clear hb
        go_wp2_with fail
        refine (zzStarts_calls _ e _).mono ?_
        rintro x w' ⟨rfl, rfl⟩
        have hp := HP.out
        go_wp2
        go_round
        case rel => exact ⟨n + 1, by omega, by go_num, by rw [Hid, HT.out, ha.out, HP.out]; rfl⟩
        case measure => simp [intOf]; omega
      · have HP := Lib.hid hb
        clear hb
        go_wp2_with fail
        refine (zzStarts_calls _ e _).mono ?_
        rintro x w' ⟨rfl, rfl⟩
        have hp := HP.out
        go_wp2
        go_ret
        exact ⟨ret_bool (by rw [safePatB, HX.out HP.out]; rfl), HB.out⟩
    · have HN := Lib.hid (any_of_take schemes n (by show 4 ≤ n; omega) ha.out)
      go_wp2
      go_loop [5] (fun i => ∃ k : Nat, k ≤ s.size ∧ i = .int .i64 k ∧ Hid (scanL s.data.toList = scanL (s.data.toList.drop k))) (fun i => s.size - (intOf i).toNat)
      case atStart => exact ⟨0, Nat.zero_le _, rfl, by simp [Hid]⟩
      case round =>
        obtain ⟨k, hk, rfl, hp⟩ := hrel
        by_cases hlt : k < s.size
        · have HD := Lib.hid (drop_byte s k hlt)
          have h256 := toNat_lt_256 s[k]
          by_cases h58 : s[k] = 58
          · have g58 : ((s[k].toNat : Int) == 58) = true := eq_u8 _ _ h58
            have HE := Lib.hid (scanL_colon (l := s.data.toList.drop (k + 1)) h58)
            clear h58
            go_wp2
            go_ret
            exact ⟨ret_bool (by rw [safePatB, HN.out, hp.out, HD.out, HE.out]; rfl), HB.out⟩
          have g58 : ((s[k].toNat : Int) == 58) = false := ne_u8 _ _ h58
          have H58 := Lib.hid h58
          clear h58
          by_cases h47 : s[k] = 47
          · have g47 : ((s[k].toNat : Int) == 47) = true := eq_u8 _ _ h47
            have HE := Lib.hid (scanL_end (l := s.data.toList.drop (k + 1)) H58.out (by simp [h47]))
            clear h47
            go_wp2
            go_ret
            exact ⟨ret_bool (by rw [safePatB, HN.out, hp.out, HD.out, HE.out]; rfl), HB.out⟩
          have g47 : ((s[k].toNat : Int) == 47) = false := ne_u8 _ _ h47
          have H47 := Lib.hid h47
          clear h47
          by_cases h63 : s[k] = 63
          · have g63 : ((s[k].toNat : Int) == 63) = true := eq_u8 _ _ h63
            have HE := Lib.hid (scanL_end (l := s.data.toList.drop (k + 1)) H58.out (by simp [h63]))
            clear h63
            go_wp2
            go_ret
            exact ⟨ret_bool (by rw [safePatB, HN.out, hp.out, HD.out, HE.out]; rfl), HB.out⟩
          have g63 : ((s[k].toNat : Int) == 63) = false := ne_u8 _ _ h63
          have H63 := Lib.hid h63
          clear h63
          by_cases h35 : s[k] = 35
          · have g35 : ((s[k].toNat : Int) == 35) = true := eq_u8 _ _ h35
            have HE := Lib.hid (scanL_end (l := s.data.toList.drop (k + 1)) H58.out (by simp [h35]))
            clear h35
            go_wp2
            go_ret
            exact ⟨ret_bool (by rw [safePatB, HN.out, hp.out, HD.out, HE.out]; rfl), HB.out⟩
          have g35 : ((s[k].toNat : Int) == 35) = false := ne_u8 _ _ h35
          have H35 := Lib.hid h35
          clear h35
          have HE := Lib.hid (scanL_on (l := s.data.toList.drop (k + 1)) H58.out H47.out H63.out H35.out)
          go_wp2
          go_round
          case rel => exact ⟨k + 1, by omega, by go_num, by rw [Hid, hp.out, HD.out, HE.out]⟩
          case measure => simp [intOf]; omega
        · go_wp2
          go_ret
          exact ⟨ret_bool (by rw [safePatB, HN.out, hp.out, List.drop_eq_nil_of_le (by simp; omega)]; rfl), HB.out⟩

def mimes : List (List UInt8) := [[97, 117, 100, 105, 111, 47, 51, 103, 112, 112, 50], [97, 117, 100, 105, 111, 47, 51, 103, 112, 112], [97, 117, 100, 105, 111, 47, 97, 97, 99], [97, 117, 100, 105, 111, 47, 109, 105, 100, 105], [97, 117, 100, 105, 111, 47, 109, 112, 51], [97, 117, 100, 105, 111, 47, 109, 112, 52], [97, 117, 100, 105, 111, 47, 109, 112, 101, 103], [97, 117, 100, 105, 111, 47, 111, 103, 97], [97, 117, 100, 105, 111, 47, 111, 103, 103], [97, 117, 100, 105, 111, 47, 111, 112, 117, 115], [97, 117, 100, 105, 111, 47, 120, 45, 109, 52, 97], [97, 117, 100, 105, 111, 47, 120, 45, 109, 97, 116, 114, 111, 115, 107, 97], [97, 117, 100, 105, 111, 47, 120, 45, 119, 97, 118], [97, 117, 100, 105, 111, 47, 119, 97, 118], [97, 117, 100, 105, 111, 47, 119, 101, 98, 109], [105, 109, 97, 103, 101, 47, 98, 109, 112], [105, 109, 97, 103, 101, 47, 103, 105, 102], [105, 109, 97, 103, 101, 47, 106, 112, 101, 103], [105, 109, 97, 103, 101, 47, 106, 112, 103], [105, 109, 97, 103, 101, 47, 112, 110, 103], [105, 109, 97, 103, 101, 47, 116, 105, 102, 102], [105, 109, 97, 103, 101, 47, 119, 101, 98, 112], [105, 109, 97, 103, 101, 47, 120, 45, 105, 99, 111, 110], [118, 105, 100, 101, 111, 47, 109, 112, 101, 103], [118, 105, 100, 101, 111, 47, 109, 112, 52], [118, 105, 100, 101, 111, 47, 111, 103, 103], [118, 105, 100, 101, 111, 47, 119, 101, 98, 109], [118, 105, 100, 101, 111, 47, 120, 45, 109, 97, 116, 114, 111, 115, 107, 97]]
def mimeB (s : ByteArray) : Bool := mimes.any fun m => s.toList == m
set_option maxHeartbeats 4000000 in
set_option maxRecDepth 100000 in
theorem mime_calls (s : ByteArray) (w : World) :
    Calls Tryz.prog 35 #[.string s] w fun e w' => e = .returned (.bool (mimeB s)) ∧ w = w' := by
  go_enter Tryz.func35, Tryz.ntmps35
  go_wp2
  all_goals
    go_ret
    refine ⟨ret_bool ?_, rfl⟩
    simp_all [mimeB, mimes]

set_option linter.unusedVariables false
set_option linter.unusedSimpArgs false

def notEnd (c : UInt8) : Bool := c != 59 && c != 44
def trimEq (l : List UInt8) : List UInt8 := (l.reverse.dropWhile (· == 61)).reverse
def dataM (l : List UInt8) : List UInt8 := (l.drop 5).takeWhile notEnd
def dataR (l : List UInt8) : List UInt8 := (l.drop 5).dropWhile notEnd
def b64R (l : List UInt8) : List UInt8 := trimEq ((dataR l).drop 8)
def sData : ByteArray := ⟨#[100, 97, 116, 97, 58]⟩
def sBase : ByteArray := ⟨#[59, 98, 97, 115, 101, 54, 52, 44]⟩
def b64OK (l : List UInt8) : Bool := !l.isEmpty && l.all b64C
def dataOK (s : ByteArray) : Bool := startsB s sData && (startsL (dataR s.data.toList) sBase.data.toList && b64OK (b64R s.data.toList))

theorem while_eq {α : Type} {p : α → Bool} : ∀ (l : List α) (k : Nat), (l.take k).all p = true → (∀ x, l[k]? = some x → p x = false) → l.takeWhile p = l.take k ∧ l.dropWhile p = l.drop k
  | [], k, _, _ => by simp
  | a :: l, 0, _, h => by have := h a (by simp); simp [List.takeWhile_cons, List.dropWhile_cons, this]
  | a :: l, k + 1, h1, h2 => by
    rw [List.take_succ_cons, List.all_cons, Bool.and_eq_true] at h1
    obtain ⟨e1, e2⟩ := while_eq l k h1.2 (fun x hx => h2 x (by simpa using hx))
    simp [List.takeWhile_cons, List.dropWhile_cons, h1.1, e1, e2]
theorem trimEq_snoc (l : List UInt8) : trimEq (l ++ [61]) = trimEq l := by simp [trimEq]
theorem trimEq_more (l : List UInt8) (m : Nat) : trimEq (l ++ List.replicate m 61) = trimEq l := by
  induction m with
  | zero => simp
  | succ m ih => rw [List.replicate_succ', ← List.append_assoc, trimEq_snoc, ih]
theorem trimEq_nil : trimEq [] = [] := rfl
theorem trimEq_last (l : List UInt8) (c : UInt8) (h : ¬ c = 61) : trimEq (l ++ [c]) = l ++ [c] := by simp [trimEq, List.dropWhile_cons, h]
theorem extract_from (s : ByteArray) (n : Nat) : (s.extract n s.size).data.toList = s.data.toList.drop n := by
  rw [Lib.extract_data, List.take_of_length_le (by simp)]
theorem data_len (s : ByteArray) : s.data.toList.length = s.size := by simp
theorem last_split (r : ByteArray) (h : 0 < r.size) : r.data.toList = (r.extract 0 (r.size - 1)).data.toList ++ [r[r.size - 1]] := by
  rw [Lib.extract_data, List.drop_zero, Nat.sub_zero]
  have := take_succ_byte r (r.size - 1) (by omega)
  rw [Nat.sub_add_cancel h, List.take_of_length_le (by simp)] at this
  exact this

def DataPost (s : ByteArray) (w : World) (e : Ending) (w' : World) : Prop := ∃ (m : ByteArray) (b : Bool), e = .returned (.tuple #[.string m, .bool b]) ∧ b = dataOK s ∧ (b = true → m.data.toList = dataM s.data.toList) ∧ Below w.heap.size w w'

set_option maxHeartbeats 4000000 in
set_option maxRecDepth 100000 in
theorem dataURL_calls (s : ByteArray) (w : World) (hs : s.size ≤ 2147483647) :
    Calls Tryz.prog 34 #[.string s] w (DataPost s w) := by
  cases h1 : startsB s sData
  · have H1 := Lib.hid h1
    clear h1
    go_enter Tryz.func34, Tryz.ntmps34
    go_wp2_with fail
    refine (zzStarts_calls s sData _).mono ?_
    rintro x w' ⟨rfl, rfl⟩
    have h1 := H1.out
    go_wp2
    go_ret2
    exact ⟨_, false, rfl, by rw [dataOK, H1.out]; rfl, by simp, Below.refl _ _⟩
  · have h5 : 5 ≤ s.size := by
      have := (List.isPrefixOf_iff_prefix.1 (show sData.data.toList.isPrefixOf s.data.toList = true from h1)).length_le
      simpa [sData] using this
    have H1 := Lib.hid h1
    clear h1
    go_enter Tryz.func34, Tryz.ntmps34
    go_wp2_with fail
    refine (zzStarts_calls s sData _).mono ?_
    rintro x w' ⟨rfl, rfl⟩
    have h1 := H1.out
    go_wp2
    clear h1
    go_loop [4] (fun i => ∃ n : Nat, 5 ≤ n ∧ n ≤ s.size ∧ i = .int .i64 n ∧ Hid (((s.data.toList.drop 5).take (n - 5)).all notEnd = true)) (fun i => s.size - (intOf i).toNat)
    case atStart => exact ⟨5, by omega, h5, rfl, rfl⟩
    case round =>
      obtain ⟨n, hn5, hn, rfl, ha⟩ := hrel
      by_cases hgo : ∃ h : n < s.size, notEnd s[n] = true
      · obtain ⟨hlt, hne⟩ := hgo
        have HNE := Lib.hid hne
        have h59 : ((s[n].toNat : Int) != 59) = true := by
          have : ¬ s[n] = 59 := by rintro e; rw [e] at hne; exact absurd hne (by decide)
          rw [bne_iff_ne]; intro e; exact this (UInt8.toNat_inj.1 (by show s[n].toNat = 59; omega))
        have h44 : ((s[n].toNat : Int) != 44) = true := by
          have : ¬ s[n] = 44 := by rintro e; rw [e] at hne; exact absurd hne (by decide)
          rw [bne_iff_ne]; intro e; exact this (UInt8.toNat_inj.1 (by show s[n].toNat = 44; omega))
        clear hne
        go_wp2
        go_round
        case rel =>
          refine ⟨n + 1, by omega, by omega, by go_num, ?_⟩
          have hl : n - 5 < (s.data.toList.drop 5).length := by simp; omega
          have e : (s.data.toList.drop 5)[n - 5] = s[n] := by
            rw [List.getElem_drop]; congr 1; omega
          rw [Hid, show n + 1 - 5 = (n - 5) + 1 from by omega, lall_take_succ _ _ hl, ha.out, e, HNE.out]; rfl
        case measure => simp [intOf]; omega
      · have HW := Lib.hid (while_eq (s.data.toList.drop 5) (n - 5) ha.out (fun x hx => by
          rw [List.getElem?_drop, show 5 + (n - 5) = n from by omega] at hx
          obtain ⟨h, e⟩ := List.getElem?_eq_some_iff.1 hx
          have hlt : n < s.size := by simpa using h
          cases hc : notEnd x
          · rfl
          · exact absurd ⟨hlt, by rw [show s[n] = x from e]; exact hc⟩ hgo))
        have HM := Lib.hid (show (s.extract 5 n).data.toList = dataM s.data.toList by rw [Lib.extract_data, dataM, HW.out.1])
        have HR := Lib.hid (show (s.extract n s.size).data.toList = dataR s.data.toList by rw [extract_from, dataR, HW.out.2, List.drop_drop, show 5 + (n - 5) = n from by omega])
        have hrz : (s.extract n s.size).size ≤ 2147483647 := by rw [ByteArray.size_extract]; omega
        have hend : ¬ n < s.size ∨ ∃ h : n < s.size, s[n] = 59 ∨ s[n] = 44 := by
          by_cases hlt : n < s.size
          · right
            refine ⟨hlt, ?_⟩
            by_cases e1 : s[n] = 59
            · exact .inl e1
            · by_cases e2 : s[n] = 44
              · exact .inr e2
              · exact absurd ⟨hlt, by simp [notEnd, e1, e2]⟩ hgo
          · exact .inl hlt
        clear hgo
        have HBD := Lib.hid (fun q => below_drewN (Below.refl w.heap.size w) q)
        cases hb : startsB (s.extract n s.size) sBase
        · have HOK := Lib.hid (show dataOK s = false by
            rw [dataOK, H1.out, ← HR.out, show startsL (s.extract n s.size).data.toList sBase.data.toList = false from hb]; rfl)
          have HP := Lib.hid hb
          clear hb
          rcases hend with hlt | ⟨hlt, h59 | h44⟩
          case' inr.inl => have g59 : ((s[n].toNat : Int) != 59) = false := by rw [h59]; rfl
          case' inr.inl => clear h59
          case' inr.inr => have g59 : ((s[n].toNat : Int) != 59) = true := by rw [h44]; rfl
          case' inr.inr => have g44 : ((s[n].toNat : Int) != 44) = false := by rw [h44]; rfl
          case' inr.inr => clear h44
          all_goals
            go_wp2_with fail
            go_quiet (fail)
            go_wp2_with fail
            refine (zzStarts_calls _ sBase _).mono ?_
            rintro x w' ⟨rfl, rfl⟩
            have hp := HP.out
            go_wp2
            go_ret2
            exact ⟨_, false, rfl, HOK.out.symm, by simp, HBD.out _⟩
        · have h8 : 8 ≤ (s.extract n s.size).size := by
            have := (List.isPrefixOf_iff_prefix.1 (show sBase.data.toList.isPrefixOf (s.extract n s.size).data.toList = true from hb)).length_le
            rw [data_len] at this
            exact this
          have HOK := Lib.hid (show dataOK s = b64OK (b64R s.data.toList) by
            rw [dataOK, H1.out, ← HR.out, show startsL (s.extract n s.size).data.toList sBase.data.toList = true from hb]; rfl)
          have HP := Lib.hid hb
          clear hb
          rcases hend with hlt | ⟨hlt, h59 | h44⟩
          case' inr.inl => have g59 : ((s[n].toNat : Int) != 59) = false := by rw [h59]; rfl
          case' inr.inl => clear h59
          case' inr.inr => have g59 : ((s[n].toNat : Int) != 59) = true := by rw [h44]; rfl
          case' inr.inr => have g44 : ((s[n].toNat : Int) != 44) = false := by rw [h44]; rfl
          case' inr.inr => clear h44
          all_goals
            go_wp2_with fail
            go_quiet (fail)
            go_wp2_with fail
            refine (zzStarts_calls _ sBase _).mono ?_
            rintro x w' ⟨rfl, rfl⟩
            have hp := HP.out
            generalize s.extract n s.size = r0 at hp h8 hrz HR HP ⊢
            generalize s.extract 5 n = md at HM ⊢
            go_wp2
            clear hp
            have HR8 := Lib.hid (show (r0.extract 8 r0.size).data.toList = (dataR s.data.toList).drop 8 by rw [extract_from, HR.out])
            have hrz8 : (r0.extract 8 r0.size).size ≤ 2147483647 := by rw [ByteArray.size_extract]; omega
            generalize r0.extract 8 r0.size = r8 at HR8 hrz8 ⊢
            go_loopg [6] r8.size (fun g v wr => Hid (Below w.heap.size w wr) ∧ ∃ (r : ByteArray) (m : Nat), g = r.size ∧ v = .string r ∧ r.size ≤ 2147483647 ∧ Hid (r.data.toList ++ List.replicate m 61 = (dataR s.data.toList).drop 8))
            case atStart => exact ⟨HBD.out _, r8, 0, rfl, rfl, hrz8, by rw [Hid, ← HR8.out]; simp⟩
            case round =>
              obtain ⟨hB, r, m, rfl, rfl, hr, hR⟩ := hrel
              by_cases hpos : 0 < r.size
              · have g0 : decide (0 < (r.size : Int)) = true := by simp; omega
                have HL := Lib.hid (last_split r hpos)
                by_cases h61 : r[r.size - 1] = 61
                · have g61 : ((r[r.size - 1].toNat : Int) == 61) = true := eq_u8 _ _ h61
                  have HE := Lib.hid h61
                  clear h61
                  go_wp2
                  go_roundg (r.size - 1)
                  case measure => omega
                  case rel => exact ⟨hB, r.extract 0 (r.size - 1), m + 1, by rw [ByteArray.size_extract]; omega, rfl, by rw [ByteArray.size_extract]; omega, by
                    rw [Hid, ← hR.out, HL.out, HE.out, List.replicate_succ]; simp⟩
                · have g61 : ((r[r.size - 1].toNat : Int) == 61) = false := ne_u8 _ _ h61
                  have HT := Lib.hid (show b64R s.data.toList = r.data.toList by
                    rw [b64R, ← hR.out, trimEq_more, HL.out, trimEq_last _ _ h61])
                  clear h61
                  go_wp2_with fail
                  refine (zzAll_calls 39 b64C (fun args w => by simp [go_sem]) (fun c w => data1_calls c w) r _ hr).mono ?_
                  rintro x w' ⟨rfl, hb⟩
                  go_wp2
                  go_ret2
                  exact ⟨_, _, rfl, by rw [HOK.out, b64OK, HT.out, show r.data.toList.isEmpty = false by rw [HL.out]; simp]; simp, fun _ => HM.out, below_then hB.out hB.out.size hb⟩
              · have g0 : decide (0 < (r.size : Int)) = false := decide_eq_false (by omega)
                have HT := Lib.hid (show b64R s.data.toList = [] by
                  have e : r.data.toList = [] := List.eq_nil_of_length_eq_zero (by rw [data_len]; omega)
                  rw [b64R, ← hR.out, trimEq_more, e]; rfl)
                go_wp2
                go_ret2
                exact ⟨_, false, rfl, by rw [HOK.out, HT.out]; rfl, by simp, hB.out⟩

set_option linter.unusedVariables false
set_option linter.unusedSimpArgs false

def mimeL (l : List UInt8) : Bool := mimes.any fun m => l == m
theorem mimeB_eq (s : ByteArray) : mimeB s = mimeL s.data.toList := by rw [mimeB, ByteArray.toList_eq]; rfl
def safeB (s : ByteArray) : Bool := safePatB (lowS s) || (dataOK (lowS s) && mimeL (dataM (lowS s).data.toList))
def innoc : ByteArray := ⟨#[97, 98, 111, 117, 116, 58, 105, 110, 118, 97, 108, 105, 100, 35, 122, 71, 111, 83, 97, 102, 101, 122]⟩
set_option maxHeartbeats 1000000 in
set_option maxRecDepth 100000 in
theorem isSafe_calls (s : ByteArray) (w : World) (hs : s.size ≤ 2147483647) :
    Calls Tryz.prog 29 #[.string s] w fun e w' => e = .returned (.bool (safeB s)) ∧ Below w.heap.size w w' := by
  have hls : (lowS s).size ≤ 2147483647 := by rw [lowS_size]; exact hs
  cases h1 : safePatB (lowS s)
  · have HS := Lib.hid (show safeB s = (dataOK (lowS s) && mimeL (dataM (lowS s).data.toList)) by rw [safeB, h1]; rfl)
    have H1 := Lib.hid h1
    clear h1
    cases h2 : dataOK (lowS s)
    · have H2 := Lib.hid h2
      clear h2
      go_enter Tryz.func29, Tryz.ntmps29
      go_wp2_with fail
      refine (zzLower_calls s _ hs).mono ?_
      rintro e w1 ⟨rfl, hb1⟩
      go_wp2_with fail
      refine (safePat_calls _ _ hls).mono ?_
      rintro e w2 ⟨rfl, hb2⟩
      have h1 := H1.out
      go_wp2_with fail
      refine (dataURL_calls _ _ hls).mono ?_
      rintro e w3 ⟨m, b, rfl, hb, hm, hb3⟩
      have HB := Lib.hid (below_then hb1 hb1.size (below_then hb2 hb2.size hb3))
      rw [H2.out] at hb
      subst hb
      clear hb1 hb2 hb3 hm
      go_wp2
      go_ret
      exact ⟨ret_bool (by rw [HS.out, H2.out]; rfl), HB.out⟩
    · have H2 := Lib.hid h2
      clear h2
      go_enter Tryz.func29, Tryz.ntmps29
      go_wp2_with fail
      refine (zzLower_calls s _ hs).mono ?_
      rintro e w1 ⟨rfl, hb1⟩
      go_wp2_with fail
      refine (safePat_calls _ _ hls).mono ?_
      rintro e w2 ⟨rfl, hb2⟩
      have h1 := H1.out
      go_wp2_with fail
      refine (dataURL_calls _ _ hls).mono ?_
      rintro e w3 ⟨m, b, rfl, hb, hm, hb3⟩
      have HB := Lib.hid (below_then hb1 hb1.size (below_then hb2 hb2.size hb3))
      rw [H2.out] at hb
      subst hb
      have HM := Lib.hid (hm rfl)
      clear hb1 hb2 hb3 hm
      go_wp2_with fail
      refine (mime_calls m _).mono ?_
      rintro e w4 ⟨rfl, rfl⟩
      go_wp2
      go_ret
      exact ⟨ret_bool (by rw [HS.out, H2.out, mimeB_eq, HM.out]; rfl), HB.out⟩
  · have HS := Lib.hid (show safeB s = true by rw [safeB, h1]; rfl)
    have H1 := Lib.hid h1
    clear h1
    go_enter Tryz.func29, Tryz.ntmps29
    go_wp2_with fail
    refine (zzLower_calls s _ hs).mono ?_
    rintro e w1 ⟨rfl, hb1⟩
    go_wp2_with fail
    refine (safePat_calls _ _ hls).mono ?_
    rintro e w2 ⟨rfl, hb2⟩
    have h1 := H1.out
    have HB := Lib.hid (below_then hb1 hb1.size hb2)
    clear hb1 hb2
    go_wp2
    go_ret
    exact ⟨ret_bool HS.out.symm, HB.out⟩

set_option maxHeartbeats 400000 in
set_option maxRecDepth 100000 in
theorem ascii_calls (s : ByteArray) (w : World) (hs : s.size ≤ 2147483647) :
    Calls Tryz.prog 5 #[.string s, .int .i64 200] w fun e w' => e = .returned (.bool (asciiB s && smallB s)) ∧ w = w' := by
  go_enter Tryz.func5, Tryz.ntmps5
  go_wp2
  go_loop [5] (fun i => ∃ k : Nat, k ≤ s.size ∧ i = .int .i64 k ∧ Hid ((s.data.toList.take k).all asciiC = true)) (fun i => s.size - (intOf i).toNat)
  case atStart => exact ⟨0, Nat.zero_le _, rfl, by simp [Hid]⟩
  case round =>
    obtain ⟨k, hk, rfl, ha⟩ := hrel
    by_cases hlt : k < s.size
    · have H := Lib.hid (all_take_succ (p := asciiC) s k hlt)
      by_cases h1 : 127 < s[k].toNat
      · have g1 : decide (128 ≤ (s[k].toNat : Int)) = true := decide_eq_true (by omega)
        go_wp2
        go_ret
        exact ⟨ret_bool (by rw [asciiB, all_false_of s k hlt (by simp [asciiC]; omega)]; rfl), rfl⟩
      · have g1 : decide (128 ≤ (s[k].toNat : Int)) = false := decide_eq_false (by omega)
        go_wp2
        go_round
        case rel => exact ⟨k + 1, by omega, by go_num, by rw [Hid, H.out, ha.out]; simp [asciiC]; omega⟩
        case measure => simp [intOf]; omega
    · have HA := Lib.hid (all_of_take s k (by omega) ha.out)
      cases h2 : smallB s
      · have g1 : decide ((s.size : Int) ≤ 200) = false := decide_eq_false (by simp [smallB] at h2; omega)
        have g2 : decide (s.size ≤ 200) = false := decide_eq_false (by simp [smallB] at h2; omega)
        have H2 := Lib.hid h2
        clear h2
        go_wp2
        go_ret
        exact ⟨ret_bool (by rw [asciiB, HA.out, H2.out]; rfl), rfl⟩
      · have g1 : decide ((s.size : Int) ≤ 200) = true := decide_eq_true (by simp [smallB] at h2; omega)
        have g2 : decide (s.size ≤ 200) = true := decide_eq_true (by simp [smallB] at h2; omega)
        have H2 := Lib.hid h2
        clear h2
        go_wp2
        go_ret
        exact ⟨ret_bool (by rw [asciiB, HA.out, H2.out]; rfl), rfl⟩

set_option linter.unusedVariables false
set_option linter.unusedSimpArgs false

def badKinds : List ByteArray := [⟨#[116, 101, 120, 116, 47, 104, 116, 109, 108]⟩, ⟨#[116, 101, 120, 116, 47, 112, 108, 97, 105, 110]⟩, ⟨#[97, 112, 112, 108, 105, 99, 97, 116, 105, 111, 110, 47, 106, 97, 118, 97, 115, 99, 114, 105, 112, 116]⟩, ⟨#[105, 109, 97, 103, 101, 47, 115, 118, 103, 43, 120, 109, 108]⟩]
def goodKinds : List ByteArray := [⟨#[105, 109, 97, 103, 101, 47, 112, 110, 103]⟩, ⟨#[105, 109, 97, 103, 101, 47, 103, 105, 102]⟩, ⟨#[105, 109, 97, 103, 101, 47, 106, 112, 101, 103]⟩, ⟨#[118, 105, 100, 101, 111, 47, 109, 112, 52]⟩, ⟨#[97, 117, 100, 105, 111, 47, 111, 103, 103]⟩]
def headOf (k : ByteArray) : ByteArray := ⟨#[100, 97, 116, 97, 58]⟩ ++ k ++ ⟨#[59, 98, 97, 115, 101, 54, 52, 44]⟩
def b64S (c : UInt8) : Bool := letterC c || digitC c || c == 43 || c == 47
def isEq (c : UInt8) : Bool := c == 61
/-- From place h on: at least one sign of base64, then = alone. -/
def b64Run (l : List UInt8) (h : Nat) : Bool := !((l.drop h).takeWhile b64S).isEmpty && (((l.drop h).dropWhile b64S).dropWhile isEq).isEmpty
def dataFind (s : ByteArray) : List ByteArray → Bool × Bool
  | [] => (false, false)
  | k :: ks => if startsB s (headOf k) then (b64Run s.data.toList (headOf k).size, true) else dataFind s ks
def dataRes (s : ByteArray) : Bool × Bool := if badKinds.any (startsB (s.extract 5 s.size)) then (false, true) else dataFind s goodKinds
theorem goodKinds_size : ∀ k ∈ goodKinds, k.size ≤ 10 := by decide
theorem headOf_size (k : ByteArray) : (headOf k).size = k.size + 13 := by
  simp only [headOf, ByteArray.size_append]
  have e1 : (ByteArray.mk #[100, 97, 116, 97, 58]).size = 5 := rfl
  have e2 : (ByteArray.mk #[59, 98, 97, 115, 101, 54, 52, 44]).size = 8 := rfl
  omega
theorem startsB_size {s p : ByteArray} (h : startsB s p = true) : p.size ≤ s.size := by
  have := (List.isPrefixOf_iff_prefix.1 (show p.data.toList.isPrefixOf s.data.toList = true from h)).length_le
  rwa [data_len, data_len] at this
theorem dataFind_no {s : ByteArray} {k : ByteArray} {ks : List ByteArray} (h : startsB s (headOf k) = false) : dataFind s (k :: ks) = dataFind s ks := by rw [dataFind, if_neg (by rw [h]; simp)]
theorem dataFind_yes {s : ByteArray} {k : ByteArray} {ks : List ByteArray} (h : startsB s (headOf k) = true) : dataFind s (k :: ks) = (b64Run s.data.toList (headOf k).size, true) := by rw [dataFind, if_pos h]
/-- What a loop over the bytes from h to n has found. -/
theorem run_at (s : ByteArray) (p : UInt8 → Bool) (h n : Nat) (hh : h ≤ n) (ha : ((s.data.toList.drop h).take (n - h)).all p = true) (hend : ¬ n < s.size ∨ ∃ hl : n < s.size, p s[n] = false) :
    (s.data.toList.drop h).takeWhile p = (s.data.toList.drop h).take (n - h) ∧ (s.data.toList.drop h).dropWhile p = s.data.toList.drop n := by
  have := while_eq (s.data.toList.drop h) (n - h) ha (fun x hx => by
    rw [List.getElem?_drop, show h + (n - h) = n from by omega] at hx
    obtain ⟨hl, e⟩ := List.getElem?_eq_some_iff.1 hx
    have hlt : n < s.size := by simpa using hl
    rcases hend with h1 | ⟨_, h2⟩
    · exact absurd hlt h1
    · rw [← e]; exact h2)
  rw [List.drop_drop, show h + (n - h) = n from by omega] at this
  exact this
theorem run_more (s : ByteArray) (p : UInt8 → Bool) (h n : Nat) (hh : h ≤ n) (hlt : n < s.size) (ha : ((s.data.toList.drop h).take (n - h)).all p = true) (hp : p s[n] = true) : ((s.data.toList.drop h).take (n + 1 - h)).all p = true := by
  have hl : n - h < (s.data.toList.drop h).length := by simp; omega
  have e : (s.data.toList.drop h)[n - h] = s[n] := by rw [List.getElem_drop]; congr 1; omega
  rw [show n + 1 - h = (n - h) + 1 from by omega, lall_take_succ _ _ hl, ha, e, hp]; rfl

def PairPost (p : Bool × Bool) (w : World) (e : Ending) (w' : World) : Prop := e = .returned (.tuple #[.bool p.1, .bool p.2]) ∧ Below w.heap.size w w'

set_option maxHeartbeats 8000000 in
set_option maxRecDepth 100000 in
theorem data_calls (s : ByteArray) (w : World) (hs : s.size ≤ 2147483647) (h5 : 5 ≤ s.size) :
    Calls Tryz.prog 21 #[.string s] w (PairPost (dataRes s) w) := by
  have HA := Lib.hid (strsAt_new w w.heap.size badKinds 9 rfl)
  have HB := Lib.hid ((Below.refl w.heap.size w).alloc (Nat.le_refl _) (.cells (badKinds.map Value.string).toArray 9))
  go_enter Tryz.func21, Tryz.ntmps21
  go_wp2
  change Code.wp Tryz.prog _ _ _ (w.alloc (Obj.cells (List.map Value.string badKinds).toArray 9))
  generalize w.alloc (Obj.cells (List.map Value.string badKinds).toArray 9) = wq at HA HB ⊢
  go_loop [13] (fun j => ∃ n : Nat, n ≤ 4 ∧ j = .int .i64 n ∧ Hid ((badKinds.take n).any (startsB (s.extract 5 s.size)) = false)) (fun j => 4 - (intOf j).toNat)
  case atStart => exact ⟨0, by omega, rfl, rfl⟩
  case round =>
    obtain ⟨n, hn, rfl, ha⟩ := hrel
    by_cases hnt : n < 4
    · have hn5 : n < badKinds.length := hnt
      have HT := Lib.hid (any_take_succ (p := startsB (s.extract 5 s.size)) badKinds n hn5)
      have HX := Lib.hid (fun h => any_true_of (p := startsB (s.extract 5 s.size)) badKinds n hn5 h)
      obtain ⟨ad, e1, hblk, hc⟩ := HA.out n hn5
      rw [Option.some.injEq] at e1
      rw [← e1] at hc
      have hc' : wq.cell? ⟨w.heap.size, n, none⟩ = some (.string badKinds[n]) := by
        rw [← hc]; congr 1; unfold Addr.add; split <;> simp_all
      clear hc e1 hblk
      generalize badKinds[n] = e at HT HX hc'
      cases hb : startsB (s.extract 5 s.size) e
      · have HP := Lib.hid hb
        clear hb
        go_wp2_with fail
        refine (specStarts_calls _ e _).mono ?_
        rintro x w' ⟨rfl, rfl⟩
        have hp := HP.out
        go_wp2
        go_round
        case rel => exact ⟨n + 1, by omega, by go_num, by rw [Hid, HT.out, ha.out, HP.out]; rfl⟩
        case measure => simp [intOf]; omega
      · have HP := Lib.hid hb
        clear hb
        go_wp2_with fail
        refine (specStarts_calls _ e _).mono ?_
        rintro x w' ⟨rfl, rfl⟩
        have hp := HP.out
        go_wp2
        go_ret2
        exact ⟨by rw [dataRes, if_pos (HX.out HP.out)]; rfl, HB.out⟩
    · have HN := Lib.hid (show dataRes s = dataFind s goodKinds by rw [dataRes, if_neg (by rw [any_of_take badKinds n (by show 4 ≤ n; omega) ha.out]; simp)])
      have hq := HB.out.size
      clear ha
      have HA2 := Lib.hid (strsAt_new wq wq.heap.size goodKinds 9 rfl)
      have HB2 := Lib.hid (HB.out.alloc hq (.cells (goodKinds.map Value.string).toArray 9))
      go_wp2
      change Code.wp Tryz.prog _ _ _ (wq.alloc (Obj.cells (List.map Value.string goodKinds).toArray 9))
      generalize wq.alloc (Obj.cells (List.map Value.string goodKinds).toArray 9) = wz at HA2 HB2 ⊢
      go_loop [24] (fun j => ∃ n : Nat, n ≤ 5 ∧ j = .int .i64 n ∧ Hid (dataFind s goodKinds = dataFind s (goodKinds.drop n))) (fun j => 5 - (intOf j).toNat)
      case atStart => exact ⟨0, by omega, rfl, rfl⟩
      case round =>
        obtain ⟨n, hn, rfl, ha⟩ := hrel
        by_cases hnt : n < 5
        · have hn5 : n < goodKinds.length := hnt
          have HT := Lib.hid (List.drop_eq_getElem_cons hn5)
          have hesz := goodKinds_size _ (List.getElem_mem hn5)
          obtain ⟨ad, e1, hblk, hc⟩ := HA2.out n hn5
          rw [Option.some.injEq] at e1
          rw [← e1] at hc
          have hc' : wz.cell? ⟨wq.heap.size, n, none⟩ = some (.string goodKinds[n]) := by
            rw [← hc]; congr 1; unfold Addr.add; split <;> simp_all
          clear hc e1 hblk
          generalize goodKinds[n] = e at HT hesz hc'
          cases hb : startsB s (headOf e)
          · have HP := Lib.hid hb
            clear hb
            go_wp2_with fail
            refine (specStarts_calls s (headOf e) _).mono ?_
            rintro x w' ⟨rfl, rfl⟩
            have hp := HP.out
            go_wp2
            go_round
            case rel => exact ⟨n + 1, by omega, by go_num, by rw [Hid, ha.out, HT.out, dataFind_no HP.out]⟩
            case measure => simp [intOf]; omega
          · have HR := Lib.hid (show dataRes s = (b64Run s.data.toList (headOf e).size, true) by rw [HN.out, ha.out, HT.out, dataFind_yes hb])
            have hsz := startsB_size hb
            have HP := Lib.hid hb
            clear hb
            go_wp2_with fail
            refine (specStarts_calls s (headOf e) _).mono ?_
            rintro x w' ⟨rfl, rfl⟩
            have hp := HP.out
            have ehd : ({ data := #[100, 97, 116, 97, 58] } ++ e ++ { data := #[59, 98, 97, 115, 101, 54, 52, 44] } : ByteArray) = headOf e := rfl
            rw [ehd]
            generalize headOf e = hd at HR hsz hp HP ⊢
            clear ehd hc'
            go_wp2
            clear hp
            go_loop [9] (fun i => ∃ m : Nat, hd.size ≤ m ∧ m ≤ s.size ∧ i = .int .i64 m ∧ Hid (((s.data.toList.drop hd.size).take (m - hd.size)).all b64S = true)) (fun i => s.size - (intOf i).toNat)
            case atStart => exact ⟨hd.size, Nat.le_refl _, hsz, rfl, by simp [Hid]⟩
            case round =>
              obtain ⟨m, hm1, hm2, rfl, hall⟩ := hrel
              by_cases hgo : ∃ h : m < s.size, b64S s[m] = true
              · obtain ⟨hlt, hb⟩ := hgo
                have HM := Lib.hid (run_more s b64S hd.size m hm1 hlt hall.out hb)
                have h256 := toNat_lt_256 s[m]
                cases q1 : letterC s[m]
                case' true =>
                  have Q1 := Lib.hid q1
                  clear hb q1
                  go_wp2_with fail
                  refine (specLetter_calls s[m] _).mono ?_
                  rintro x w' ⟨rfl, rfl⟩
                  have q1 := Q1.out
                case' false =>
                  have Q1 := Lib.hid q1
                  cases q2 : digitC s[m]
                  case' true =>
                    have Q2 := Lib.hid q2
                    clear hb q1 q2
                    go_wp2_with fail
                    refine (specLetter_calls s[m] _).mono ?_
                    rintro x w' ⟨rfl, rfl⟩
                    have q1 := Q1.out
                    go_wp2_with fail
                    refine (specFigure_calls s[m] _).mono ?_
                    rintro x w' ⟨rfl, rfl⟩
                    have q2 := Q2.out
                  case' false =>
                    have Q2 := Lib.hid q2
                    rcases (show s[m] = 43 ∨ s[m] = 47 by simpa [b64S, q1, q2] using hb) with q3 | q3
                    case' inl =>
                      have g3 : ((s[m].toNat : Int) == 43) = true := eq_u8 _ _ q3
                    case' inr =>
                      have g3 : ((s[m].toNat : Int) == 43) = false := ne_u8 s[m] 43 (by rw [q3]; decide)
                      have g4 : ((s[m].toNat : Int) == 47) = true := eq_u8 _ _ q3
                    all_goals
                      clear hb q1 q2 q3
                      go_wp2_with fail
                      refine (specLetter_calls s[m] _).mono ?_
                      rintro x w' ⟨rfl, rfl⟩
                      have q1 := Q1.out
                      go_wp2_with fail
                      refine (specFigure_calls s[m] _).mono ?_
                      rintro x w' ⟨rfl, rfl⟩
                      have q2 := Q2.out
                all_goals
                  go_wp2
                  go_round
                  case rel => exact ⟨m + 1, by omega, by omega, by go_num, HM.out⟩
                  case measure => simp [intOf]; omega
              · have hend : ¬ m < s.size ∨ ∃ h : m < s.size, b64S s[m] = false := by
                  by_cases hlt : m < s.size
                  · right
                    refine ⟨hlt, ?_⟩
                    cases hc : b64S s[m]
                    · rfl
                    · exact absurd ⟨hlt, hc⟩ hgo
                  · exact .inl hlt
                have HRUN := Lib.hid (run_at s b64S hd.size m hm1 hall.out hend)
                clear hgo
                rcases hend with hlt | ⟨hlt, hb⟩
                case' inl =>
                  go_wp2
                case' inr =>
                  have q : letterC s[m] = false ∧ digitC s[m] = false ∧ ¬ s[m] = 43 ∧ ¬ s[m] = 47 := by simpa [b64S, and_assoc] using hb
                  have h256 := toNat_lt_256 s[m]
                  have g3 : ((s[m].toNat : Int) == 43) = false := ne_u8 _ _ q.2.2.1
                  have g4 : ((s[m].toNat : Int) == 47) = false := ne_u8 _ _ q.2.2.2
                  have Q1 := Lib.hid q.1
                  have Q2 := Lib.hid q.2.1
                  clear q hb
                  go_wp2_with fail
                  refine (specLetter_calls s[m] _).mono ?_
                  rintro x w' ⟨rfl, rfl⟩
                  have q1 := Q1.out
                  go_wp2_with fail
                  refine (specFigure_calls s[m] _).mono ?_
                  rintro x w' ⟨rfl, rfl⟩
                  have q2 := Q2.out
                  go_wp2
                  clear q1 q2 g3 g4
                all_goals
                  go_loop [10] (fun i => ∃ d : Nat, m ≤ d ∧ d ≤ s.size ∧ i = .int .i64 d ∧ Hid (((s.data.toList.drop m).take (d - m)).all isEq = true)) (fun i => s.size - (intOf i).toNat)
                  case atStart => exact ⟨m, Nat.le_refl _, hm2, rfl, by simp [Hid]⟩
                  case round =>
                    obtain ⟨d, hd1, hd2, rfl, hall2⟩ := hrel
                    by_cases hgo2 : ∃ h : d < s.size, s[d] = 61
                    · obtain ⟨hlt2, hb2⟩ := hgo2
                      have HM := Lib.hid (run_more s isEq m d hd1 hlt2 hall2.out (by rw [hb2]; rfl))
                      have h256' := toNat_lt_256 s[d]
                      have g61 : ((s[d].toNat : Int) == 61) = true := eq_u8 _ _ hb2
                      clear hb2
                      go_wp2
                      go_round
                      case rel => exact ⟨d + 1, by omega, by omega, by go_num, HM.out⟩
                      case measure => simp [intOf]; omega
                    · have hend2 : ¬ d < s.size ∨ ∃ h : d < s.size, isEq s[d] = false := by
                        by_cases hlt2 : d < s.size
                        · right
                          refine ⟨hlt2, ?_⟩
                          cases hc : isEq s[d]
                          · rfl
                          · exact absurd ⟨hlt2, by simpa [isEq] using hc⟩ hgo2
                        · exact .inl hlt2
                      have HRUN2 := Lib.hid (run_at s isEq m d hd1 hall2.out hend2)
                      have HV := Lib.hid (show b64Run s.data.toList hd.size = (decide (hd.size < m) && decide (d = s.size)) by
                        rw [b64Run, HRUN.out.1, HRUN.out.2, HRUN2.out.2, Bool.eq_iff_iff]
                        simp [List.isEmpty_iff, List.drop_eq_nil_iff, List.take_eq_nil_iff]
                        omega)
                      clear hgo2
                      by_cases c1 : hd.size < m
                      case' neg =>
                        have g1 : decide ((hd.size : Int) < (m : Int)) = false := decide_eq_false (by omega)
                        have g2 : decide (hd.size < m) = false := decide_eq_false (by omega)
                      case' pos =>
                        have g1 : decide ((hd.size : Int) < (m : Int)) = true := decide_eq_true (by omega)
                        have g2 : decide (hd.size < m) = true := decide_eq_true (by omega)
                      all_goals
                        rcases hend2 with hlt2 | ⟨hlt2, hb2⟩
                        case' inl =>
                          have g3 : ((d : Int) == (s.size : Int)) = true := by rw [beq_iff_eq]; omega
                          have g4 : decide (d = s.size) = true := decide_eq_true (by omega)
                        case' inr =>
                          have h256' := toNat_lt_256 s[d]
                          have g61 : ((s[d].toNat : Int) == 61) = false := ne_u8 _ _ (by simpa [isEq] using hb2)
                          have g3 : ((d : Int) == (s.size : Int)) = false := by rw [beq_eq_false_iff_ne]; omega
                          have g4 : decide (d = s.size) = false := decide_eq_false (by omega)
                          clear hb2
                        all_goals
                          have HW := Lib.hid (show dataRes s = (_, true) by rw [HR.out, HV.out, g2, g4])
                          clear g2 g4
                          go_wp2
                          go_ret2
                          exact ⟨by rw [HW.out]; rfl, HB2.out⟩
        · have HE := Lib.hid (show dataRes s = (false, false) by rw [HN.out, ha.out, List.drop_eq_nil_of_le (by show 5 ≤ n; omega)]; rfl)
          go_wp2
          go_ret2
          exact ⟨by rw [HE.out]; rfl, HB2.out⟩

set_option linter.unusedVariables false
set_option linter.unusedSimpArgs false

def specSafe (s : ByteArray) : Bool × Bool :=
  if schemes.any (startsB (lowS s)) then (true, true) else if startsB (lowS s) sData then dataRes (lowS s) else (scanL s.data.toList, true)

theorem lowC_special (c d : UInt8) (hd : d.toNat < 65) : lowC c = d ↔ c = d := by
  by_cases h : 65 ≤ c.toNat ∧ c.toNat ≤ 90
  · have e := lowC_cap h
    constructor
    · intro h1; rw [h1] at e; omega
    · intro h1; rw [h1] at h; omega
  · rw [lowC_other h]
theorem scanL_low : ∀ l : List UInt8, scanL (lowL l) = scanL l
  | [] => rfl
  | c :: l => by
    have e58 := lowC_special c 58 (by decide)
    have e47 := lowC_special c 47 (by decide)
    have e63 := lowC_special c 63 (by decide)
    have e35 := lowC_special c 35 (by decide)
    have ih := scanL_low l
    show scanL (lowC c :: lowL l) = _
    rw [scanL, scanL, ih]
    simp only [e58, e47, e63, e35]
theorem dropWhile_stop {α : Type} {p : α → Bool} {c : α} (hc : p c = false) (M : List α) : ∀ L : List α, (L ++ c :: M).dropWhile p = L.dropWhile p ++ c :: M
  | [] => by simp [List.dropWhile_cons, hc]
  | a :: L => by
    by_cases h : p a = true
    · simp [List.dropWhile_cons, h, dropWhile_stop hc M L]
    · simp [List.dropWhile_cons, h]
theorem trimEq_keep (A R : List UInt8) (c : UInt8) (hc : ¬ c = 61) : ∃ R', trimEq (A ++ c :: R) = A ++ c :: R' := by
  refine ⟨(R.reverse.dropWhile (· == 61)).reverse, ?_⟩
  rw [trimEq, List.reverse_append, List.reverse_cons, List.append_assoc, List.singleton_append, dropWhile_stop (by simp [hc])]
  simp
theorem dropWhile_first {α : Type} {p : α → Bool} : ∀ l : List α, (∃ c R, l.dropWhile p = c :: R ∧ p c = false) ∨ l.dropWhile p = []
  | [] => .inr rfl
  | a :: l => by
    by_cases h : p a = true
    · rw [List.dropWhile_cons, if_pos h]; exact dropWhile_first l
    · exact .inl ⟨a, l, by rw [List.dropWhile_cons, if_neg h], by simpa using h⟩
theorem eq_replicate_of_dropWhile : ∀ l : List UInt8, l.dropWhile isEq = [] → l = List.replicate l.length 61
  | [], _ => rfl
  | a :: l, h => by
    by_cases ha : isEq a = true
    · rw [List.dropWhile_cons, if_pos ha] at h
      have ih := eq_replicate_of_dropWhile l h
      have : a = 61 := by simpa [isEq] using ha
      rw [this, List.length_cons, List.replicate_succ, ← ih]
    · rw [List.dropWhile_cons, if_neg ha] at h; simp at h
theorem trimEq_all (P : List UInt8) (h : P.all b64C = true) : trimEq P = P := by
  rcases List.eq_nil_or_concat P with rfl | ⟨L, a, rfl⟩
  · rfl
  · rw [List.concat_eq_append] at h ⊢
    apply trimEq_last
    rintro rfl
    rw [List.all_append, Bool.and_eq_true] at h
    exact absurd h.2 (by decide)
theorem takeWhile_all' {α : Type} {p : α → Bool} : ∀ l : List α, (l.takeWhile p).all p = true
  | [] => rfl
  | a :: l => by
    by_cases h : p a = true
    · rw [List.takeWhile_cons, if_pos h, List.all_cons, h, takeWhile_all' l]; rfl
    · rw [List.takeWhile_cons, if_neg h]; rfl
theorem b64_sides (Y : List UInt8) : b64OK (trimEq Y) = (!(Y.takeWhile b64C).isEmpty && ((Y.dropWhile b64C).dropWhile isEq).isEmpty) := by
  have hY : Y.takeWhile b64C ++ Y.dropWhile b64C = Y := List.takeWhile_append_dropWhile
  have hP := takeWhile_all' (p := b64C) Y
  generalize hPe : Y.takeWhile b64C = P at hY hP ⊢
  have hQ1 := dropWhile_first (p := b64C) Y
  generalize hQe : Y.dropWhile b64C = Q at hY hQ1 ⊢
  clear hPe hQe
  subst hY
  rcases dropWhile_first (p := isEq) Q with ⟨c, R, hd, hc⟩ | hd
  · rw [hd]
    have hc61 : ¬ c = 61 := by simpa [isEq] using hc
    have hE := List.takeWhile_append_dropWhile (p := isEq) (l := Q)
    rw [hd] at hE
    obtain ⟨R', hR'⟩ := trimEq_keep (P ++ Q.takeWhile isEq) R c hc61
    rw [List.append_assoc, hE] at hR'
    rw [hR', b64OK]
    have : (P ++ Q.takeWhile isEq ++ c :: R').all b64C = false := by
      rw [List.all_eq_false]
      rcases h : Q.takeWhile isEq with _ | ⟨e, E⟩
      · rw [h, List.nil_append] at hE
        rcases hQ1 with ⟨q, R2, hq, hqb⟩ | hq
        · rw [hq] at hE
          injection hE with e1 _
          exact ⟨c, by simp, by rw [e1, hqb]; simp⟩
        · rw [hq] at hE; simp at hE
      · have he : isEq e = true := by
          have := takeWhile_all' (p := isEq) Q
          rw [h, List.all_cons, Bool.and_eq_true] at this
          exact this.1
        have : e = 61 := by simpa [isEq] using he
        exact ⟨e, by simp, by rw [this]; decide⟩
    rw [this]; simp
  · rw [hd, eq_replicate_of_dropWhile Q hd, trimEq_more, trimEq_all P hP, b64OK, hP]; simp
theorem b64_low (c : UInt8) : b64S (lowC c) = b64C (lowC c) := by
  have h : ¬ (65 ≤ (lowC c).toNat ∧ (lowC c).toNat ≤ 90) := by
    by_cases h : 65 ≤ c.toNat ∧ c.toNat ≤ 90
    · have e := lowC_cap h; omega
    · rw [lowC_other h]; exact h
  have : (decide (65 ≤ (lowC c).toNat) && decide ((lowC c).toNat ≤ 90)) = false := by
    rw [Bool.and_eq_false_iff, decide_eq_false_iff_not, decide_eq_false_iff_not]; omega
  simp [b64S, b64C, letterC, this]
theorem while_congr {α : Type} {p q : α → Bool} : ∀ l : List α, (∀ x ∈ l, p x = q x) → l.takeWhile p = l.takeWhile q ∧ l.dropWhile p = l.dropWhile q
  | [], _ => ⟨rfl, rfl⟩
  | a :: l, h => by
    obtain ⟨e1, e2⟩ := while_congr l (fun x hx => h x (by simp [hx]))
    simp only [List.takeWhile_cons, List.dropWhile_cons, h a (by simp), e1, e2, and_self]
theorem while_past {α : Type} {p : α → Bool} (Y : List α) : ∀ k : List α, k.all p = true → (k ++ Y).takeWhile p = k ++ Y.takeWhile p ∧ (k ++ Y).dropWhile p = Y.dropWhile p
  | [], _ => ⟨rfl, rfl⟩
  | a :: k, h => by
    rw [List.all_cons, Bool.and_eq_true] at h
    obtain ⟨e1, e2⟩ := while_past Y k h.2
    simp [List.takeWhile_cons, List.dropWhile_cons, h.1, e1, e2]
theorem headOf_data (k : ByteArray) : (headOf k).data.toList = sData.data.toList ++ (k.data.toList ++ sBase.data.toList) := by
  simp [headOf, ByteArray.data_append, sData, sBase]
theorem bad_mime (Z : List UInt8) : ∀ k ∈ badKinds, mimeL (k.data.toList ++ Z) = false := by
  intro k hk
  simp [badKinds] at hk
  rcases hk with rfl | rfl | rfl | rfl <;> simp [mimeL, mimes]
theorem good_mime : ∀ k ∈ goodKinds, mimeL k.data.toList = true ∧ k.data.toList.all notEnd = true := by decide
theorem bad_ends : ∀ k ∈ badKinds, k.data.toList.all notEnd = true := by decide
theorem dataFind_some {s : ByteArray} {b : Bool} : ∀ ks : List ByteArray, dataFind s ks = (b, true) → ∃ k ∈ ks, startsB s (headOf k) = true ∧ b = b64Run s.data.toList (headOf k).size
  | [], h => by simp [dataFind] at h
  | k :: ks, h => by
    cases hb : startsB s (headOf k)
    · rw [dataFind_no hb] at h
      obtain ⟨k', hk, h1, h2⟩ := dataFind_some ks h
      exact ⟨k', by simp [hk], h1, h2⟩
    · rw [dataFind_yes hb] at h
      simp at h
      exact ⟨k, by simp, hb, h.symm⟩
theorem starts_split' {s p : ByteArray} (h : startsB s p = true) : ∃ r, s.data.toList = p.data.toList ++ r := by
  obtain ⟨r, hr⟩ := List.isPrefixOf_iff_prefix.1 (show p.data.toList.isPrefixOf s.data.toList = true from h)
  exact ⟨r, hr.symm⟩
theorem scan_data {l : List UInt8} : scanL (sData.data.toList ++ l) = false := by simp [sData, scanL]
theorem scheme_data {s : ByteArray} {r : List UInt8} (h : s.data.toList = sData.data.toList ++ r) : schemes.any (startsB s) = false := by
  rw [List.any_eq_false]
  intro p hp
  simp [schemes] at hp
  rw [startsB, startsL, h]
  rcases hp with rfl | rfl | rfl | rfl <;> simp [sData]

/-- Where the reference says something, the package says the same. -/
theorem safe_sides (s : ByteArray) (b : Bool) (h : specSafe s = (b, true)) : safeB s = b := by
  rw [specSafe] at h
  split at h
  · rename_i h1
    simp at h
    rw [h, safeB, safePatB, h1]; rfl
  · rename_i h1
    have h1' : schemes.any (startsB (lowS s)) = false := by simpa using h1
    split at h
    · rename_i h2
      obtain ⟨X, hX⟩ := starts_split' h2
      have hsp : safePatB (lowS s) = false := by rw [safePatB, h1', hX, scan_data]; rfl
      rw [safeB, hsp, Bool.false_or]
      have hdrop : (lowS s).data.toList.drop 5 = X := by rw [hX]; rfl
      rw [dataRes] at h
      split at h
      · rename_i h3
        simp at h
        rw [List.any_eq_true] at h3
        obtain ⟨k, hk, h3⟩ := h3
        rw [startsB, extract_from, hdrop] at h3
        obtain ⟨Y, hY⟩ := List.isPrefixOf_iff_prefix.1 h3
        have : mimeL (dataM (lowS s).data.toList) = false := by
          rw [dataM, hdrop, ← hY, (while_past Y _ (bad_ends k hk)).1]
          exact bad_mime _ k hk
        rw [this, h]; simp
      · obtain ⟨k, hk, h4, h5⟩ := dataFind_some _ h
        obtain ⟨Y, hY⟩ := starts_split' h4
        obtain ⟨g1, g2⟩ := good_mime k hk
        have hXY : X = k.data.toList ++ (sBase.data.toList ++ Y) := by
          have : sData.data.toList ++ X = sData.data.toList ++ (k.data.toList ++ (sBase.data.toList ++ Y)) := by
            rw [← hX, hY, headOf_data]; simp
          exact List.append_cancel_left this
        have hw := while_past (sBase.data.toList ++ Y) _ g2
        have eb : (sBase.data.toList ++ Y).takeWhile notEnd = [] ∧ (sBase.data.toList ++ Y).dropWhile notEnd = sBase.data.toList ++ Y := by
          simp [sBase, notEnd, List.takeWhile_cons, List.dropWhile_cons]
        have eM : dataM (lowS s).data.toList = k.data.toList := by rw [dataM, hdrop, hXY, hw.1, eb.1, List.append_nil]
        have eR : dataR (lowS s).data.toList = sBase.data.toList ++ Y := by rw [dataR, hdrop, hXY, hw.2, eb.2]
        have eD : dataOK (lowS s) = b64OK (trimEq Y) := by
          rw [dataOK, h2, eR, b64R, eR]
          have : startsL (sBase.data.toList ++ Y) sBase.data.toList = true := List.isPrefixOf_iff_prefix.2 (List.prefix_append _ _)
          rw [this]; rfl
        have ev : ∀ x ∈ Y, b64S x = b64C x := by
          intro x hx
          have : x ∈ (lowS s).data.toList := by rw [hY]; simp [hx]
          rw [lowS_data, lowL, List.mem_map] at this
          obtain ⟨c, _, rfl⟩ := this
          exact b64_low c
        have eY : (lowS s).data.toList.drop (headOf k).size = Y := by
          rw [hY, ← data_len, List.drop_left]
        rw [eM, g1, eD, b64_sides, h5, b64Run, eY, (while_congr Y ev).1, (while_congr Y ev).2]; simp
    · rename_i h2
      have h2' : startsB (lowS s) sData = false := by simpa using h2
      simp at h
      rw [safeB, safePatB, h1', dataOK, h2', lowS_data, scanL_low, h]; simp

set_option linter.unusedVariables false
set_option linter.unusedSimpArgs false

set_option maxHeartbeats 4000000 in
set_option maxRecDepth 100000 in
theorem specSafe_calls (s : ByteArray) (w : World) (hs : s.size ≤ 2147483647) :
    Calls Tryz.prog 13 #[.string s] w (PairPost (specSafe s) w) := by
  have hls : (lowS s).size ≤ 2147483647 := by rw [lowS_size]; exact hs
  have HS := Lib.hid (show specSafe s = if schemes.any (startsB (lowS s)) then (true, true) else if startsB (lowS s) sData then dataRes (lowS s) else (scanL s.data.toList, true) from rfl)
  go_enter Tryz.func13, Tryz.ntmps13
  go_wp2_with fail
  refine (specLower_calls s _ hs).mono ?_
  rintro e w1 ⟨rfl, hb1⟩
  generalize lowS s = t at hls HS ⊢
  have HB1 := Lib.hid hb1
  have hz1 := hb1.size
  clear hb1
  have HA := Lib.hid (strsAt_new w1 w1.heap.size schemes 9 rfl)
  have HB := Lib.hid (HB1.out.alloc hz1 (.cells (schemes.map Value.string).toArray 9))
  go_wp2
  change Code.wp Tryz.prog _ _ _ (w1.alloc (Obj.cells (List.map Value.string schemes).toArray 9))
  generalize w1.alloc (Obj.cells (List.map Value.string schemes).toArray 9) = wq at HA HB ⊢
  go_loop [12] (fun j => ∃ n : Nat, n ≤ 4 ∧ j = .int .i64 n ∧ Hid ((schemes.take n).any (startsB t) = false)) (fun j => 4 - (intOf j).toNat)
  case atStart => exact ⟨0, by omega, rfl, rfl⟩
  case round =>
    obtain ⟨n, hn, rfl, ha⟩ := hrel
    by_cases hnt : n < 4
    · have hn5 : n < schemes.length := hnt
      have HT := Lib.hid (any_take_succ (p := startsB t) schemes n hn5)
      have HX := Lib.hid (fun h => any_true_of (p := startsB t) schemes n hn5 h)
      obtain ⟨ad, e1, hblk, hc⟩ := HA.out n hn5
      rw [Option.some.injEq] at e1
      rw [← e1] at hc
      have hc' : wq.cell? ⟨w1.heap.size, n, none⟩ = some (.string schemes[n]) := by
        rw [← hc]; congr 1; unfold Addr.add; split <;> simp_all
      clear hc e1 hblk
      generalize schemes[n] = e at HT HX hc'
      cases hb : startsB t e
      · have HP := Lib.hid hb
        clear hb
        go_wp2_with fail
        refine (specStarts_calls _ e _).mono ?_
        rintro x w' ⟨rfl, rfl⟩
        have hp := HP.out
        go_wp2
        go_round
        case rel => exact ⟨n + 1, by omega, by go_num, by rw [Hid, HT.out, ha.out, HP.out]; rfl⟩
        case measure => simp [intOf]; omega
      · have HP := Lib.hid hb
        clear hb
        go_wp2_with fail
        refine (specStarts_calls _ e _).mono ?_
        rintro x w' ⟨rfl, rfl⟩
        have hp := HP.out
        go_wp2
        go_ret2
        exact ⟨by rw [HS.out, if_pos (HX.out HP.out)]; rfl, HB.out⟩
    · have HN := Lib.hid (show specSafe s = if startsB t sData then dataRes t else (scanL s.data.toList, true) by
        rw [HS.out, if_neg (by rw [any_of_take schemes n (by show 4 ≤ n; omega) ha.out]; simp)])
      clear ha
      cases hd : startsB t sData
      · have HN2 := Lib.hid (show specSafe s = (scanL s.data.toList, true) by rw [HN.out, if_neg (by rw [hd]; simp)])
        have HP := Lib.hid hd
        clear hd
        go_wp2_with fail
        refine (specStarts_calls t sData _).mono ?_
        rintro x w' ⟨rfl, rfl⟩
        have hp := HP.out
        go_wp2
        clear hp
        go_loop [7] (fun i => ∃ k : Nat, k ≤ s.size ∧ i = .int .i64 k ∧ Hid (scanL s.data.toList = scanL (s.data.toList.drop k))) (fun i => s.size - (intOf i).toNat)
        case atStart => exact ⟨0, Nat.zero_le _, rfl, by simp [Hid]⟩
        case round =>
          obtain ⟨k, hk, rfl, hp⟩ := hrel
          by_cases hlt : k < s.size
          · have HD := Lib.hid (drop_byte s k hlt)
            have h256 := toNat_lt_256 s[k]
            by_cases h47 : s[k] = 47
            · have g47 : ((s[k].toNat : Int) == 47) = true := eq_u8 _ _ h47
              have HE := Lib.hid (scanL_end (c := s[k]) (l := s.data.toList.drop (k + 1)) (by rw [h47]; decide) (by simp [h47]))
              clear h47
              go_wp2
              go_ret2
              exact ⟨by rw [HN2.out, hp.out, HD.out, HE.out]; rfl, HB.out⟩
            have g47 : ((s[k].toNat : Int) == 47) = false := ne_u8 _ _ h47
            have H47 := Lib.hid h47
            clear h47
            by_cases h63 : s[k] = 63
            · have g63 : ((s[k].toNat : Int) == 63) = true := eq_u8 _ _ h63
              have HE := Lib.hid (scanL_end (c := s[k]) (l := s.data.toList.drop (k + 1)) (by rw [h63]; decide) (by simp [h63]))
              clear h63
              go_wp2
              go_ret2
              exact ⟨by rw [HN2.out, hp.out, HD.out, HE.out]; rfl, HB.out⟩
            have g63 : ((s[k].toNat : Int) == 63) = false := ne_u8 _ _ h63
            have H63 := Lib.hid h63
            clear h63
            by_cases h35 : s[k] = 35
            · have g35 : ((s[k].toNat : Int) == 35) = true := eq_u8 _ _ h35
              have HE := Lib.hid (scanL_end (c := s[k]) (l := s.data.toList.drop (k + 1)) (by rw [h35]; decide) (by simp [h35]))
              clear h35
              go_wp2
              go_ret2
              exact ⟨by rw [HN2.out, hp.out, HD.out, HE.out]; rfl, HB.out⟩
            have g35 : ((s[k].toNat : Int) == 35) = false := ne_u8 _ _ h35
            have H35 := Lib.hid h35
            clear h35
            by_cases h58 : s[k] = 58
            · have g58 : ((s[k].toNat : Int) == 58) = true := eq_u8 _ _ h58
              have HE := Lib.hid (scanL_colon (l := s.data.toList.drop (k + 1)) h58)
              clear h58
              go_wp2
              go_ret2
              exact ⟨by rw [HN2.out, hp.out, HD.out, HE.out]; rfl, HB.out⟩
            have g58 : ((s[k].toNat : Int) == 58) = false := ne_u8 _ _ h58
            have HE := Lib.hid (scanL_on (l := s.data.toList.drop (k + 1)) h58 H47.out H63.out H35.out)
            clear h58
            go_wp2
            go_round
            case rel => exact ⟨k + 1, by omega, by go_num, by rw [Hid, hp.out, HD.out, HE.out]⟩
            case measure => simp [intOf]; omega
          · go_wp2
            go_ret2
            exact ⟨by rw [HN2.out, hp.out, List.drop_eq_nil_of_le (by simp; omega)]; rfl, HB.out⟩
      · have HN2 := Lib.hid (show specSafe s = dataRes t by rw [HN.out, if_pos hd])
        have h5 : 5 ≤ t.size := startsB_size hd
        have HP := Lib.hid hd
        clear hd
        go_wp2_with fail
        refine (specStarts_calls t sData _).mono ?_
        rintro x w' ⟨rfl, rfl⟩
        have hp := HP.out
        go_wp2_with fail
        refine (data_calls t _ hls h5).mono ?_
        rintro x w2 ⟨rfl, hb2⟩
        go_wp2
        go_ret2
        exact ⟨by rw [HN2.out]; rfl, below_then HB.out HB.out.size hb2⟩

end Go.Proofs.YtlpkdagdfopchaaGreatDoor
