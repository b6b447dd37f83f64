/- dataURLPattern. -/
import Derived.Test.YtmgkolcpomaceaaE1
namespace Go.Proofs.Ytmgkolcpomaceaa
open Go.RowKit
set_option linter.unusedVariables false
set_option linter.unusedSimpArgs false

def notEnd (c : UInt8) : Bool := c != 59 && c != 44
def trimEq (l : List UInt8) : List UInt8 := (l.reverse.dropWhile (· == 61)).reverse
def dataM (l : List UInt8) : List UInt8 := (l.drop 5).takeWhile notEnd
def dataR (l : List UInt8) : List UInt8 := (l.drop 5).dropWhile notEnd
def b64R (l : List UInt8) : List UInt8 := trimEq ((dataR l).drop 8)
def sData : ByteArray := ⟨#[100, 97, 116, 97, 58]⟩
def sBase : ByteArray := ⟨#[59, 98, 97, 115, 101, 54, 52, 44]⟩
def b64OK (l : List UInt8) : Bool := !l.isEmpty && l.all b64C
def dataOK (s : ByteArray) : Bool := startsB s sData && (startsL (dataR s.data.toList) sBase.data.toList && b64OK (b64R s.data.toList))

theorem while_eq {α : Type} {p : α → Bool} : ∀ (l : List α) (k : Nat), (l.take k).all p = true → (∀ x, l[k]? = some x → p x = false) → l.takeWhile p = l.take k ∧ l.dropWhile p = l.drop k
  | [], k, _, _ => by simp
  | a :: l, 0, _, h => by have := h a (by simp); simp [List.takeWhile_cons, List.dropWhile_cons, this]
  | a :: l, k + 1, h1, h2 => by
    rw [List.take_succ_cons, List.all_cons, Bool.and_eq_true] at h1
    obtain ⟨e1, e2⟩ := while_eq l k h1.2 (fun x hx => h2 x (by simpa using hx))
    simp [List.takeWhile_cons, List.dropWhile_cons, h1.1, e1, e2]
theorem trimEq_snoc (l : List UInt8) : trimEq (l ++ [61]) = trimEq l := by simp [trimEq]
theorem trimEq_more (l : List UInt8) (m : Nat) : trimEq (l ++ List.replicate m 61) = trimEq l := by
  induction m with
  | zero => simp
  | succ m ih => rw [List.replicate_succ', ← List.append_assoc, trimEq_snoc, ih]
theorem trimEq_nil : trimEq [] = [] := rfl
theorem trimEq_last (l : List UInt8) (c : UInt8) (h : ¬ c = 61) : trimEq (l ++ [c]) = l ++ [c] := by simp [trimEq, List.dropWhile_cons, h]
theorem extract_from (s : ByteArray) (n : Nat) : (s.extract n s.size).data.toList = s.data.toList.drop n := by
  rw [Lib.extract_data, List.take_of_length_le (by simp)]
theorem data_len (s : ByteArray) : s.data.toList.length = s.size := by simp
theorem last_split (r : ByteArray) (h : 0 < r.size) : r.data.toList = (r.extract 0 (r.size - 1)).data.toList ++ [r[r.size - 1]] := by
  rw [Lib.extract_data, List.drop_zero, Nat.sub_zero]
  have := take_succ_byte r (r.size - 1) (by omega)
  rw [Nat.sub_add_cancel h, List.take_of_length_le (by simp)] at this
  exact this

def DataPost (s : ByteArray) (w : World) (e : Ending) (w' : World) : Prop := ∃ (m : ByteArray) (b : Bool), e = .returned (.tuple #[.string m, .bool b]) ∧ b = dataOK s ∧ (b = true → m.data.toList = dataM s.data.toList) ∧ Below w.heap.size w w'

set_option maxHeartbeats 4000000 in
set_option maxRecDepth 100000 in
theorem dataURL_calls (s : ByteArray) (w : World) (hs : s.size ≤ 2147483647) :
    Calls Try.prog 125 #[.string s] w (DataPost s w) := by
  cases h1 : startsB s sData
  · have H1 := Lib.hid h1
    clear h1
    go_enter Try.func125, Try.ntmps125
    go_wp2_with fail
    refine (zzStarts_calls s sData _).mono ?_
    rintro x w' ⟨rfl, rfl⟩
    have h1 := H1.out
    go_wp2
    go_ret2
    exact ⟨_, false, rfl, by rw [dataOK, H1.out]; rfl, by simp, Below.refl _ _⟩
  · have h5 : 5 ≤ s.size := by
      have := (List.isPrefixOf_iff_prefix.1 (show sData.data.toList.isPrefixOf s.data.toList = true from h1)).length_le
      simpa [sData] using this
    have H1 := Lib.hid h1
    clear h1
    go_enter Try.func125, Try.ntmps125
    go_wp2_with fail
    refine (zzStarts_calls s sData _).mono ?_
    rintro x w' ⟨rfl, rfl⟩
    have h1 := H1.out
    go_wp2
    clear h1
    go_loop [4] (fun i => ∃ n : Nat, 5 ≤ n ∧ n ≤ s.size ∧ i = .int .i64 n ∧ Hid (((s.data.toList.drop 5).take (n - 5)).all notEnd = true)) (fun i => s.size - (intOf i).toNat)
    case atStart => exact ⟨5, by omega, h5, rfl, rfl⟩
    case round =>
      obtain ⟨n, hn5, hn, rfl, ha⟩ := hrel
      by_cases hgo : ∃ h : n < s.size, notEnd s[n] = true
      · obtain ⟨hlt, hne⟩ := hgo
        have HNE := Lib.hid hne
        have h59 : ((s[n].toNat : Int) != 59) = true := by
          have : ¬ s[n] = 59 := by rintro e; rw [e] at hne; exact absurd hne (by decide)
          rw [bne_iff_ne]; intro e; exact this (UInt8.toNat_inj.1 (by show s[n].toNat = 59; omega))
        have h44 : ((s[n].toNat : Int) != 44) = true := by
          have : ¬ s[n] = 44 := by rintro e; rw [e] at hne; exact absurd hne (by decide)
          rw [bne_iff_ne]; intro e; exact this (UInt8.toNat_inj.1 (by show s[n].toNat = 44; omega))
        clear hne
        go_wp2
        go_round
        case rel =>
          refine ⟨n + 1, by omega, by omega, by go_num, ?_⟩
          have hl : n - 5 < (s.data.toList.drop 5).length := by simp; omega
          have e : (s.data.toList.drop 5)[n - 5] = s[n] := by
            rw [List.getElem_drop]; congr 1; omega
          rw [Hid, show n + 1 - 5 = (n - 5) + 1 from by omega, lall_take_succ _ _ hl, ha.out, e, HNE.out]; rfl
        case measure => simp [intOf]; omega
      · have HW := Lib.hid (while_eq (s.data.toList.drop 5) (n - 5) ha.out (fun x hx => by
          rw [List.getElem?_drop, show 5 + (n - 5) = n from by omega] at hx
          obtain ⟨h, e⟩ := List.getElem?_eq_some_iff.1 hx
          have hlt : n < s.size := by simpa using h
          cases hc : notEnd x
          · rfl
          · exact absurd ⟨hlt, by rw [show s[n] = x from e]; exact hc⟩ hgo))
        have HM := Lib.hid (show (s.extract 5 n).data.toList = dataM s.data.toList by rw [Lib.extract_data, dataM, HW.out.1])
        have HR := Lib.hid (show (s.extract n s.size).data.toList = dataR s.data.toList by rw [extract_from, dataR, HW.out.2, List.drop_drop, show 5 + (n - 5) = n from by omega])
        have hrz : (s.extract n s.size).size ≤ 2147483647 := by rw [ByteArray.size_extract]; omega
        have hend : ¬ n < s.size ∨ ∃ h : n < s.size, s[n] = 59 ∨ s[n] = 44 := by
          by_cases hlt : n < s.size
          · right
            refine ⟨hlt, ?_⟩
            by_cases e1 : s[n] = 59
            · exact .inl e1
            · by_cases e2 : s[n] = 44
              · exact .inr e2
              · exact absurd ⟨hlt, by simp [notEnd, e1, e2]⟩ hgo
          · exact .inl hlt
        clear hgo
        have HBD := Lib.hid (fun q => below_drewN (Below.refl w.heap.size w) q)
        cases hb : startsB (s.extract n s.size) sBase
        · have HOK := Lib.hid (show dataOK s = false by
            rw [dataOK, H1.out, ← HR.out, show startsL (s.extract n s.size).data.toList sBase.data.toList = false from hb]; rfl)
          have HP := Lib.hid hb
          clear hb
          rcases hend with hlt | ⟨hlt, h59 | h44⟩
          case' inr.inl => have g59 : ((s[n].toNat : Int) != 59) = false := by rw [h59]; rfl
          case' inr.inl => clear h59
          case' inr.inr => have g59 : ((s[n].toNat : Int) != 59) = true := by rw [h44]; rfl
          case' inr.inr => have g44 : ((s[n].toNat : Int) != 44) = false := by rw [h44]; rfl
          case' inr.inr => clear h44
          all_goals
            go_wp2_with fail
            go_quiet (fail)
            go_wp2_with fail
            refine (zzStarts_calls _ sBase _).mono ?_
            rintro x w' ⟨rfl, rfl⟩
            have hp := HP.out
            go_wp2
            go_ret2
            exact ⟨_, false, rfl, HOK.out.symm, by simp, HBD.out _⟩
        · have h8 : 8 ≤ (s.extract n s.size).size := by
            have := (List.isPrefixOf_iff_prefix.1 (show sBase.data.toList.isPrefixOf (s.extract n s.size).data.toList = true from hb)).length_le
            rw [data_len] at this
            exact this
          have HOK := Lib.hid (show dataOK s = b64OK (b64R s.data.toList) by
            rw [dataOK, H1.out, ← HR.out, show startsL (s.extract n s.size).data.toList sBase.data.toList = true from hb]; rfl)
          have HP := Lib.hid hb
          clear hb
          rcases hend with hlt | ⟨hlt, h59 | h44⟩
          case' inr.inl => have g59 : ((s[n].toNat : Int) != 59) = false := by rw [h59]; rfl
          case' inr.inl => clear h59
          case' inr.inr => have g59 : ((s[n].toNat : Int) != 59) = true := by rw [h44]; rfl
          case' inr.inr => have g44 : ((s[n].toNat : Int) != 44) = false := by rw [h44]; rfl
          case' inr.inr => clear h44
          all_goals
            go_wp2_with fail
            go_quiet (fail)
            go_wp2_with fail
            refine (zzStarts_calls _ sBase _).mono ?_
            rintro x w' ⟨rfl, rfl⟩
            have hp := HP.out
            generalize s.extract n s.size = r0 at hp h8 hrz HR HP ⊢
            generalize s.extract 5 n = md at HM ⊢
            go_wp2
            clear hp
            have HR8 := Lib.hid (show (r0.extract 8 r0.size).data.toList = (dataR s.data.toList).drop 8 by rw [extract_from, HR.out])
            have hrz8 : (r0.extract 8 r0.size).size ≤ 2147483647 := by rw [ByteArray.size_extract]; omega
            generalize r0.extract 8 r0.size = r8 at HR8 hrz8 ⊢
            go_loopg [6] r8.size (fun g v wr => Hid (Below w.heap.size w wr) ∧ ∃ (r : ByteArray) (m : Nat), g = r.size ∧ v = .string r ∧ r.size ≤ 2147483647 ∧ Hid (r.data.toList ++ List.replicate m 61 = (dataR s.data.toList).drop 8))
            case atStart => exact ⟨HBD.out _, r8, 0, rfl, rfl, hrz8, by rw [Hid, ← HR8.out]; simp⟩
            case round =>
              obtain ⟨hB, r, m, rfl, rfl, hr, hR⟩ := hrel
              by_cases hpos : 0 < r.size
              · have g0 : decide (0 < (r.size : Int)) = true := by simp; omega
                have HL := Lib.hid (last_split r hpos)
                by_cases h61 : r[r.size - 1] = 61
                · have g61 : ((r[r.size - 1].toNat : Int) == 61) = true := eq_u8 _ _ h61
                  have HE := Lib.hid h61
                  clear h61
                  go_wp2
                  go_roundg (r.size - 1)
                  case measure => omega
                  case rel => exact ⟨hB, r.extract 0 (r.size - 1), m + 1, by rw [ByteArray.size_extract]; omega, rfl, by rw [ByteArray.size_extract]; omega, by
                    rw [Hid, ← hR.out, HL.out, HE.out, List.replicate_succ]; simp⟩
                · have g61 : ((r[r.size - 1].toNat : Int) == 61) = false := ne_u8 _ _ h61
                  have HT := Lib.hid (show b64R s.data.toList = r.data.toList by
                    rw [b64R, ← hR.out, trimEq_more, HL.out, trimEq_last _ _ h61])
                  clear h61
                  go_wp2_with fail
                  refine (zzAll_calls 149 b64C (fun args w => by simp [go_sem]) (fun c w => data1_calls c w) r _ hr).mono ?_
                  rintro x w' ⟨rfl, hb⟩
                  go_wp2
                  go_ret2
                  exact ⟨_, _, rfl, by rw [HOK.out, b64OK, HT.out, show r.data.toList.isEmpty = false by rw [HL.out]; simp]; simp, fun _ => HM.out, below_then hB.out hB.out.size hb⟩
              · have g0 : decide (0 < (r.size : Int)) = false := decide_eq_false (by omega)
                have HT := Lib.hid (show b64R s.data.toList = [] by
                  have e : r.data.toList = [] := List.eq_nil_of_length_eq_zero (by rw [data_len]; omega)
                  rw [b64R, ← hR.out, trimEq_more, e]; rfl)
                go_wp2
                go_ret2
                exact ⟨_, false, rfl, by rw [HOK.out, HT.out]; rfl, by simp, hB.out⟩
end Go.Proofs.Ytmgkolcpomaceaa
