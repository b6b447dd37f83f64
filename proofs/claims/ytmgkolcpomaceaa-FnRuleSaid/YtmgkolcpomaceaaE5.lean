/- spec.data. -/
import Derived.Test.YtmgkolcpomaceaaE3
namespace Go.Proofs.Ytmgkolcpomaceaa
open Go.RowKit
set_option linter.unusedVariables false
set_option linter.unusedSimpArgs false

def badKinds : List ByteArray := [⟨#[116, 101, 120, 116, 47, 104, 116, 109, 108]⟩, ⟨#[116, 101, 120, 116, 47, 112, 108, 97, 105, 110]⟩, ⟨#[97, 112, 112, 108, 105, 99, 97, 116, 105, 111, 110, 47, 106, 97, 118, 97, 115, 99, 114, 105, 112, 116]⟩, ⟨#[105, 109, 97, 103, 101, 47, 115, 118, 103, 43, 120, 109, 108]⟩]
def goodKinds : List ByteArray := [⟨#[105, 109, 97, 103, 101, 47, 112, 110, 103]⟩, ⟨#[105, 109, 97, 103, 101, 47, 103, 105, 102]⟩, ⟨#[105, 109, 97, 103, 101, 47, 106, 112, 101, 103]⟩, ⟨#[118, 105, 100, 101, 111, 47, 109, 112, 52]⟩, ⟨#[97, 117, 100, 105, 111, 47, 111, 103, 103]⟩]
def headOf (k : ByteArray) : ByteArray := ⟨#[100, 97, 116, 97, 58]⟩ ++ k ++ ⟨#[59, 98, 97, 115, 101, 54, 52, 44]⟩
def b64S (c : UInt8) : Bool := letterC c || digitC c || c == 43 || c == 47
def isEq (c : UInt8) : Bool := c == 61
/-- From place h on: at least one sign of base64, then = alone. -/
def b64Run (l : List UInt8) (h : Nat) : Bool := !((l.drop h).takeWhile b64S).isEmpty && (((l.drop h).dropWhile b64S).dropWhile isEq).isEmpty
def dataFind (s : ByteArray) : List ByteArray → Bool × Bool
  | [] => (false, false)
  | k :: ks => if startsB s (headOf k) then (b64Run s.data.toList (headOf k).size, true) else dataFind s ks
def dataRes (s : ByteArray) : Bool × Bool := if badKinds.any (startsB (s.extract 5 s.size)) then (false, true) else dataFind s goodKinds
theorem goodKinds_size : ∀ k ∈ goodKinds, k.size ≤ 10 := by decide
theorem headOf_size (k : ByteArray) : (headOf k).size = k.size + 13 := by
  simp only [headOf, ByteArray.size_append]
  have e1 : (ByteArray.mk #[100, 97, 116, 97, 58]).size = 5 := rfl
  have e2 : (ByteArray.mk #[59, 98, 97, 115, 101, 54, 52, 44]).size = 8 := rfl
  omega
theorem startsB_size {s p : ByteArray} (h : startsB s p = true) : p.size ≤ s.size := by
  have := (List.isPrefixOf_iff_prefix.1 (show p.data.toList.isPrefixOf s.data.toList = true from h)).length_le
  rwa [data_len, data_len] at this
theorem dataFind_no {s : ByteArray} {k : ByteArray} {ks : List ByteArray} (h : startsB s (headOf k) = false) : dataFind s (k :: ks) = dataFind s ks := by rw [dataFind, if_neg (by rw [h]; simp)]
theorem dataFind_yes {s : ByteArray} {k : ByteArray} {ks : List ByteArray} (h : startsB s (headOf k) = true) : dataFind s (k :: ks) = (b64Run s.data.toList (headOf k).size, true) := by rw [dataFind, if_pos h]
/-- What a loop over the bytes from h to n has found. -/
theorem run_at (s : ByteArray) (p : UInt8 → Bool) (h n : Nat) (hh : h ≤ n) (ha : ((s.data.toList.drop h).take (n - h)).all p = true) (hend : ¬ n < s.size ∨ ∃ hl : n < s.size, p s[n] = false) :
    (s.data.toList.drop h).takeWhile p = (s.data.toList.drop h).take (n - h) ∧ (s.data.toList.drop h).dropWhile p = s.data.toList.drop n := by
  have := while_eq (s.data.toList.drop h) (n - h) ha (fun x hx => by
    rw [List.getElem?_drop, show h + (n - h) = n from by omega] at hx
    obtain ⟨hl, e⟩ := List.getElem?_eq_some_iff.1 hx
    have hlt : n < s.size := by simpa using hl
    rcases hend with h1 | ⟨_, h2⟩
    · exact absurd hlt h1
    · rw [← e]; exact h2)
  rw [List.drop_drop, show h + (n - h) = n from by omega] at this
  exact this
theorem run_more (s : ByteArray) (p : UInt8 → Bool) (h n : Nat) (hh : h ≤ n) (hlt : n < s.size) (ha : ((s.data.toList.drop h).take (n - h)).all p = true) (hp : p s[n] = true) : ((s.data.toList.drop h).take (n + 1 - h)).all p = true := by
  have hl : n - h < (s.data.toList.drop h).length := by simp; omega
  have e : (s.data.toList.drop h)[n - h] = s[n] := by rw [List.getElem_drop]; congr 1; omega
  rw [show n + 1 - h = (n - h) + 1 from by omega, lall_take_succ _ _ hl, ha, e, hp]; rfl

def PairPost (p : Bool × Bool) (w : World) (e : Ending) (w' : World) : Prop := e = .returned (.tuple #[.bool p.1, .bool p.2]) ∧ Below w.heap.size w w'

set_option maxHeartbeats 8000000 in
set_option maxRecDepth 100000 in
theorem data_calls (s : ByteArray) (w : World) (hs : s.size ≤ 2147483647) (h5 : 5 ≤ s.size) :
    Calls Try.prog 95 #[.string s] w (PairPost (dataRes s) w) := by
  have HA := Lib.hid (strsAt_new w w.heap.size badKinds 9 rfl)
  have HB := Lib.hid ((Below.refl w.heap.size w).alloc (Nat.le_refl _) (.cells (badKinds.map Value.string).toArray 9))
  go_enter Try.func95, Try.ntmps95
  go_wp2
  change Code.wp Try.prog _ _ _ (w.alloc (Obj.cells (List.map Value.string badKinds).toArray 9))
  generalize w.alloc (Obj.cells (List.map Value.string badKinds).toArray 9) = wq at HA HB ⊢
  go_loop [13] (fun j => ∃ n : Nat, n ≤ 4 ∧ j = .int .i64 n ∧ Hid ((badKinds.take n).any (startsB (s.extract 5 s.size)) = false)) (fun j => 4 - (intOf j).toNat)
  case atStart => exact ⟨0, by omega, rfl, rfl⟩
  case round =>
    obtain ⟨n, hn, rfl, ha⟩ := hrel
    by_cases hnt : n < 4
    · have hn5 : n < badKinds.length := hnt
      have HT := Lib.hid (any_take_succ (p := startsB (s.extract 5 s.size)) badKinds n hn5)
      have HX := Lib.hid (fun h => any_true_of (p := startsB (s.extract 5 s.size)) badKinds n hn5 h)
      obtain ⟨ad, e1, hblk, hc⟩ := HA.out n hn5
      rw [Option.some.injEq] at e1
      rw [← e1] at hc
      have hc' : wq.cell? ⟨w.heap.size, n, none⟩ = some (.string badKinds[n]) := by
        rw [← hc]; congr 1; unfold Addr.add; split <;> simp_all
      clear hc e1 hblk
      generalize badKinds[n] = e at HT HX hc'
      cases hb : startsB (s.extract 5 s.size) e
      · have HP := Lib.hid hb
        clear hb
        go_wp2_with fail
        refine (specStarts_calls _ e _).mono ?_
        rintro x w' ⟨rfl, rfl⟩
        have hp := HP.out
        go_wp2
        go_round
        case rel => exact ⟨n + 1, by omega, by go_num, by rw [Hid, HT.out, ha.out, HP.out]; rfl⟩
        case measure => simp [intOf]; omega
      · have HP := Lib.hid hb
        clear hb
        go_wp2_with fail
        refine (specStarts_calls _ e _).mono ?_
        rintro x w' ⟨rfl, rfl⟩
        have hp := HP.out
        go_wp2
        go_ret2
        exact ⟨by rw [dataRes, if_pos (HX.out HP.out)]; rfl, HB.out⟩
    · have HN := Lib.hid (show dataRes s = dataFind s goodKinds by rw [dataRes, if_neg (by rw [any_of_take badKinds n (by show 4 ≤ n; omega) ha.out]; simp)])
      have hq := HB.out.size
      clear ha
      have HA2 := Lib.hid (strsAt_new wq wq.heap.size goodKinds 9 rfl)
      have HB2 := Lib.hid (HB.out.alloc hq (.cells (goodKinds.map Value.string).toArray 9))
      go_wp2
      change Code.wp Try.prog _ _ _ (wq.alloc (Obj.cells (List.map Value.string goodKinds).toArray 9))
      generalize wq.alloc (Obj.cells (List.map Value.string goodKinds).toArray 9) = wz at HA2 HB2 ⊢
      go_loop [24] (fun j => ∃ n : Nat, n ≤ 5 ∧ j = .int .i64 n ∧ Hid (dataFind s goodKinds = dataFind s (goodKinds.drop n))) (fun j => 5 - (intOf j).toNat)
      case atStart => exact ⟨0, by omega, rfl, rfl⟩
      case round =>
        obtain ⟨n, hn, rfl, ha⟩ := hrel
        by_cases hnt : n < 5
        · have hn5 : n < goodKinds.length := hnt
          have HT := Lib.hid (List.drop_eq_getElem_cons hn5)
          have hesz := goodKinds_size _ (List.getElem_mem hn5)
          obtain ⟨ad, e1, hblk, hc⟩ := HA2.out n hn5
          rw [Option.some.injEq] at e1
          rw [← e1] at hc
          have hc' : wz.cell? ⟨wq.heap.size, n, none⟩ = some (.string goodKinds[n]) := by
            rw [← hc]; congr 1; unfold Addr.add; split <;> simp_all
          clear hc e1 hblk
          generalize goodKinds[n] = e at HT hesz hc'
          cases hb : startsB s (headOf e)
          · have HP := Lib.hid hb
            clear hb
            go_wp2_with fail
            refine (specStarts_calls s (headOf e) _).mono ?_
            rintro x w' ⟨rfl, rfl⟩
            have hp := HP.out
            go_wp2
            go_round
            case rel => exact ⟨n + 1, by omega, by go_num, by rw [Hid, ha.out, HT.out, dataFind_no HP.out]⟩
            case measure => simp [intOf]; omega
          · have HR := Lib.hid (show dataRes s = (b64Run s.data.toList (headOf e).size, true) by rw [HN.out, ha.out, HT.out, dataFind_yes hb])
            have hsz := startsB_size hb
            have HP := Lib.hid hb
            clear hb
            go_wp2_with fail
            refine (specStarts_calls s (headOf e) _).mono ?_
            rintro x w' ⟨rfl, rfl⟩
            have hp := HP.out
            have ehd : ({ data := #[100, 97, 116, 97, 58] } ++ e ++ { data := #[59, 98, 97, 115, 101, 54, 52, 44] } : ByteArray) = headOf e := rfl
            rw [ehd]
            generalize headOf e = hd at HR hsz hp HP ⊢
            clear ehd hc'
            go_wp2
            clear hp
            go_loop [9] (fun i => ∃ m : Nat, hd.size ≤ m ∧ m ≤ s.size ∧ i = .int .i64 m ∧ Hid (((s.data.toList.drop hd.size).take (m - hd.size)).all b64S = true)) (fun i => s.size - (intOf i).toNat)
            case atStart => exact ⟨hd.size, Nat.le_refl _, hsz, rfl, by simp [Hid]⟩
            case round =>
              obtain ⟨m, hm1, hm2, rfl, hall⟩ := hrel
              by_cases hgo : ∃ h : m < s.size, b64S s[m] = true
              · obtain ⟨hlt, hb⟩ := hgo
                have HM := Lib.hid (run_more s b64S hd.size m hm1 hlt hall.out hb)
                have h256 := toNat_lt_256 s[m]
                cases q1 : letterC s[m]
                case' true =>
                  have Q1 := Lib.hid q1
                  clear hb q1
                  go_wp2_with fail
                  refine (specLetter_calls s[m] _).mono ?_
                  rintro x w' ⟨rfl, rfl⟩
                  have q1 := Q1.out
                case' false =>
                  have Q1 := Lib.hid q1
                  cases q2 : digitC s[m]
                  case' true =>
                    have Q2 := Lib.hid q2
                    clear hb q1 q2
                    go_wp2_with fail
                    refine (specLetter_calls s[m] _).mono ?_
                    rintro x w' ⟨rfl, rfl⟩
                    have q1 := Q1.out
                    go_wp2_with fail
                    refine (specFigure_calls s[m] _).mono ?_
                    rintro x w' ⟨rfl, rfl⟩
                    have q2 := Q2.out
                  case' false =>
                    have Q2 := Lib.hid q2
                    rcases (show s[m] = 43 ∨ s[m] = 47 by simpa [b64S, q1, q2] using hb) with q3 | q3
                    case' inl =>
                      have g3 : ((s[m].toNat : Int) == 43) = true := eq_u8 _ _ q3
                    case' inr =>
                      have g3 : ((s[m].toNat : Int) == 43) = false := ne_u8 s[m] 43 (by rw [q3]; decide)
                      have g4 : ((s[m].toNat : Int) == 47) = true := eq_u8 _ _ q3
                    all_goals
                      clear hb q1 q2 q3
                      go_wp2_with fail
                      refine (specLetter_calls s[m] _).mono ?_
                      rintro x w' ⟨rfl, rfl⟩
                      have q1 := Q1.out
                      go_wp2_with fail
                      refine (specFigure_calls s[m] _).mono ?_
                      rintro x w' ⟨rfl, rfl⟩
                      have q2 := Q2.out
                all_goals
                  go_wp2
                  go_round
                  case rel => exact ⟨m + 1, by omega, by omega, by go_num, HM.out⟩
                  case measure => simp [intOf]; omega
              · have hend : ¬ m < s.size ∨ ∃ h : m < s.size, b64S s[m] = false := by
                  by_cases hlt : m < s.size
                  · right
                    refine ⟨hlt, ?_⟩
                    cases hc : b64S s[m]
                    · rfl
                    · exact absurd ⟨hlt, hc⟩ hgo
                  · exact .inl hlt
                have HRUN := Lib.hid (run_at s b64S hd.size m hm1 hall.out hend)
                clear hgo
                rcases hend with hlt | ⟨hlt, hb⟩
                case' inl =>
                  go_wp2
                case' inr =>
                  have q : letterC s[m] = false ∧ digitC s[m] = false ∧ ¬ s[m] = 43 ∧ ¬ s[m] = 47 := by simpa [b64S, and_assoc] using hb
                  have h256 := toNat_lt_256 s[m]
                  have g3 : ((s[m].toNat : Int) == 43) = false := ne_u8 _ _ q.2.2.1
                  have g4 : ((s[m].toNat : Int) == 47) = false := ne_u8 _ _ q.2.2.2
                  have Q1 := Lib.hid q.1
                  have Q2 := Lib.hid q.2.1
                  clear q hb
                  go_wp2_with fail
                  refine (specLetter_calls s[m] _).mono ?_
                  rintro x w' ⟨rfl, rfl⟩
                  have q1 := Q1.out
                  go_wp2_with fail
                  refine (specFigure_calls s[m] _).mono ?_
                  rintro x w' ⟨rfl, rfl⟩
                  have q2 := Q2.out
                  go_wp2
                  clear q1 q2 g3 g4
                all_goals
                  go_loop [10] (fun i => ∃ d : Nat, m ≤ d ∧ d ≤ s.size ∧ i = .int .i64 d ∧ Hid (((s.data.toList.drop m).take (d - m)).all isEq = true)) (fun i => s.size - (intOf i).toNat)
                  case atStart => exact ⟨m, Nat.le_refl _, hm2, rfl, by simp [Hid]⟩
                  case round =>
                    obtain ⟨d, hd1, hd2, rfl, hall2⟩ := hrel
                    by_cases hgo2 : ∃ h : d < s.size, s[d] = 61
                    · obtain ⟨hlt2, hb2⟩ := hgo2
                      have HM := Lib.hid (run_more s isEq m d hd1 hlt2 hall2.out (by rw [hb2]; rfl))
                      have h256' := toNat_lt_256 s[d]
                      have g61 : ((s[d].toNat : Int) == 61) = true := eq_u8 _ _ hb2
                      clear hb2
                      go_wp2
                      go_round
                      case rel => exact ⟨d + 1, by omega, by omega, by go_num, HM.out⟩
                      case measure => simp [intOf]; omega
                    · have hend2 : ¬ d < s.size ∨ ∃ h : d < s.size, isEq s[d] = false := by
                        by_cases hlt2 : d < s.size
                        · right
                          refine ⟨hlt2, ?_⟩
                          cases hc : isEq s[d]
                          · rfl
                          · exact absurd ⟨hlt2, by simpa [isEq] using hc⟩ hgo2
                        · exact .inl hlt2
                      have HRUN2 := Lib.hid (run_at s isEq m d hd1 hall2.out hend2)
                      have HV := Lib.hid (show b64Run s.data.toList hd.size = (decide (hd.size < m) && decide (d = s.size)) by
                        rw [b64Run, HRUN.out.1, HRUN.out.2, HRUN2.out.2, Bool.eq_iff_iff]
                        simp [List.isEmpty_iff, List.drop_eq_nil_iff, List.take_eq_nil_iff]
                        omega)
                      clear hgo2
                      by_cases c1 : hd.size < m
                      case' neg =>
                        have g1 : decide ((hd.size : Int) < (m : Int)) = false := decide_eq_false (by omega)
                        have g2 : decide (hd.size < m) = false := decide_eq_false (by omega)
                      case' pos =>
                        have g1 : decide ((hd.size : Int) < (m : Int)) = true := decide_eq_true (by omega)
                        have g2 : decide (hd.size < m) = true := decide_eq_true (by omega)
                      all_goals
                        rcases hend2 with hlt2 | ⟨hlt2, hb2⟩
                        case' inl =>
                          have g3 : ((d : Int) == (s.size : Int)) = true := by rw [beq_iff_eq]; omega
                          have g4 : decide (d = s.size) = true := decide_eq_true (by omega)
                        case' inr =>
                          have h256' := toNat_lt_256 s[d]
                          have g61 : ((s[d].toNat : Int) == 61) = false := ne_u8 _ _ (by simpa [isEq] using hb2)
                          have g3 : ((d : Int) == (s.size : Int)) = false := by rw [beq_eq_false_iff_ne]; omega
                          have g4 : decide (d = s.size) = false := decide_eq_false (by omega)
                          clear hb2
                        all_goals
                          have HW := Lib.hid (show dataRes s = (_, true) by rw [HR.out, HV.out, g2, g4])
                          clear g2 g4
                          go_wp2
                          go_ret2
                          exact ⟨by rw [HW.out]; rfl, HB2.out⟩
        · have HE := Lib.hid (show dataRes s = (false, false) by rw [HN.out, ha.out, List.drop_eq_nil_of_le (by show 5 ≤ n; omega)]; rfl)
          go_wp2
          go_ret2
          exact ⟨by rw [HE.out]; rfl, HB2.out⟩
end Go.Proofs.Ytmgkolcpomaceaa
