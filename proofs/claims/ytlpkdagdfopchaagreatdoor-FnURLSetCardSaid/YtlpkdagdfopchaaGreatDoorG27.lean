/- spec.measure f14. -/
import Derived.Test.YtlpkdagdfopchaaGreatDoorG26
namespace Go.Proofs.YtlpkdagdfopchaaGreatDoor
open Go.RowKit
set_option linter.unusedVariables false
set_option linter.unusedSimpArgs false

def dotC (c : UInt8) : Bool := decide (c.toNat = 46)
def othC (c : UInt8) : Bool := !digitC c && !dotC c
/-- No i, no n, whether great or small. -/
def plainC (c : UInt8) : Bool := decide (c.toNat ≠ 105) && decide (c.toNat ≠ 73) && decide (c.toNat ≠ 110) && decide (c.toNat ≠ 78)
def headOK (h : List UInt8) : Bool := match h with
  | [] => false
  | a :: _ => plainC a && letterC a
def measH (h : List UInt8) (c : UInt8) : Bool × Bool :=
  if h.countP othC = 0 ∧ letterC c = true then (decide (0 < h.countP digitC) && decide (h.countP dotC ≤ 1), true)
  else (false, decide (h.countP digitC = 0) && decide (h.countP othC = h.length) && letterC c && headOK h)
def measR (l : List UInt8) : Bool × Bool := match l.getLast? with
  | none => (true, true)
  | some c => measH l.dropLast c

def MeasPost (p : Bool × Bool) (w : World) (e : Ending) (w' : World) : Prop := e = .returned (.tuple #[.bool p.1, .bool p.2]) ∧ w' = w

theorem toList_ne {s : ByteArray} (h : 0 < s.size) : s.toList.isEmpty = false := by
  rw [ByteArray.toList_eq]
  cases e : s.data.toList with
  | nil =>
    have : s.data.toList.length = 0 := by rw [e]; rfl
    rw [Array.length_toList] at this
    have : s.size = 0 := this
    omega
  | cons a l => rfl
theorem toList_em {s : ByteArray} (h : s.size = 0) : s.toList.isEmpty = true := by
  rw [ByteArray.toList_eq]
  cases e : s.data.toList with
  | nil => rfl
  | cons a l =>
    have h2 : s.data.toList.length = 0 := by rw [Array.length_toList]; exact h
    rw [e] at h2
    simp at h2
theorem countP_step {p : UInt8 → Bool} (s : ByteArray) (k : Nat) (h : k < s.size) : (s.data.toList.take (k + 1)).countP p = (s.data.toList.take k).countP p + (if p s[k] = true then 1 else 0) := by
  rw [take_succ_byte s k h, List.countP_append]
  simp [List.countP_cons]
theorem countP_le (p : UInt8 → Bool) (l : List UInt8) : l.countP p ≤ l.length := List.countP_le_length

set_option maxHeartbeats 16000000 in
set_option maxRecDepth 100000 in
theorem measH_calls (s : ByteArray) (w : World) (hs : s.size ≤ 2147483647) (h1 : 0 < s.size) (c : UInt8) (hc : c = s[s.size - 1]) (h : ByteArray) (hh : h = s.extract 0 (s.size - 1)) :
    Calls Tryz.prog 14 #[.string s] w (MeasPost (measH h.data.toList c) w) := by
  have hne : ¬ s = ByteArray.empty := fun e => by subst e; simp at h1
  have hne2 : s.toList.isEmpty = false := toList_ne h1
  have hhs : h.size = s.size - 1 := by rw [hh]; simp [ByteArray.size_extract]
  go_enter Tryz.func14, Tryz.ntmps14
  go_wp2_with fail
  rw [← hh]
  have hh' := Lib.hid hh
  have hc' := Lib.hid hc
  have hhb : h.size ≤ 2147483647 := by omega
  clear hh hc hne2 hhs
  have HM : Hid (measH h.data.toList c = measH h.data.toList c) := Lib.hid rfl
  have hlen : Hid (h.data.toList.length = h.size) := Lib.hid (by rw [Array.length_toList]; rfl)
  go_loopw [5, 6, 7, 8] (fun s5 s6 s7 s8 wx => wx = w ∧ ∃ k D F O : Nat, k ≤ h.size ∧ D ≤ k ∧ F ≤ k ∧ O ≤ k ∧ s5 = .int .i64 (D : Int) ∧ s6 = .int .i64 (F : Int) ∧ s7 = .int .i64 (O : Int) ∧ s8 = .int .i64 (k : Int) ∧ Hid ((h.data.toList.take k).countP dotC = D ∧ (h.data.toList.take k).countP digitC = F ∧ (h.data.toList.take k).countP othC = O)) (fun _ _ _ s8 _ => h.size - (intOf s8).toNat)
  case atStart => exact ⟨rfl, 0, 0, 0, 0, by omega, by omega, by omega, by omega, rfl, rfl, rfl, rfl, by simp [Hid]⟩
  case round =>
    obtain ⟨rfl, k, D, F, O, hk, hD, hF, hO, rfl, rfl, rfl, rfl, hcnt⟩ := hrel
    by_cases hlt : k < h.size
    · have st1 := Lib.hid (countP_step (p := dotC) h k hlt)
      have st2 := Lib.hid (countP_step (p := digitC) h k hlt)
      have st3 := Lib.hid (countP_step (p := othC) h k hlt)
      cases hd : digitC h[k] with
      | true =>
        have hnd : Hid (dotC h[k] = false) := Lib.hid (by
          simp [digitC] at hd
          simp [dotC]; omega)
        have hno : Hid (othC h[k] = false) := Lib.hid (by simp [othC, hd])
        have hd' := Lib.hid hd
        clear hd
        go_wp2_with fail
        refine (specFigure_calls h[k] _).mono ?_
        rintro e w1 ⟨rfl, rfl⟩
        rw [hd'.out]
        go_wp2_with fail
        go_roundw
        case rel => exact ⟨(by first | rfl | trivial), k + 1, D, F + 1, O, by omega, by omega, by omega, by omega, rfl, rfl, rfl, rfl, Lib.hid ⟨by rw [st1.out, hcnt.out.1, hnd.out]; rfl, by rw [st2.out, hcnt.out.2.1, hd'.out]; rfl, by rw [st3.out, hcnt.out.2.2, hno.out]; rfl⟩⟩
        case measure => simp [intOf]; omega
      | false =>
        have hd' := Lib.hid hd
        cases hdo : dotC h[k] with
        | true =>
          have hno : Hid (othC h[k] = false) := Lib.hid (by simp [othC, hdo])
          have t46 : ((h[k].toNat : Int) == 46) = true := by simp [dotC] at hdo; simp; omega
          have hdo' := Lib.hid hdo
          clear hd hdo
          go_wp2_with fail
          refine (specFigure_calls h[k] _).mono ?_
          rintro e w1 ⟨rfl, rfl⟩
          rw [hd'.out]
          go_wp2_with fail
          go_roundw
          case rel => exact ⟨(by first | rfl | trivial), k + 1, D + 1, F, O, by omega, by omega, by omega, by omega, rfl, rfl, rfl, rfl, Lib.hid ⟨by rw [st1.out, hcnt.out.1, hdo'.out]; rfl, by rw [st2.out, hcnt.out.2.1, hd'.out]; rfl, by rw [st3.out, hcnt.out.2.2, hno.out]; rfl⟩⟩
          case measure => simp [intOf]; omega
        | false =>
          have hno : Hid (othC h[k] = true) := Lib.hid (by simp [othC, hdo, hd])
          have t46 : ((h[k].toNat : Int) == 46) = false := by simp [dotC] at hdo; simp; omega
          have hdo' := Lib.hid hdo
          clear hd hdo
          go_wp2_with fail
          refine (specFigure_calls h[k] _).mono ?_
          rintro e w1 ⟨rfl, rfl⟩
          rw [hd'.out]
          go_wp2_with fail
          go_roundw
          case rel => exact ⟨(by first | rfl | trivial), k + 1, D, F, O + 1, by omega, by omega, by omega, by omega, rfl, rfl, rfl, rfl, Lib.hid ⟨by rw [st1.out, hcnt.out.1, hdo'.out]; rfl, by rw [st2.out, hcnt.out.2.1, hd'.out]; rfl, by rw [st3.out, hcnt.out.2.2, hno.out]; rfl⟩⟩
          case measure => simp [intOf]; omega
    · have hke : k = h.size := by omega
      have hcn : Hid (h.data.toList.countP dotC = D ∧ h.data.toList.countP digitC = F ∧ h.data.toList.countP othC = O) := Lib.hid (by
        have := hcnt.out
        rwa [List.take_of_length_le (by rw [hlen.out]; omega)] at this)
      clear hcnt
      have hsl : s.size - 1 < s.size := by omega
      have hcl : Hid (s[s.size - 1] = c) := Lib.hid hc'.out.symm
      obtain ⟨R, hR⟩ : ∃ R, R = measH h.data.toList c := ⟨_, rfl⟩
      have hR := Lib.hid hR
      have hRA : Hid (O = 0 ∧ letterC c = true → R = (decide (0 < F) && decide (D ≤ 1), true)) := Lib.hid (fun hh => by
        rw [hR.out, measH, hcn.out.2.2, if_pos hh, hcn.out.2.1, hcn.out.1])
      have hRB : Hid (¬ (O = 0 ∧ letterC c = true) → R = (false, decide (F = 0) && decide (O = h.size) && letterC c && headOK h.data.toList)) := Lib.hid (fun hh => by
        rw [hR.out, measH, hcn.out.2.2, if_neg hh, hcn.out.2.1, hlen.out])
      clear hcn HM
      cases hl : letterC c with
      | true =>
        have hl' := Lib.hid hl
        clear hl
        by_cases hO0 : O = 0
        · subst hO0
          have hRR := Lib.hid (hRA.out ⟨rfl, hl'.out⟩)
          clear hRA hRB
          by_cases hF0 : 0 < F
          · by_cases hD1 : D ≤ 1
            · have tF : decide ((0 : Int) < (F : Int)) = true := by simp; omega
              have tD : decide ((D : Int) ≤ 1) = true := by simp; omega
              have hF0' := Lib.hid hF0
              have hD1' := Lib.hid hD1
              clear hF0 hD1
              go_wp2_with fail
              refine (specLetter_calls s[s.size - 1] _).mono ?_
              rintro e w1 ⟨rfl, rfl⟩
              rw [hcl.out]
              rw [hl'.out]
              go_wp2_with fail
              go_ret2
              exact ⟨by rw [← hR.out, hRR.out]; simp [hF0'.out, hD1'.out], rfl⟩
            · have tF : decide ((0 : Int) < (F : Int)) = true := by simp; omega
              have tD : decide ((D : Int) ≤ 1) = false := by simp; omega
              have hF0' := Lib.hid hF0
              have hD1' := Lib.hid hD1
              clear hF0 hD1
              go_wp2_with fail
              refine (specLetter_calls s[s.size - 1] _).mono ?_
              rintro e w1 ⟨rfl, rfl⟩
              rw [hcl.out]
              rw [hl'.out]
              go_wp2_with fail
              go_ret2
              exact ⟨by rw [← hR.out, hRR.out]; simp [hF0'.out, hD1'.out], rfl⟩
          · have tF : decide ((0 : Int) < (F : Int)) = false := by simp; omega
            have hF0' := Lib.hid hF0
            clear hF0
            go_wp2_with fail
            refine (specLetter_calls s[s.size - 1] _).mono ?_
            rintro e w1 ⟨rfl, rfl⟩
            rw [hcl.out]
            rw [hl'.out]
            go_wp2_with fail
            go_ret2
            exact ⟨by rw [← hR.out, hRR.out]; simp [hF0'.out], rfl⟩
        · have hRR := Lib.hid (hRB.out (fun hh => hO0 hh.1))
          clear hRA hRB
          by_cases hF0 : F = 0
          · subst hF0
            by_cases hOl : O = h.size
            · have h0 : 0 < h.size := by omega
              have t1 : ((O : Int) == (h.size : Int)) = true := by simp; omega
              have hd0 := Lib.hid (drop_byte h 0 h0)
              have hRR2 : Hid (R = (false, plainC h[0] && letterC h[0])) := Lib.hid (by
                have e := hd0.out
                rw [List.drop_zero] at e
                rw [hRR.out, e, hl'.out, decide_eq_true hOl]; rfl)
              clear hRR
              have hRR := hRR2
              have hOl' := Lib.hid hOl
              clear hRR2 hOl
              have hpl : Hid (plainC h[0] = (decide (h[0].toNat ≠ 105) && decide (h[0].toNat ≠ 73) && decide (h[0].toNat ≠ 110) && decide (h[0].toNat ≠ 78))) := Lib.hid rfl
              by_cases e105 : h[0].toNat = 105
              · have u105 : ((h[0].toNat : Int) != 105) = false := by simp; omega
                have hpf : Hid (plainC h[0] = false) := Lib.hid (by rw [hpl.out]; simp [e105])
                clear e105
                go_wp2_with fail
                refine (specLetter_calls s[s.size - 1] _).mono ?_
                rintro e w1 ⟨rfl, rfl⟩
                rw [hcl.out, hl'.out]
                go_wp2_with fail
                go_ret2
                exact ⟨by rw [← hR.out, hRR.out, hpf.out]; rfl, rfl⟩
              · have u105 : ((h[0].toNat : Int) != 105) = true := by simp; omega
                by_cases e73 : h[0].toNat = 73
                · have u73 : ((h[0].toNat : Int) != 73) = false := by simp; omega
                  have hpf : Hid (plainC h[0] = false) := Lib.hid (by rw [hpl.out]; simp [e73])
                  clear e73
                  go_wp2_with fail
                  refine (specLetter_calls s[s.size - 1] _).mono ?_
                  rintro e w1 ⟨rfl, rfl⟩
                  rw [hcl.out, hl'.out]
                  go_wp2_with fail
                  go_ret2
                  exact ⟨by rw [← hR.out, hRR.out, hpf.out]; rfl, rfl⟩
                · have u73 : ((h[0].toNat : Int) != 73) = true := by simp; omega
                  by_cases e110 : h[0].toNat = 110
                  · have u110 : ((h[0].toNat : Int) != 110) = false := by simp; omega
                    have hpf : Hid (plainC h[0] = false) := Lib.hid (by rw [hpl.out]; simp [e110])
                    clear e110
                    go_wp2_with fail
                    refine (specLetter_calls s[s.size - 1] _).mono ?_
                    rintro e w1 ⟨rfl, rfl⟩
                    rw [hcl.out, hl'.out]
                    go_wp2_with fail
                    go_ret2
                    exact ⟨by rw [← hR.out, hRR.out, hpf.out]; rfl, rfl⟩
                  · have u110 : ((h[0].toNat : Int) != 110) = true := by simp; omega
                    by_cases e78 : h[0].toNat = 78
                    · have u78 : ((h[0].toNat : Int) != 78) = false := by simp; omega
                      have hpf : Hid (plainC h[0] = false) := Lib.hid (by rw [hpl.out]; simp [e78])
                      clear e78
                      go_wp2_with fail
                      refine (specLetter_calls s[s.size - 1] _).mono ?_
                      rintro e w1 ⟨rfl, rfl⟩
                      rw [hcl.out, hl'.out]
                      go_wp2_with fail
                      go_ret2
                      exact ⟨by rw [← hR.out, hRR.out, hpf.out]; rfl, rfl⟩
                    · have u78 : ((h[0].toNat : Int) != 78) = true := by simp; omega
                      have hpf : Hid (plainC h[0] = true) := Lib.hid (by rw [hpl.out]; simp [e105, e73, e110, e78])
                      clear e105 e73 e110 e78
                      go_wp2_with fail
                      refine (specLetter_calls s[s.size - 1] _).mono ?_
                      rintro e w1 ⟨rfl, rfl⟩
                      rw [hcl.out, hl'.out]
                      go_wp2_with fail
                      refine (specLetter_calls h[0] _).mono ?_
                      rintro e w1 ⟨rfl, rfl⟩
                      go_wp2_with fail
                      go_ret2
                      exact ⟨by rw [← hR.out, hRR.out, hpf.out]; rfl, rfl⟩
            · have t1 : ((O : Int) == (h.size : Int)) = false := by simp; omega
              have hres := hOl
              have hOl' := Lib.hid hOl
              clear hOl hres
              go_wp2_with fail
              go_ret2
              exact ⟨by rw [← hR.out, hRR.out, decide_eq_false hOl'.out]; simp, rfl⟩
          · have t1 : ((F : Int) == 0) = false := by simp; omega
            have hF0' := Lib.hid hF0
            clear hF0
            go_wp2_with fail
            go_ret2
            exact ⟨by rw [← hR.out, hRR.out, decide_eq_false hF0'.out]; simp, rfl⟩
      | false =>
        have hl' := Lib.hid hl
        have hRR := Lib.hid (hRB.out (fun hh => by rw [hl] at hh; simp at hh))
        have hRR2 : Hid (R = (false, false)) := Lib.hid (by rw [hRR.out, hl]; simp)
        clear hl hRA hRB hRR
        by_cases hO0 : O = 0
        · subst hO0
          by_cases hF0 : F = 0
          · subst hF0
            by_cases hOl : h.size = 0
            · have t1 : ((0 : Int) == (h.size : Int)) = true := by simp; omega
              go_wp2_with fail
              refine (specLetter_calls s[s.size - 1] _).mono ?_
              rintro e w1 ⟨rfl, rfl⟩
              rw [hcl.out, hl'.out]
              go_wp2_with fail
              refine (specLetter_calls s[s.size - 1] _).mono ?_
              rintro e w1 ⟨rfl, rfl⟩
              rw [hcl.out, hl'.out]
              go_wp2_with fail
              go_ret2
              exact ⟨by rw [← hR.out, hRR2.out]; rfl, rfl⟩
            · have t1 : ((0 : Int) == (h.size : Int)) = false := by simp; omega
              go_wp2_with fail
              refine (specLetter_calls s[s.size - 1] _).mono ?_
              rintro e w1 ⟨rfl, rfl⟩
              rw [hcl.out, hl'.out]
              go_wp2_with fail
              go_ret2
              exact ⟨by rw [← hR.out, hRR2.out]; rfl, rfl⟩
          · have t1 : ((F : Int) == 0) = false := by simp; omega
            go_wp2_with fail
            refine (specLetter_calls s[s.size - 1] _).mono ?_
            rintro e w1 ⟨rfl, rfl⟩
            rw [hcl.out, hl'.out]
            go_wp2_with fail
            go_ret2
            exact ⟨by rw [← hR.out, hRR2.out]; rfl, rfl⟩
        · have hOx : ((O : Int) == 0) = false := by simp; omega
          by_cases hF0 : F = 0
          · subst hF0
            by_cases hOl : O = h.size
            · have t1 : ((O : Int) == (h.size : Int)) = true := by simp; omega
              have hOl' := Lib.hid hOl
              clear hOl
              go_wp2_with fail
              refine (specLetter_calls s[s.size - 1] _).mono ?_
              rintro e w1 ⟨rfl, rfl⟩
              rw [hcl.out, hl'.out]
              go_wp2_with fail
              go_ret2
              exact ⟨by rw [← hR.out, hRR2.out]; rfl, rfl⟩
            · have t1 : ((O : Int) == (h.size : Int)) = false := by simp; omega
              go_wp2_with fail
              go_ret2
              exact ⟨by rw [← hR.out, hRR2.out]; rfl, rfl⟩
          · have t1 : ((F : Int) == 0) = false := by simp; omega
            go_wp2_with fail
            go_ret2
            exact ⟨by rw [← hR.out, hRR2.out]; rfl, rfl⟩

end Go.Proofs.YtlpkdagdfopchaaGreatDoor
