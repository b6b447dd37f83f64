/- Without commas the pattern of values says what spec.value says. -/
import Derived.Test.YtmgkolcpomaceaaK4
namespace Go.Proofs.Ytmgkolcpomaceaa
open Go.RowKit
set_option linter.unusedVariables false
set_option linter.unusedSimpArgs false

def valR : List UInt8 → Bool
  | [] => true
  | [c] => cssC c || starC c
  | c :: d :: r => (cssC c || (starC c && cssC d)) && valR (d :: r)
theorem valueAt_succ (c : UInt8) (r : List UInt8) (i : Nat) : valueAt (c :: r) (i + 1) = valueAt r i := by
  rw [valueAt, valueAt]
  simp
theorem valueL_cons (c : UInt8) (r : List UInt8) : valueL (c :: r) = (valueAt (c :: r) 0 && valueL r) := by
  rw [valueL, valueL, List.length_cons, List.range_succ_eq_map, List.all_cons, List.all_map]
  congr 2
  funext i
  exact valueAt_succ c r i
theorem valueL_valR : ∀ l : List UInt8, valueL l = valR l
  | [] => rfl
  | [c] => by
    rw [valueL_cons, valR]
    simp [valueAt, starC, valueL]
  | c :: d :: r => by
    rw [valueL_cons, valR, valueL_valR (d :: r)]
    congr 1
theorem star_css {c : UInt8} (h : starC c = true) : cssC c = false := by
  have h1 : ∀ n : Fin 256, starC (UInt8.ofNat n.val) = true → cssC (UInt8.ofNat n.val) = false := by decide +kernel
  have h2 := h1 ⟨c.toNat, c.toNat_lt⟩
  simpa using h2 (by simpa using h)
theorem pat_css {c : UInt8} (h : (c == 44) = false) : patC c = cssC c := by rw [patC, h, Bool.or_false]
theorem regL_valR : ∀ l : List UInt8, l.all (fun c => !(c == 44)) = true → regL l = valR l
  | [], _ => rfl
  | [c], h => by
    have h1 : (c == 44) = false := by simpa using h
    rw [regL, valR, pat_css h1, Bool.or_comm]
  | c :: d :: r, h => by
    have h' := h
    simp only [List.all_cons, Bool.and_eq_true] at h
    have hc : (c == 44) = false := by simpa using h.1
    have hd : (d == 44) = false := by simpa using h.2.1
    cases hs : starC c with
    | false =>
      rw [regL_plain hs, valR, pat_css hc, hs, regL_valR (d :: r) (by simp only [List.all_cons, Bool.and_eq_true]; exact ⟨h.2.1, h.2.2⟩)]
      simp
    | true =>
      rw [regL_star hs, valR, hs, star_css hs, pat_css hd, regL_valR r h.2.2]
      cases r with
      | nil =>
        rw [valR, valR]
        cases cssC d <;> simp
      | cons e r =>
        rw [show valR (d :: e :: r) = ((cssC d || (starC d && cssC e)) && valR (e :: r)) from rfl]
        cases cssC d <;> simp
theorem reg_value (l : List UInt8) (h : saidL l = true) : regL l = valueL l := by
  rw [valueL_valR]
  refine regL_valR l ?_
  rw [List.all_eq_true]
  intro c hc
  obtain ⟨k, hk, rfl⟩ := List.mem_iff_getElem.1 hc
  have h1 := List.all_eq_true.1 h k (by simpa using hk)
  simp only [saidAt, Bool.not_eq_true', Bool.or_eq_false_iff] at h1
  have h2 := h1.1
  rw [List.getD_eq_getElem?_getD, List.getElem?_eq_getElem hk] at h2
  simpa using h2
end Go.Proofs.Ytmgkolcpomaceaa
