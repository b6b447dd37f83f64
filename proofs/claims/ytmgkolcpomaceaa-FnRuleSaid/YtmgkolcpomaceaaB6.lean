/- What begins with what: the three functions that tell whether a text begins with another. -/
import Derived.Test.YtmgkolcpomaceaaB1
namespace Go.Proofs.Ytmgkolcpomaceaa
open Go.RowKit

def startsL (l p : List UInt8) : Bool := p.isPrefixOf l
def startsB (s p : ByteArray) : Bool := startsL s.data.toList p.data.toList
theorem startsB_short {s p : ByteArray} (h : s.size < p.size) : startsB s p = false := by
  rw [startsB, startsL, Bool.eq_false_iff]
  intro he
  have := (List.isPrefixOf_iff_prefix.1 he).length_le
  simp at this; omega
theorem startsB_eq {s p : ByteArray} : ((s.extract 0 p.size).toList == p.toList) = startsB s p := by
  rw [ByteArray.toList_eq, ByteArray.toList_eq, Lib.extract_data, List.drop_zero, Nat.sub_zero, startsB, startsL, Bool.eq_iff_iff, beq_iff_eq, List.isPrefixOf_iff_prefix, List.prefix_iff_eq_take]
  simp [eq_comm]

set_option maxRecDepth 100000 in
theorem zzStarts_calls (s p : ByteArray) (w : World) :
    Calls Try.prog 134 #[.string s, .string p] w fun x w' => x = .returned (.bool (startsB s p)) ∧ w = w' := by
  by_cases h : p.size ≤ s.size
  · have h1 : decide ((p.size : Int) ≤ (s.size : Int)) = true := by simp; omega
    have h2 : decide (p.size ≤ s.size) = true := by simp; omega
    go_enter Try.func134, Try.ntmps134
    go_wp2
    go_ret
    exact ⟨ret_bool (startsB_eq), rfl⟩
  · have h1 : decide ((p.size : Int) ≤ (s.size : Int)) = false := by simp; omega
    have h2 : decide (p.size ≤ s.size) = false := by simp; omega
    have HE := Lib.hid (startsB_short (s := s) (p := p) (by omega))
    go_enter Try.func134, Try.ntmps134
    go_wp2
    go_ret
    exact ⟨ret_bool HE.out.symm, rfl⟩

set_option maxRecDepth 100000 in
theorem specStarts_calls (s p : ByteArray) (w : World) :
    Calls Try.prog 57 #[.string s, .string p] w fun x w' => x = .returned (.bool (startsB s p)) ∧ w = w' := by
  by_cases h : p.size ≤ s.size
  · have h1 : decide ((p.size : Int) ≤ (s.size : Int)) = true := by simp; omega
    have h2 : decide (p.size ≤ s.size) = true := by simp; omega
    go_enter Try.func57, Try.ntmps57
    go_wp2
    go_ret
    exact ⟨ret_bool (startsB_eq), rfl⟩
  · have h1 : decide ((p.size : Int) ≤ (s.size : Int)) = false := by simp; omega
    have h2 : decide (p.size ≤ s.size) = false := by simp; omega
    have HE := Lib.hid (startsB_short (s := s) (p := p) (by omega))
    go_enter Try.func57, Try.ntmps57
    go_wp2
    go_ret
    exact ⟨ret_bool HE.out.symm, rfl⟩

set_option maxRecDepth 100000 in
theorem utilStarts_calls (s p : ByteArray) (w : World) :
    Calls Try.prog 152 #[.string s, .string p] w fun x w' => x = .returned (.bool (startsB s p)) ∧ w = w' := by
  by_cases h : p.size ≤ s.size
  · have h1 : decide ((p.size : Int) ≤ (s.size : Int)) = true := by simp; omega
    have h2 : decide (p.size ≤ s.size) = true := by simp; omega
    go_enter Try.func152, Try.ntmps152
    go_wp2
    go_ret
    exact ⟨ret_bool (startsB_eq), rfl⟩
  · have h1 : decide ((p.size : Int) ≤ (s.size : Int)) = false := by simp; omega
    have h2 : decide (p.size ≤ s.size) = false := by simp; omega
    have HE := Lib.hid (startsB_short (s := s) (p := p) (by omega))
    go_enter Try.func152, Try.ntmps152
    go_wp2
    go_ret
    exact ⟨ret_bool HE.out.symm, rfl⟩
end Go.Proofs.Ytmgkolcpomaceaa
