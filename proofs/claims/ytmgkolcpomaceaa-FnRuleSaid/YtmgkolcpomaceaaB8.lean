/- Letters and figures; all bytes of a text by a function that is handed in; the first place from one on. -/
import Derived.Test.YtmgkolcpomaceaaB1
namespace Go.Proofs.Ytmgkolcpomaceaa
open Go.RowKit
set_option linter.unusedVariables false
set_option linter.unusedSimpArgs false

def letterC (c : UInt8) : Bool := (decide (97 ≤ c.toNat) && decide (c.toNat ≤ 122)) || (decide (65 ≤ c.toNat) && decide (c.toNat ≤ 90))
def digitC (c : UInt8) : Bool := decide (48 ≤ c.toNat) && decide (c.toNat ≤ 57)
def b64C (c : UInt8) : Bool := (decide (97 ≤ c.toNat) && decide (c.toNat ≤ 122)) || digitC c || c == 43 || c == 47
theorem u8_beq (c d : UInt8) : ((c.toNat : Int) == (d.toNat : Int)) = (c == d) := by
  rw [Bool.eq_iff_iff]; simp [← UInt8.toNat_inj]; omega

set_option maxHeartbeats 1000000 in
set_option maxRecDepth 100000 in
theorem specLetter_calls (c : UInt8) (w : World) : Calls Try.prog 66 #[.int .u8 (c.toNat : Int)] w fun e w' => e = .returned (.bool (letterC c)) ∧ w = w' := by
  have h256 := c.toNat_lt
  go_each [97 ≤ c.toNat, c.toNat ≤ 122, 65 ≤ c.toNat, c.toNat ≤ 90] => (
    go_enter Try.func66, Try.ntmps66
    go_wp2
    go_ret
    exact ⟨ret_bool (by first | (rw [Bool.eq_iff_iff]; simp [letterC]; done) | (rw [Bool.eq_iff_iff]; simp [letterC]; omega)), rfl⟩)

set_option maxHeartbeats 1000000 in
set_option maxRecDepth 100000 in
theorem zzLetter_calls (c : UInt8) (w : World) : Calls Try.prog 145 #[.int .u8 (c.toNat : Int)] w fun e w' => e = .returned (.bool (letterC c)) ∧ w = w' := by
  have h256 := c.toNat_lt
  go_each [97 ≤ c.toNat, c.toNat ≤ 122, 65 ≤ c.toNat, c.toNat ≤ 90] => (
    go_enter Try.func145, Try.ntmps145
    go_wp2
    go_ret
    exact ⟨ret_bool (by first | (rw [Bool.eq_iff_iff]; simp [letterC]; done) | (rw [Bool.eq_iff_iff]; simp [letterC]; omega)), rfl⟩)

set_option maxHeartbeats 1000000 in
set_option maxRecDepth 100000 in
theorem specFigure_calls (c : UInt8) (w : World) : Calls Try.prog 75 #[.int .u8 (c.toNat : Int)] w fun e w' => e = .returned (.bool (digitC c)) ∧ w = w' := by
  have h256 := c.toNat_lt
  go_each [48 ≤ c.toNat, c.toNat ≤ 57] => (
    go_enter Try.func75, Try.ntmps75
    go_wp2
    go_ret
    exact ⟨ret_bool (by first | (rw [Bool.eq_iff_iff]; simp [digitC]; done) | (rw [Bool.eq_iff_iff]; simp [digitC]; omega)), rfl⟩)

set_option maxHeartbeats 1000000 in
set_option maxRecDepth 100000 in
theorem zzDigit_calls (c : UInt8) (w : World) : Calls Try.prog 146 #[.int .u8 (c.toNat : Int)] w fun e w' => e = .returned (.bool (digitC c)) ∧ w = w' := by
  have h256 := c.toNat_lt
  go_each [48 ≤ c.toNat, c.toNat ≤ 57] => (
    go_enter Try.func146, Try.ntmps146
    go_wp2
    go_ret
    exact ⟨ret_bool (by first | (rw [Bool.eq_iff_iff]; simp [digitC]; done) | (rw [Bool.eq_iff_iff]; simp [digitC]; omega)), rfl⟩)

set_option maxHeartbeats 400000 in
set_option maxRecDepth 100000 in
theorem zzAll_calls (m : FuncId) (p : UInt8 → Bool) (hcf : Enters m)
    (hm : Hid (∀ (c : UInt8) (w : World), Calls Try.prog m #[.int .u8 (c.toNat : Int)] w fun e w' => e = .returned (.bool (p c)) ∧ Below w.heap.size w w'))
    (s : ByteArray) (w : World) (hs : s.size ≤ 2147483647) :
    Calls Try.prog 143 #[.string s, .func (.func m) #[] #[]] w fun e w' => e = .returned (.bool (s.data.toList.all p)) ∧ Below w.heap.size w w' := by
  unfold Enters at hcf
  go_enter Try.func143, Try.ntmps143
  go_wp2
  go_loopw [5] (fun i wr => ∃ k : Nat, k ≤ s.size ∧ i = .int .i64 k ∧ Hid ((s.data.toList.take k).all p = true) ∧ Hid (Below w.heap.size w wr)) (fun i _ => s.size - (intOf i).toNat)
  case atStart => exact ⟨0, Nat.zero_le _, rfl, by simp [Hid], Below.refl _ _⟩
  case round =>
    obtain ⟨k, hk, rfl, ha, hB⟩ := hrel
    by_cases hlt : k < s.size
    · have H := Lib.hid (all_take_succ (p := p) s k hlt)
      cases hp : p s[k]
      · have HP := Lib.hid hp
        clear hp
        go_wp2_with fail
        refine (hm.out s[k] _).mono ?_
        rintro e w' ⟨rfl, hb⟩
        have hp := HP.out
        go_wp2
        go_ret
        exact ⟨ret_bool (by rw [all_false_of s k hlt hp]), below_then hB.out hB.out.size hb⟩
      · have HP := Lib.hid hp
        clear hp
        go_wp2_with fail
        refine (hm.out s[k] _).mono ?_
        rintro e w' ⟨rfl, hb⟩
        have hp := HP.out
        go_wp2
        go_roundw
        case rel => exact ⟨k + 1, by omega, by go_num, by rw [Hid, H.out, ha.out, HP.out]; rfl, below_then hB.out hB.out.size hb⟩
        case measure => simp [intOf]; omega
    · go_wp2
      go_ret
      exact ⟨ret_bool (by rw [all_of_take s k (by omega) ha.out]), hB.out⟩

set_option maxHeartbeats 400000 in
set_option maxRecDepth 100000 in
theorem specAll_calls (m : FuncId) (p : UInt8 → Bool) (hcf : Enters m)
    (hm : Hid (∀ (c : UInt8) (w : World), Calls Try.prog m #[.int .u8 (c.toNat : Int)] w fun e w' => e = .returned (.bool (p c)) ∧ Below w.heap.size w w'))
    (s : ByteArray) (w : World) (hs : s.size ≤ 2147483647) :
    Calls Try.prog 138 #[.string s, .func (.func m) #[] #[]] w fun e w' => e = .returned (.bool (s.data.toList.all p)) ∧ Below w.heap.size w w' := by
  unfold Enters at hcf
  go_enter Try.func138, Try.ntmps138
  go_wp2
  go_loopw [5] (fun i wr => ∃ k : Nat, k ≤ s.size ∧ i = .int .i64 k ∧ Hid ((s.data.toList.take k).all p = true) ∧ Hid (Below w.heap.size w wr)) (fun i _ => s.size - (intOf i).toNat)
  case atStart => exact ⟨0, Nat.zero_le _, rfl, by simp [Hid], Below.refl _ _⟩
  case round =>
    obtain ⟨k, hk, rfl, ha, hB⟩ := hrel
    by_cases hlt : k < s.size
    · have H := Lib.hid (all_take_succ (p := p) s k hlt)
      cases hp : p s[k]
      · have HP := Lib.hid hp
        clear hp
        go_wp2_with fail
        refine (hm.out s[k] _).mono ?_
        rintro e w' ⟨rfl, hb⟩
        have hp := HP.out
        go_wp2
        go_ret
        exact ⟨ret_bool (by rw [all_false_of s k hlt hp]), below_then hB.out hB.out.size hb⟩
      · have HP := Lib.hid hp
        clear hp
        go_wp2_with fail
        refine (hm.out s[k] _).mono ?_
        rintro e w' ⟨rfl, hb⟩
        have hp := HP.out
        go_wp2
        go_roundw
        case rel => exact ⟨k + 1, by omega, by go_num, by rw [Hid, H.out, ha.out, HP.out]; rfl, below_then hB.out hB.out.size hb⟩
        case measure => simp [intOf]; omega
    · go_wp2
      go_ret
      exact ⟨ret_bool (by rw [all_of_take s k (by omega) ha.out]), hB.out⟩

theorem of_same {K : FuncId} {args : Array Value} {v : Value} {w : World} (h : Calls Try.prog K args w fun e w' => e = .returned v ∧ w = w') : Calls Try.prog K args w fun e w' => e = .returned v ∧ Below w.heap.size w w' :=
  h.mono fun _ _ ⟨he, hw⟩ => ⟨he, by rw [← hw]; exact Below.refl _ _⟩
end Go.Proofs.Ytmgkolcpomaceaa
