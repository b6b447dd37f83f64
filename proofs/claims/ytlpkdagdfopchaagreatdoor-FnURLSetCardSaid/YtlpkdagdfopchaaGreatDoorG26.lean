/- space f9 and the closures of spec.Set; until f7. -/
import Derived.Test.YtlpkdagdfopchaaGreatDoorG2
namespace Go.Proofs.YtlpkdagdfopchaaGreatDoor
open Go.RowKit
set_option linter.unusedVariables false
set_option linter.unusedSimpArgs false

def spaceC (c : UInt8) : Bool := decide (c.toNat = 9) || decide (c.toNat = 10) || decide (c.toNat = 12) || decide (c.toNat = 13) || decide (c.toNat = 32)
def metaC (c : UInt8) : Bool := spaceC c || decide (c.toNat = 44)
theorem beq_nat (a b : Nat) : ((a : Int) == (b : Int)) = decide (a = b) := by
  by_cases h : a = b
  · subst h; simp
  · have h2 : ((a : Int) == (b : Int)) = false := by simp; omega
    rw [h2, decide_eq_false h]

set_option maxHeartbeats 1000000 in
set_option maxRecDepth 100000 in
theorem space_calls (c : UInt8) (w : World) : Calls Tryz.prog 9 #[.int .u8 (c.toNat : Int)] w fun e w' => e = .returned (.bool (spaceC c)) ∧ w = w' := by
  have hs : Hid (spaceC c = (decide (c.toNat = 9) || decide (c.toNat = 10) || decide (c.toNat = 12) || decide (c.toNat = 13) || decide (c.toNat = 32))) := Lib.hid rfl
  generalize c.toNat = n at *
  generalize spaceC c = S at *
  by_cases hh : n = 9 ∨ n = 10 ∨ n = 12 ∨ n = 13 ∨ n = 32
  · rcases hh with rfl | rfl | rfl | rfl | rfl
    all_goals
      go_enter Tryz.func9, Tryz.ntmps9
      go_wp2_with fail
      go_ret
      exact ⟨ret_bool (by rw [hs.out]; rfl), rfl⟩
  · have h1 : ((n : Int) == 9) = false := by simp; omega
    have h2 : ((n : Int) == 10) = false := by simp; omega
    have h3 : ((n : Int) == 12) = false := by simp; omega
    have h4 : ((n : Int) == 13) = false := by simp; omega
    have h5 : ((n : Int) == 32) = false := by simp; omega
    have hS : Hid (S = false) := Lib.hid (by rw [hs.out, decide_eq_false (by omega), decide_eq_false (by omega), decide_eq_false (by omega), decide_eq_false (by omega), decide_eq_false (by omega)]; rfl)
    clear hh
    go_enter Tryz.func9, Tryz.ntmps9
    go_wp2_with fail
    go_ret
    exact ⟨ret_bool (by rw [hS.out]), rfl⟩

set_option maxHeartbeats 16000000 in
set_option maxRecDepth 100000 in
theorem until_calls (m : FuncId) (p : UInt8 → Bool) (hcf : Enters m)
    (hm : Hid (∀ (c : UInt8) (w : World), Calls Tryz.prog m #[.int .u8 (c.toNat : Int)] w fun e w' => e = .returned (.bool (p c)) ∧ Below w.heap.size w w'))
    (s : ByteArray) (a : Nat) (ha : a ≤ s.size) (w : World) (hs : s.size ≤ 2147483647) :
    Calls Tryz.prog 7 #[.string s, .int .i64 a, .func (.func m) #[] #[]] w fun e w' => e = .returned (.int .i64 ((a + ((s.data.toList.drop a).takeWhile (fun c => !p c)).length : Nat) : Int)) ∧ Below w.heap.size w w' := by
  unfold Enters at hcf
  go_enter Tryz.func7, Tryz.ntmps7
  go_wp2
  go_loopg [1] (s.size - a) (fun gk i wr => ∃ k : Nat, gk = s.size - k ∧ k ≤ s.size ∧ a ≤ k ∧ i = .int .i64 k ∧ Hid (a + ((s.data.toList.drop a).takeWhile (fun c => !p c)).length = k + ((s.data.toList.drop k).takeWhile (fun c => !p c)).length) ∧ Hid (Below w.heap.size w wr))
  case atStart => exact ⟨a, rfl, ha, Nat.le_refl _, rfl, by simp [Hid], Below.refl _ _⟩
  case round =>
    obtain ⟨k, hgk, hk, hak, rfl, hL, hB⟩ := hrel
    by_cases hlt : k < s.size
    · have HD := Lib.hid (drop_byte s k hlt)
      have hgk' := Lib.hid hgk
      clear hgk
      cases hp : p s[k] with
      | true =>
        have Hp := Lib.hid hp
        have hfin : Hid (a + ((s.data.toList.drop a).takeWhile (fun c => !p c)).length = k) := by
          rw [Hid, hL.out, HD.out, List.takeWhile_cons, Hp.out]; simp
        go_wp2_with fail
        refine (hm.out s[k] _).mono ?_
        rintro e w1 ⟨rfl, hb⟩
        go_wp2_with fail
        go_ret
        exact ⟨ret_int (by rw [hfin.out]), below_then hB.out hB.out.size hb⟩
      | false =>
        have Hp := Lib.hid hp
        go_wp2_with fail
        refine (hm.out s[k] _).mono ?_
        rintro e w1 ⟨rfl, hb⟩
        have hbw := Lib.hid hb
        clear hb
        go_wp2_with fail
        go_roundg (s.size - (k + 1))
        case measure => rw [hgk'.out]; omega
        case rel =>
          refine ⟨k + 1, rfl, by omega, by omega, by simp, ?_, below_then hB.out hB.out.size hbw.out⟩
          rw [Hid, hL.out, HD.out, List.takeWhile_cons, Hp.out]; simp; omega
    · have hks : k = s.size := by omega
      have hfin : Hid (a + ((s.data.toList.drop a).takeWhile (fun c => !p c)).length = k) := by
        rw [Hid, hL.out, hks, List.drop_of_length_le (by simp)]; simp
      clear hks hgk
      go_wp2_with fail
      go_ret
      exact ⟨ret_int (by rw [hfin.out]), hB.out⟩

set_option maxRecDepth 100000 in
theorem notSpace8_calls (c : UInt8) (w : World) : Calls Tryz.prog 8 #[.int .u8 (c.toNat : Int)] w fun e w' => e = .returned (.bool (!spaceC c)) ∧ w = w' := by
  go_enter Tryz.func8, Tryz.ntmps8
  go_wp2_with fail
  refine (space_calls c _).mono ?_
  rintro e w1 ⟨rfl, rfl⟩
  go_wp2_with fail
  go_ret
  exact ⟨rfl, rfl⟩
theorem notSpace8_enters : Enters 8 := fun args w => by simp [go_sem, Tryz.func8]
set_option maxRecDepth 100000 in
theorem notSpace10_calls (c : UInt8) (w : World) : Calls Tryz.prog 10 #[.int .u8 (c.toNat : Int)] w fun e w' => e = .returned (.bool (!spaceC c)) ∧ w = w' := by
  go_enter Tryz.func10, Tryz.ntmps10
  go_wp2_with fail
  refine (space_calls c _).mono ?_
  rintro e w1 ⟨rfl, rfl⟩
  go_wp2_with fail
  go_ret
  exact ⟨rfl, rfl⟩
theorem notSpace10_enters : Enters 10 := fun args w => by simp [go_sem, Tryz.func10]
set_option maxRecDepth 100000 in
theorem notSpace12_calls (c : UInt8) (w : World) : Calls Tryz.prog 12 #[.int .u8 (c.toNat : Int)] w fun e w' => e = .returned (.bool (!spaceC c)) ∧ w = w' := by
  go_enter Tryz.func12, Tryz.ntmps12
  go_wp2_with fail
  refine (space_calls c _).mono ?_
  rintro e w1 ⟨rfl, rfl⟩
  go_wp2_with fail
  go_ret
  exact ⟨rfl, rfl⟩
theorem notSpace12_enters : Enters 12 := fun args w => by simp [go_sem, Tryz.func12]
theorem space_enters : Enters 9 := fun args w => by simp [go_sem, Tryz.func9]
set_option maxRecDepth 100000 in
theorem meta_calls (c : UInt8) (w : World) : Calls Tryz.prog 11 #[.int .u8 (c.toNat : Int)] w fun e w' => e = .returned (.bool (metaC c)) ∧ w = w' := by
  have h1 := Lib.hid (show ((c.toNat : Int) == 44) = decide (c.toNat = 44) from beq_nat c.toNat 44)
  have hm : Hid (metaC c = (spaceC c || decide (c.toNat = 44))) := Lib.hid rfl
  cases hs : spaceC c
  · go_enter Tryz.func11, Tryz.ntmps11
    go_wp2_with fail
    refine (space_calls c _).mono ?_
    rintro e w1 ⟨rfl, rfl⟩
    go_wp2_with fail
    go_ret
    exact ⟨ret_bool (by rw [hm.out, hs]; rw [← h1.out]; first | rfl | simp), rfl⟩
  · go_enter Tryz.func11, Tryz.ntmps11
    go_wp2_with fail
    refine (space_calls c _).mono ?_
    rintro e w1 ⟨rfl, rfl⟩
    go_wp2_with fail
    go_ret
    exact ⟨ret_bool (by rw [hm.out, hs]; first | rfl | simp), rfl⟩
theorem meta_enters : Enters 11 := fun args w => by simp [go_sem, Tryz.func11]

end Go.Proofs.YtlpkdagdfopchaaGreatDoor
