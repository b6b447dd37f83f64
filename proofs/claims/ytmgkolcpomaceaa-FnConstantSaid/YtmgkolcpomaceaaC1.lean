import Derived.Test.YtmgkolcpomaceaaB1
import Derived.Test.YtmgkolcpomaceaaB2
namespace Go.Proofs.Ytmgkolcpomaceaa
open Go.RowKit

def lowB (c : UInt8) : Bool := decide (97 ≤ c.toNat) && decide (c.toNat ≤ 122)
def wordB (s : ByteArray) : Bool := s.data.toList.all lowB && (decide (1 ≤ s.size) && decide (s.size ≤ 10))

set_option maxHeartbeats 400000 in
set_option maxRecDepth 100000 in
theorem words1_calls (s : ByteArray) (w : World) (hs : s.size ≤ 2147483647) :
    Calls Try.prog 49 #[.string s] w fun e w' => e = .returned (.bool (!wordB s)) ∧ Below w.heap.size w w' := by
  have hcv := fun w => Lib.run_convert_string_bytes (P := Try.prog) w 9 47 5 s Try.underlying9 Try.underlying47 Try.underlying5
  have hB := Lib.hid (bytesWorld_below w 5 s)
  go_enter Try.func49, Try.ntmps49
  go_wp2
  go_loop [8] (fun i => ∃ k : Nat, k ≤ s.size ∧ i = .int .i64 k ∧ Hid ((s.data.toList.take k).all lowB = true)) (fun i => s.size - (intOf i).toNat)
  case atStart => exact ⟨0, Nat.zero_le _, rfl, by simp [Hid]⟩
  case round =>
    clear hcv
    obtain ⟨k, hk, rfl, ha⟩ := hrel
    by_cases hlt : k < s.size
    · have H := Lib.hid (all_take_succ (p := lowB) s k hlt)
      have hc := bytesWorld_cell' w 5 s k hlt
      have h256 := toNat_lt_256 s[k]
      by_cases h1 : s[k].toNat < 97
      · have h1' : decide ((s[k].toNat : Int) < 97) = true := by simp; omega
        go_wp2
        go_ret
        exact ⟨ret_bool (by rw [wordB, all_false_of s k hlt (by simp [lowB]; omega)]; rfl), hB.out⟩
      · have h1' : decide ((s[k].toNat : Int) < 97) = false := by simp; omega
        by_cases h2 : 122 < s[k].toNat
        · have h2' : decide (122 < (s[k].toNat : Int)) = true := by simp; omega
          go_wp2
          go_ret
          exact ⟨ret_bool (by rw [wordB, all_false_of s k hlt (by simp [lowB]; omega)]; rfl), hB.out⟩
        · have h2' : decide (122 < (s[k].toNat : Int)) = false := by simp; omega
          go_wp2
          go_round
          case rel => exact ⟨k + 1, by omega, by go_num, by rw [Hid, H.out, ha.out]; simp [lowB]; omega⟩
          case measure => simp [intOf]; omega
    · by_cases h1 : s.size < 1
      · have h1' : decide ((s.size : Int) < 1) = true := by simp; omega
        go_wp2
        go_ret
        exact ⟨ret_bool (by rw [wordB, decide_eq_false (p := 1 ≤ s.size) (by omega)]; simp), hB.out⟩
      · have h1' : decide ((s.size : Int) < 1) = false := by simp; omega
        by_cases h2 : 10 < s.size
        · have h2' : decide (10 < (s.size : Int)) = true := by simp; omega
          go_wp2
          go_ret
          exact ⟨ret_bool (by rw [wordB, decide_eq_false (p := s.size ≤ 10) (by omega)]; simp), hB.out⟩
        · have h2' : decide (10 < (s.size : Int)) = false := by simp; omega
          go_wp2
          go_ret
          exact ⟨ret_bool (by rw [wordB, all_of_take s k (by omega) ha.out]; simp; omega), hB.out⟩

set_option maxHeartbeats 400000 in
set_option maxRecDepth 100000 in
theorem words_calls (l : List ByteArray) (A : Option Addr) (cap : Nat) (w : World) (hA : Hid (StrsAt w A l)) (hl : l.length ≤ 2147483647) (hs : Hid (∀ s ∈ l, s.size ≤ 2147483647)) :
    Calls Try.prog 16 #[.slice A l.length cap] w fun e w' => e = .returned (.bool (l.all wordB)) ∧ Below w.heap.size w w' := by
  go_enter Try.func16, Try.ntmps16
  go_wp2_with fail
  refine (containsStr_calls 49 (fun s => !wordB s) l (fun args w => by simp [go_sem]) (fun s h w => words1_calls s w (hs.out s h)) A cap _ hA hl).mono ?_
  rintro e w' ⟨rfl, hb⟩
  go_wp2
  go_ret
  exact ⟨ret_bool (by rw [List.any_eq_not_all_not]; simp), hb⟩

theorem words_two (a b : ByteArray) (A : Option Addr) (cap : Nat) (w : World) (hA : Hid (StrsAt w A [a, b])) (ha : a.size ≤ 2147483647) (hb : b.size ≤ 2147483647) :
    Calls Try.prog 16 #[.slice A 2 cap] w fun e w' => e = .returned (.bool (wordB a && wordB b)) ∧ Below w.heap.size w w' := by
  have h := words_calls [a, b] A cap w hA (by simp) (by intro x hx; simp at hx; rcases hx with rfl | rfl <;> assumption)
  rw [show [a, b].all wordB = (wordB a && wordB b) from by simp] at h
  exact h
set_option maxHeartbeats 400000 in
set_option maxRecDepth 100000 in
theorem constant_calls (s : ByteArray) (w : World) (hs : s.size ≤ 2147483647) :
    Calls Try.prog 17 #[.string s] w fun x w' => x = .returned (if smallB s && styleB s then .tuple #[.string s, .bool true] else .tuple #[.string ⟨#[]⟩, .bool false]) ∧ Below w.heap.size w w' := by
  have hmf : ∀ (fn : Fn) (first cap : Array Value) (w : World), (Instr.makeFunc fn first cap).run Try.prog w = .ok (.func fn first cap) w := fun _ _ _ _ => rfl
  cases h1 : smallB s
  · have H1 := Lib.hid h1
    clear h1
    go_enter Try.func17, Try.ntmps17
    go_wp2_with fail
    refine (isShort_one s _ _ _ (by exact strsAt_new _ _ [s] 9 (by simp))).mono ?_
    rintro e w' ⟨rfl, rfl⟩
    have h1 := H1.out
    go_wp2
    go_ret2
    exact ⟨rfl, ((Below.refl _ _).alloc (Nat.le_refl _) _).alloc (by simp) _⟩
  · cases h2 : styleB s
    · have H1 := Lib.hid h1
      have H2 := Lib.hid h2
      clear h1 h2
      go_enter Try.func17, Try.ntmps17
      go_wp2_with fail
      refine (isShort_one s _ _ _ (by exact strsAt_new _ _ [s] 9 (by simp))).mono ?_
      rintro e w' ⟨rfl, rfl⟩
      have h1 := H1.out
      go_wp2_with fail
      refine (told_panics 52 _ _ (fun _ _ => by simp [go_sem]) (fun w' hw' => constant1_panics s _ _ hs H2 ?_)).mono ?_
      · rw [hw'.cell (by simp; omega)]; simp [go_sem]
      rintro e w' ⟨rfl, hb⟩
      go_wp2
      go_ret2
      exact ⟨rfl, (((Below.refl _ _).alloc (Nat.le_refl _) _).alloc (by simp) _).trans (hb.mono (by simp; omega))⟩
    · have H1 := Lib.hid h1
      have H2 := Lib.hid h2
      clear h1 h2
      go_enter Try.func17, Try.ntmps17
      go_wp2_with fail
      refine (isShort_one s _ _ _ (by exact strsAt_new _ _ [s] 9 (by simp))).mono ?_
      rintro e w' ⟨rfl, rfl⟩
      have h1 := H1.out
      go_wp2_with fail
      refine (told_tells 52 _ s _ (fun _ _ => by simp [go_sem]) (fun w' hw' => constant1_ok s _ _ hs H2 ?_)).mono ?_
      · rw [hw'.cell (by simp; omega)]; simp [go_sem]
      rintro e w' ⟨rfl, hb⟩
      go_wp2
      go_ret2
      exact ⟨rfl, (((Below.refl _ _).alloc (Nat.le_refl _) _).alloc (by simp) _).trans (hb.mono (by simp; omega))⟩
end Go.Proofs.Ytmgkolcpomaceaa
