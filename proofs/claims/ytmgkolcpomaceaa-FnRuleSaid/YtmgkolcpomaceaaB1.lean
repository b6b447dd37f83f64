/- Slices of strings that are read; isShort, isPlain; IndexFunc and ContainsFunc over strings. -/
import Derived.Test.YtmgkolcpomaceaaB0
namespace Go.Proofs.Ytmgkolcpomaceaa
open Go.RowKit

def StrsAt (w : World) (A : Option Addr) (l : List ByteArray) : Prop := ∀ k (_ : k < l.length), ∃ ad : Addr, A = some ad ∧ ad.block < w.heap.size ∧ w.cell? (ad.add k) = some (.string l[k])
theorem add_block (a : Addr) (n : Nat) : (a.add n).block = a.block := by unfold Addr.add; split <;> rfl
theorem StrsAt.below {w w1 : World} {A : Option Addr} {l : List ByteArray} (h : StrsAt w A l) (hb : Below w.heap.size w w1) : StrsAt w1 A l := fun k hk => by
  obtain ⟨ad, e, hlt, hc⟩ := h k hk
  exact ⟨ad, e, Nat.lt_of_lt_of_le hlt hb.size, (hb.cell (by rw [add_block]; exact hlt)).trans hc⟩
theorem strsAt_new (w : World) (g : Nat) (l : List ByteArray) (T : TypeId) (hg : g = w.heap.size) : StrsAt (w.alloc (.cells (l.map Value.string).toArray T)) (some ⟨g, 0, none⟩) l := fun k hk => by
  subst hg
  refine ⟨_, rfl, by simp, ?_⟩
  have : (⟨w.heap.size, 0, none⟩ : Addr).add k = ⟨w.heap.size, k, none⟩ := by unfold Addr.add; split <;> simp_all
  rw [this]
  simp [go_sem, hk]
theorem any_take_succ {α : Type} {p : α → Bool} (l : List α) (k : Nat) (h : k < l.length) : (l.take (k + 1)).any p = ((l.take k).any p || p l[k]) := by
  rw [List.take_succ_eq_append_getElem h, List.any_append]; simp only [List.any_cons, List.any_nil, Bool.or_false]
theorem any_true_of {α : Type} {p : α → Bool} (l : List α) (k : Nat) (h : k < l.length) (hp : p l[k] = true) : l.any p = true := by
  rw [List.any_eq_true]; exact ⟨l[k], List.getElem_mem _, hp⟩
theorem any_of_take {α : Type} {p : α → Bool} (l : List α) (k : Nat) (h : l.length ≤ k) (ha : (l.take k).any p = false) : l.any p = false := by
  rwa [List.take_of_length_le h] at ha
theorem lall_take_succ {α : Type} {p : α → Bool} (l : List α) (k : Nat) (h : k < l.length) : (l.take (k + 1)).all p = ((l.take k).all p && p l[k]) := by
  rw [List.take_succ_eq_append_getElem h, List.all_append]; simp only [List.all_cons, List.all_nil, Bool.and_true]
theorem lall_false_of {α : Type} {p : α → Bool} (l : List α) (k : Nat) (h : k < l.length) (hp : p l[k] = false) : l.all p = false := by
  rw [List.all_eq_false]; exact ⟨l[k], List.getElem_mem _, by simp [hp]⟩
theorem lall_of_take {α : Type} {p : α → Bool} (l : List α) (k : Nat) (h : l.length ≤ k) (ha : (l.take k).all p = true) : l.all p = true := by
  rwa [List.take_of_length_le h] at ha

def smallB (s : ByteArray) : Bool := decide (s.size ≤ 200)
def shortB (l : List ByteArray) : Bool := l.all smallB && decide (l.length ≤ 20)
def asciiC (c : UInt8) : Bool := decide (c.toNat ≤ 127)
def asciiB (s : ByteArray) : Bool := s.data.toList.all asciiC
def plainB (l : List ByteArray) : Bool := l.all asciiB && shortB l

set_option maxHeartbeats 400000 in
set_option maxRecDepth 100000 in
theorem isShort_calls (l : List ByteArray) (A : Option Addr) (cap : Nat) (w : World) (hA : Hid (StrsAt w A l)) (hl : l.length ≤ 2147483647) :
    Calls Try.prog 50 #[.slice A l.length cap] w fun e w' => e = .returned (.bool (shortB l)) ∧ w = w' := by
  go_enter Try.func50, Try.ntmps50
  go_wp2
  go_loop [7] (fun i => ∃ k : Nat, k ≤ l.length ∧ i = .int .i64 k ∧ Hid ((l.take k).all smallB = true)) (fun i => l.length - (intOf i).toNat)
  case atStart => exact ⟨0, Nat.zero_le _, rfl, by simp [Hid]⟩
  case round =>
    obtain ⟨k, hk, rfl, ha⟩ := hrel
    by_cases hlt : k < l.length
    · have H := Lib.hid (lall_take_succ (p := smallB) l k hlt)
      obtain ⟨ad, rfl, hblk, hc⟩ := hA.out k hlt
      by_cases h1 : 200 < l[k].size
      · have h1' : decide (200 < (l[k].size : Int)) = true := by simp; omega
        have h1'' : decide (200 < l[k].size) = true := by simp; omega
        go_wp2
        go_ret
        exact ⟨ret_bool (by rw [shortB, lall_false_of l k hlt (by simp [smallB]; omega)]; rfl), rfl⟩
      · have h1' : decide (200 < (l[k].size : Int)) = false := by simp; omega
        have h1'' : decide (200 < l[k].size) = false := by simp; omega
        go_wp2
        go_round
        case rel => exact ⟨k + 1, by omega, by go_num, by rw [Hid, H.out, ha.out]; simp [smallB]; omega⟩
        case measure => simp [intOf]; omega
    · go_wp2
      go_ret
      exact ⟨ret_bool (by rw [shortB, lall_of_take l k (by omega) ha.out]; simp; omega), rfl⟩

set_option maxHeartbeats 400000 in
set_option maxRecDepth 100000 in
theorem isPlain_calls (l : List ByteArray) (A : Option Addr) (cap : Nat) (w : World) (hA : Hid (StrsAt w A l)) (hl : l.length ≤ 2147483647) (hs : Hid (∀ s ∈ l, s.size ≤ 2147483647)) :
    Calls Try.prog 58 #[.slice A l.length cap] w fun e w' => e = .returned (.bool (plainB l)) ∧ w = w' := by
  go_enter Try.func58, Try.ntmps58
  go_wp2
  go_loop [8] (fun i => ∃ k : Nat, k ≤ l.length ∧ i = .int .i64 k ∧ Hid ((l.take k).all asciiB = true)) (fun i => l.length - (intOf i).toNat)
  case atStart => exact ⟨0, Nat.zero_le _, rfl, by simp [Hid]⟩
  case round =>
    obtain ⟨k, hk, rfl, ha⟩ := hrel
    by_cases hlt : k < l.length
    · have H := Lib.hid (lall_take_succ (p := asciiB) l k hlt)
      obtain ⟨ad, rfl, hblk, hc⟩ := hA.out k hlt
      obtain ⟨s, hsk⟩ : ∃ s, s = l[k] := ⟨_, rfl⟩
      rw [← hsk] at hc H
      have hsz : s.size ≤ 2147483647 := by rw [hsk]; exact hs.out _ (List.getElem_mem _)
      have HS := Lib.hid hsk
      clear hsk
      go_wp2
      go_loop [5] (fun i => ∃ j : Nat, j ≤ s.size ∧ i = .int .i64 j ∧ Hid ((s.data.toList.take j).all asciiC = true)) (fun i => s.size - (intOf i).toNat)
      case atStart => exact ⟨0, Nat.zero_le _, rfl, by simp [Hid]⟩
      case round =>
        obtain ⟨j, hj, rfl, hb⟩ := hrel
        by_cases hjt : j < s.size
        · have HJ := Lib.hid (all_take_succ (p := asciiC) s j hjt)
          by_cases h1 : 127 < s[j].toNat
          · have h1' : decide (127 < (s[j].toNat : Int)) = true := by simp; omega
            go_wp2
            go_ret
            exact ⟨ret_bool (by rw [plainB, lall_false_of l k hlt (by rw [← HS.out]; exact all_false_of s j hjt (by simp [asciiC]; omega))]; rfl), rfl⟩
          · have h1' : decide (127 < (s[j].toNat : Int)) = false := by simp; omega
            go_wp2
            go_round
            case rel => exact ⟨j + 1, by omega, by go_num, by rw [Hid, HJ.out, hb.out]; simp [asciiC]; omega⟩
            case measure => simp [intOf]; omega
        · go_wp2
          go_round
          case rel => exact ⟨k + 1, by omega, by go_num, by rw [Hid, H.out, ha.out]; exact all_of_take s j (by omega) hb.out⟩
          case measure => simp [intOf]; omega
    · go_wp2_with fail
      refine (isShort_calls l A cap _ hA hl).mono ?_
      rintro e w' ⟨rfl, rfl⟩
      go_wp2
      go_ret
      exact ⟨ret_bool (by rw [plainB, lall_of_take l k (by omega) ha.out]; rfl), rfl⟩

theorem isShort_one (s : ByteArray) (A : Option Addr) (cap : Nat) (w : World) (hA : Hid (StrsAt w A [s])) :
    Calls Try.prog 50 #[.slice A 1 cap] w fun e w' => e = .returned (.bool (smallB s)) ∧ w = w' := by
  have h := isShort_calls [s] A cap w hA (by simp)
  rw [show shortB [s] = smallB s from by simp [shortB]] at h
  exact h
theorem isShort_two (s t : ByteArray) (A : Option Addr) (cap : Nat) (w : World) (hA : Hid (StrsAt w A [s, t])) :
    Calls Try.prog 50 #[.slice A 2 cap] w fun e w' => e = .returned (.bool (smallB s && smallB t)) ∧ w = w' := by
  have h := isShort_calls [s, t] A cap w hA (by simp)
  rw [show shortB [s, t] = (smallB s && smallB t) from by simp [shortB]] at h
  exact h
theorem isPlain_one (s : ByteArray) (A : Option Addr) (cap : Nat) (w : World) (hA : Hid (StrsAt w A [s])) (hs : s.size ≤ 2147483647) :
    Calls Try.prog 58 #[.slice A 1 cap] w fun e w' => e = .returned (.bool (asciiB s && smallB s)) ∧ w = w' := by
  have h := isPlain_calls [s] A cap w hA (by simp) (by intro x hx; simp at hx; subst hx; exact hs)
  rw [show plainB [s] = (asciiB s && smallB s) from by simp [plainB, shortB]] at h
  exact h
theorem isPlain_two (s t : ByteArray) (A : Option Addr) (cap : Nat) (w : World) (hA : Hid (StrsAt w A [s, t])) (hs : s.size ≤ 2147483647) (ht : t.size ≤ 2147483647) :
    Calls Try.prog 58 #[.slice A 2 cap] w fun e w' => e = .returned (.bool ((asciiB s && asciiB t) && (smallB s && smallB t))) ∧ w = w' := by
  have h := isPlain_calls [s, t] A cap w hA (by simp) (by intro x hx; simp at hx; rcases hx with rfl | rfl <;> assumption)
  rw [show plainB [s, t] = ((asciiB s && asciiB t) && (smallB s && smallB t)) from by simp [plainB, shortB]] at h
  exact h

/-- A place is told: not below 0 just where one of the list is so. -/
def IdxIs (b : Bool) (w : World) (e : Ending) (w' : World) : Prop := ∃ r : Int, e = .returned (.int .i64 r) ∧ decide (0 ≤ r) = b ∧ Below w.heap.size w w'

set_option maxHeartbeats 400000 in
set_option maxRecDepth 100000 in
theorem indexStr_calls (m : FuncId) (p : ByteArray → Bool) (l : List ByteArray) (hcf : Enters m)
    (hm : Hid (∀ s ∈ l, ∀ w : World, Calls Try.prog m #[.string s] w fun e w' => e = .returned (.bool (p s)) ∧ Below w.heap.size w w'))
    (A : Option Addr) (cap : Nat) (w : World) (hA : Hid (StrsAt w A l)) (hl : l.length ≤ 2147483647) :
    Calls Try.prog 90 #[.slice A l.length cap, .func (.func m) #[] #[]] w (IdxIs (l.any p) w) := by
  unfold Enters at hcf
  go_enter Try.func90, Try.ntmps90
  go_wp2
  go_loopw [8] (fun i wr => ∃ k : Nat, k ≤ l.length ∧ i = .int .i64 k ∧ Hid ((l.take k).any p = false) ∧ Hid (Below w.heap.size w wr)) (fun i _ => l.length - (intOf i).toNat)
  case atStart => exact ⟨0, Nat.zero_le _, rfl, by simp [Hid], Below.refl _ _⟩
  case round =>
    obtain ⟨k, hk, rfl, ha, hB⟩ := hrel
    by_cases hlt : k < l.length
    · have H := Lib.hid (any_take_succ (p := p) l k hlt)
      obtain ⟨ad, rfl, hblk, hc⟩ := (hA.out.below hB.out) k hlt
      cases hp : p l[k]
      · have HP := Lib.hid hp
        clear hp
        go_wp2_with fail
        refine (hm.out l[k] (List.getElem_mem _) _).mono ?_
        rintro e w' ⟨rfl, hb⟩
        have hp := HP.out
        go_wp2
        go_roundw
        case rel => exact ⟨k + 1, by omega, by go_num, by rw [Hid, H.out, ha.out, hp]; rfl, below_then hB.out hB.out.size hb⟩
        case measure => simp [intOf]; omega
      · have HP := Lib.hid hp
        clear hp
        go_wp2_with fail
        refine (hm.out l[k] (List.getElem_mem _) _).mono ?_
        rintro e w' ⟨rfl, hb⟩
        have hp := HP.out
        go_wp2
        go_ret
        exact ⟨k, rfl, by rw [any_true_of l k hlt hp]; simp, below_then hB.out hB.out.size hb⟩
    · go_wp2
      go_ret
      exact ⟨-1, rfl, by rw [any_of_take l k (by omega) ha.out]; rfl, hB.out⟩

set_option maxHeartbeats 400000 in
set_option maxRecDepth 100000 in
theorem containsStr_calls (m : FuncId) (p : ByteArray → Bool) (l : List ByteArray) (hcf : Enters m)
    (hm : Hid (∀ s ∈ l, ∀ w : World, Calls Try.prog m #[.string s] w fun e w' => e = .returned (.bool (p s)) ∧ Below w.heap.size w w'))
    (A : Option Addr) (cap : Nat) (w : World) (hA : Hid (StrsAt w A l)) (hl : l.length ≤ 2147483647) :
    Calls Try.prog 48 #[.slice A l.length cap, .func (.func m) #[] #[]] w fun e w' => e = .returned (.bool (l.any p)) ∧ Below w.heap.size w w' := by
  go_enter Try.func48, Try.ntmps48
  go_wp2_with fail
  refine (indexStr_calls m p l hcf hm A cap _ hA hl).mono ?_
  rintro e w' ⟨r, rfl, hr, hb⟩
  have HR := Lib.hid hr
  clear hr
  go_wp2
  go_ret
  exact ⟨ret_bool HR.out, hb⟩

end Go.Proofs.Ytmgkolcpomaceaa
