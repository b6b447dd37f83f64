/- Slices of pairs that are read; zzFits2. -/
import Derived.Test.YtmgkolcpomaceaaB1
namespace Go.Proofs.Ytmgkolcpomaceaa
open Go.RowKit

abbrev Pr := ByteArray × ByteArray
def PairsAt (w : World) (A : Option Addr) (l : List Pr) : Prop := ∀ k (_ : k < l.length), ∃ ad : Addr, A = some ad ∧ ad.block < w.heap.size ∧ w.cell? (ad.add (k * 2)) = some (.string l[k].1) ∧ w.cell? ⟨(ad.add (k * 2)).block, (ad.add (k * 2)).off + 1, none⟩ = some (.string l[k].2)
theorem PairsAt.below {w w1 : World} {A : Option Addr} {l : List Pr} (h : PairsAt w A l) (hb : Below w.heap.size w w1) : PairsAt w1 A l := fun k hk => by
  obtain ⟨ad, e, hlt, hc, hd⟩ := h k hk
  exact ⟨ad, e, Nat.lt_of_lt_of_le hlt hb.size, (hb.cell (by rw [add_block]; exact hlt)).trans hc, (hb.cell (by simp only; rw [add_block]; exact hlt)).trans hd⟩
def fitB (p : Pr) : Bool := decide (p.1.size ≤ 2147483647) && decide (p.2.size ≤ 2147483647)
def fitsB (l : List Pr) : Bool := decide (l.length ≤ 2147483647) && l.all fitB

set_option maxHeartbeats 400000 in
set_option maxRecDepth 100000 in
theorem zzFits3_calls (a b : ByteArray) (w : World) :
    Calls Try.prog 47 #[.agg #[.string a, .string b]] w fun e w' => e = .returned (.bool (fitB (a, b))) ∧ Below w.heap.size w w' := by
  by_cases h1 : 2147483647 < a.size
  · have g1 : decide (2147483647 < (a.size : Int)) = true := by simp; omega
    have g2 : decide (2147483647 < a.size) = true := by simp; omega
    have HF := Lib.hid (show fitB (a, b) = false by simp [fitB]; omega)
    go_enter Try.func47, Try.ntmps47
    go_wp2
    go_ret
    exact ⟨ret_bool HF.out.symm, (Below.refl _ _).alloc (Nat.le_refl _) _⟩
  · have g1 : decide (2147483647 < (a.size : Int)) = false := by simp; omega
    have g2 : decide (2147483647 < a.size) = false := by simp; omega
    by_cases h2 : 2147483647 < b.size
    · have g3 : decide (2147483647 < (b.size : Int)) = true := by simp; omega
      have g4 : decide (2147483647 < b.size) = true := by simp; omega
      have HF := Lib.hid (show fitB (a, b) = false by simp [fitB]; omega)
      go_enter Try.func47, Try.ntmps47
      go_wp2
      go_ret
      exact ⟨ret_bool HF.out.symm, (Below.refl _ _).alloc (Nat.le_refl _) _⟩
    · have g3 : decide (2147483647 < (b.size : Int)) = false := by simp; omega
      have g4 : decide (2147483647 < b.size) = false := by simp; omega
      have HF := Lib.hid (show fitB (a, b) = true by simp [fitB]; omega)
      go_enter Try.func47, Try.ntmps47
      go_wp2
      go_ret
      exact ⟨ret_bool HF.out.symm, (Below.refl _ _).alloc (Nat.le_refl _) _⟩

set_option maxHeartbeats 400000 in
set_option maxRecDepth 100000 in
theorem zzFits2_calls (l : List Pr) (A : Option Addr) (cap : Nat) (w : World) (hA : Hid (PairsAt w A l)) :
    Calls Try.prog 15 #[.slice A l.length cap] w fun e w' => e = .returned (.bool (fitsB l)) ∧ Below w.heap.size w w' := by
  by_cases h1 : 2147483647 < l.length
  · have g1 : decide (2147483647 < (l.length : Int)) = true := by simp; omega
    have g2 : decide (2147483647 < l.length) = true := by simp; omega
    have HF := Lib.hid (show fitsB l = false by rw [fitsB, decide_eq_false (by omega)]; rfl)
    go_enter Try.func15, Try.ntmps15
    go_wp2
    go_ret
    exact ⟨ret_bool HF.out.symm, Below.refl _ _⟩
  · have g1 : decide (2147483647 < (l.length : Int)) = false := by simp; omega
    have g2 : decide (2147483647 < l.length) = false := by simp; omega
    have HL := Lib.hid (show decide (l.length ≤ 2147483647) = true by simp; omega)
    go_enter Try.func15, Try.ntmps15
    go_wp2
    go_loopw [10] (fun i wr => ∃ k : Nat, k ≤ l.length ∧ i = .int .i64 k ∧ Hid ((l.take k).all fitB = true) ∧ Hid (Below w.heap.size w wr)) (fun i _ => l.length - (intOf i).toNat)
    case atStart => exact ⟨0, Nat.zero_le _, rfl, by simp [Hid], Below.refl _ _⟩
    case round =>
      obtain ⟨k, hk, rfl, ha, hB⟩ := hrel
      by_cases hlt : k < l.length
      · have H := Lib.hid (lall_take_succ (p := fitB) l k hlt)
        obtain ⟨ad, rfl, hblk, hc, hd⟩ := (hA.out.below hB.out) k hlt
        cases hp : fitB l[k]
        · have HP := Lib.hid hp
          clear hp
          go_wp2_with fail
          refine (zzFits3_calls l[k].1 l[k].2 _).mono ?_
          rintro e w' ⟨rfl, hb⟩
          have hp := HP.out
          go_wp2
          go_ret
          exact ⟨ret_bool (by rw [fitsB, lall_false_of l k hlt hp]; simp), below_then hB.out hB.out.size (below_own hb)⟩
        · have HP := Lib.hid hp
          clear hp
          go_wp2_with fail
          refine (zzFits3_calls l[k].1 l[k].2 _).mono ?_
          rintro e w' ⟨rfl, hb⟩
          have hp := HP.out
          go_wp2
          go_roundw
          case rel => exact ⟨k + 1, by omega, by go_num, by rw [Hid, H.out, ha.out, HP.out]; rfl, below_then hB.out hB.out.size (below_own hb)⟩
          case measure => simp [intOf]; omega
      · go_wp2
        go_ret
        exact ⟨ret_bool (by rw [fitsB, lall_of_take l k (by omega) ha.out, HL.out]; rfl), hB.out⟩
end Go.Proofs.Ytmgkolcpomaceaa
