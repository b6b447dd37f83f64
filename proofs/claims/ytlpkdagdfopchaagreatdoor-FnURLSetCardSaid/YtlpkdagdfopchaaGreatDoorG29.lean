/- consumeIn f25, consumeNotIn f27. -/
import Derived.Test.YtlpkdagdfopchaaGreatDoorG28
namespace Go.Proofs.YtlpkdagdfopchaaGreatDoor
open Go.RowKit
set_option linter.unusedVariables false
set_option linter.unusedSimpArgs false

/-- A table of 256 answers. -/
structure Mask (M : Array Value) (p : UInt8 → Bool) : Prop where
  size : M.size = 256
  at_ : ∀ c : UInt8, M[c.toNat]? = some (.bool (p c))
theorem whiteMask : Mask whiteA spaceC := ⟨white_size, white_at⟩
theorem metaMask : Mask metaA metaC := ⟨meta_size, meta_at⟩

/-- A text, parted at place k. -/
def TakePost (a b : List UInt8) (w : World) (e : Ending) (w' : World) : Prop := ∃ A B : ByteArray, e = .returned (.tuple #[.string A, .string B]) ∧ A.data.toList = a ∧ B.data.toList = b ∧ Below w.heap.size w w'
theorem ext_take (s : ByteArray) (k : Nat) : (s.extract 0 k).data.toList = s.data.toList.take k := by simp [ByteArray.data_extract]
theorem ext_drop (s : ByteArray) (k : Nat) : (s.extract k s.size).data.toList = s.data.toList.drop k := by
  have : s.size = s.data.toList.length := by rw [Array.length_toList]; rfl
  simp [ByteArray.data_extract]
  rw [this, List.take_of_length_le (by simp)]

set_option maxHeartbeats 2000000 in
set_option maxRecDepth 100000 in
theorem consumeIn_calls (M : Array Value) (p : UInt8 → Bool) (hM : Hid (Mask M p)) (s : ByteArray) (hs : s.size ≤ 2147483647) (w : World) :
    Calls Tryz.prog 25 #[.string s, .agg M] w fun e w' => TakePost (s.data.toList.takeWhile p) (s.data.toList.dropWhile p) w e w' := by
  have HB0 := Lib.hid ((Below.refl w.heap.size w).alloc (Nat.le_refl _) (Obj.cells M 41))
  have HC : Hid (∀ c : UInt8, (w.alloc (Obj.cells M 41)).cell? ⟨w.heap.size, c.toNat, none⟩ = some (.bool (p c))) := Lib.hid (fun c => by rw [World.cell?_alloc_at _ _ _ _ rfl]; exact hM.out.at_ c)
  have hMs := hM.out.size
  have hlen : Hid (s.data.toList.length = s.size) := Lib.hid (by rw [Array.length_toList]; rfl)
  go_enter Tryz.func25, Tryz.ntmps25
  go_wp2_with fail
  generalize hG : w.heap.size = G at HC HB0 ⊢
  generalize w.alloc (Obj.cells M 41) = w2 at HC HB0 ⊢
  have hG := Lib.hid hG
  go_loopw [6] (fun s6 wx => wx = w2 ∧ ∃ k : Nat, k ≤ s.size ∧ s6 = .int .i64 (k : Int) ∧ Hid ((s.data.toList.take k).all p = true)) (fun s6 _ => s.size - (intOf s6).toNat)
  case atStart => exact ⟨rfl, 0, by omega, rfl, by simp [Hid]⟩
  case round =>
    obtain ⟨rfl, k, hk, rfl, hall⟩ := hrel
    by_cases hlt : k < s.size
    · have hcell := HC.out s[k]
      have h256 := s[k].toNat_lt
      have hD := Lib.hid (drop_byte s k hlt)
      cases hp : p s[k] with
      | false =>
        rw [hp] at hcell
        have hw := Lib.hid (while_eq (p := p) s.data.toList k hall.out (fun x hx => by
          have e := congrArg List.head? hD.out
          rw [List.head?_drop, hx] at e
          injection e with e
          subst e
          simp [hp]))
        clear hp
        go_wp2_with fail
        go_quiet (fail)
        have hB2 := Lib.hid (below_drewN HB0.out nq)
        generalize wr.drewN nq = w3 at hB2 ⊢
        go_wp2_with fail
        go_ret2
        exact ⟨_, _, rfl, by rw [hw.out.1]; exact ext_take s k, by rw [hw.out.2]; exact ext_drop s k, by rw [hG.out]; exact hB2.out⟩
      | true =>
        rw [hp] at hcell
        have hnext := Lib.hid (show (s.data.toList.take (k + 1)).all p = true by rw [all_take_succ s k hlt, hall.out, hp]; rfl)
        clear hp
        go_wp2_with fail
        go_roundw
        case rel => exact ⟨(by first | rfl | trivial), k + 1, by omega, rfl, hnext⟩
        case measure => simp [intOf]; omega
    · have hke : Hid (k = s.size) := Lib.hid (by omega)
      have hw := Lib.hid (while_eq (p := p) s.data.toList k hall.out (fun x hx => by
        rw [List.getElem?_eq_none (by rw [hlen.out, hke.out]; exact Nat.le_refl _)] at hx
        cases hx))
      go_wp2_with fail
      go_ret2
      exact ⟨_, _, rfl, by rw [hw.out.1, hke.out, ← hlen.out, List.take_length], by rw [hw.out.2, hke.out, ← hlen.out, List.drop_length], by rw [hG.out]; exact HB0.out⟩

set_option maxHeartbeats 2000000 in
set_option maxRecDepth 100000 in
theorem consumeNotIn_calls (M : Array Value) (p : UInt8 → Bool) (hM : Hid (Mask M p)) (s : ByteArray) (hs : s.size ≤ 2147483647) (w : World) :
    Calls Tryz.prog 27 #[.string s, .agg M] w fun e w' => TakePost (s.data.toList.takeWhile (fun c => !p c)) (s.data.toList.dropWhile (fun c => !p c)) w e w' := by
  have HB0 := Lib.hid ((Below.refl w.heap.size w).alloc (Nat.le_refl _) (Obj.cells M 41))
  have HC : Hid (∀ c : UInt8, (w.alloc (Obj.cells M 41)).cell? ⟨w.heap.size, c.toNat, none⟩ = some (.bool (p c))) := Lib.hid (fun c => by rw [World.cell?_alloc_at _ _ _ _ rfl]; exact hM.out.at_ c)
  have hMs := hM.out.size
  have hlen : Hid (s.data.toList.length = s.size) := Lib.hid (by rw [Array.length_toList]; rfl)
  go_enter Tryz.func27, Tryz.ntmps27
  go_wp2_with fail
  generalize hG : w.heap.size = G at HC HB0 ⊢
  generalize w.alloc (Obj.cells M 41) = w2 at HC HB0 ⊢
  have hG := Lib.hid hG
  go_loopw [6] (fun s6 wx => wx = w2 ∧ ∃ k : Nat, k ≤ s.size ∧ s6 = .int .i64 (k : Int) ∧ Hid ((s.data.toList.take k).all (fun c => !p c) = true)) (fun s6 _ => s.size - (intOf s6).toNat)
  case atStart => exact ⟨rfl, 0, by omega, rfl, by simp [Hid]⟩
  case round =>
    obtain ⟨rfl, k, hk, rfl, hall⟩ := hrel
    by_cases hlt : k < s.size
    · have hcell := HC.out s[k]
      have h256 := s[k].toNat_lt
      have hD := Lib.hid (drop_byte s k hlt)
      cases hp : p s[k] with
      | true =>
        rw [hp] at hcell
        have hw := Lib.hid (while_eq (p := (fun c => !p c)) s.data.toList k hall.out (fun x hx => by
          have e := congrArg List.head? hD.out
          rw [List.head?_drop, hx] at e
          injection e with e
          subst e
          simp [hp]))
        clear hp
        go_wp2_with fail
        go_quiet (fail)
        have hB2 := Lib.hid (below_drewN HB0.out nq)
        generalize wr.drewN nq = w3 at hB2 ⊢
        go_wp2_with fail
        go_ret2
        exact ⟨_, _, rfl, by rw [hw.out.1]; exact ext_take s k, by rw [hw.out.2]; exact ext_drop s k, by rw [hG.out]; exact hB2.out⟩
      | false =>
        rw [hp] at hcell
        have hnext := Lib.hid (show (s.data.toList.take (k + 1)).all (fun c => !p c) = true by rw [all_take_succ s k hlt, hall.out, hp]; rfl)
        clear hp
        go_wp2_with fail
        go_roundw
        case rel => exact ⟨(by first | rfl | trivial), k + 1, by omega, rfl, hnext⟩
        case measure => simp [intOf]; omega
    · have hke : Hid (k = s.size) := Lib.hid (by omega)
      have hw := Lib.hid (while_eq (p := (fun c => !p c)) s.data.toList k hall.out (fun x hx => by
        rw [List.getElem?_eq_none (by rw [hlen.out, hke.out]; exact Nat.le_refl _)] at hx
        cases hx))
      go_wp2_with fail
      go_ret2
      exact ⟨_, _, rfl, by rw [hw.out.1, hke.out, ← hlen.out, List.take_length], by rw [hw.out.2, hke.out, ← hlen.out, List.drop_length], by rw [hG.out]; exact HB0.out⟩

end Go.Proofs.YtlpkdagdfopchaaGreatDoor
