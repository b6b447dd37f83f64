/- A text of ASCII with small letters: the three functions that do so. -/
import Derived.Test.YtmgkolcpomaceaaB4
namespace Go.Proofs.Ytmgkolcpomaceaa
open Go.RowKit
set_option linter.unusedVariables false
set_option linter.unusedSimpArgs false

def lowC (c : UInt8) : UInt8 := if 65 ≤ c.toNat ∧ c.toNat ≤ 90 then c + 32 else c
def lowL (l : List UInt8) : List UInt8 := l.map lowC
def lowS (s : ByteArray) : ByteArray := ⟨(lowL s.data.toList).toArray⟩
theorem lowS_data (s : ByteArray) : (lowS s).data.toList = lowL s.data.toList := rfl
theorem lowS_size (s : ByteArray) : (lowS s).size = s.size := by
  show (lowL s.data.toList).toArray.size = s.size
  rw [List.size_toArray, lowL, List.length_map]; simp
theorem lowC_cap {c : UInt8} (h : 65 ≤ c.toNat ∧ c.toNat ≤ 90) : ((lowC c).toNat : Int) = (c.toNat : Int) + 32 := by
  rw [lowC, if_pos h, UInt8.toNat_add]
  have : (32 : UInt8).toNat = 32 := rfl
  omega
theorem lowC_other {c : UInt8} (h : ¬ (65 ≤ c.toNat ∧ c.toNat ≤ 90)) : lowC c = c := by rw [lowC, if_neg h]
/-- Block g of the world w holds the text's bytes, those below place k as small letters. -/
def LowAt (w : World) (g : Nat) (s : ByteArray) (k : Nat) : Prop := ∀ j (h : j < s.size), w.cell? ⟨g, j, none⟩ = some (byteV (if j < k then lowC s[j] else s[j])) ∧ w.frozen? ⟨g, j, none⟩ = false
theorem lowAt_start (w : World) (s : ByteArray) : LowAt (Lib.bytesWorld w 5 s) w.heap.size s 0 := fun j h => by
  refine ⟨by rw [bytesWorld_cell' w 5 s j h]; rfl, ?_⟩
  have hb := Lib.bytesWorld_at_new w 5 s
  have hsz : s.size ≤ (Lib.bytesCells w 5 s).size := by simp [Lib.bytesCells]
  simp only [World.frozen?, hb]
  simp
  omega
theorem LowAt.same {w : World} {g : Nat} {s : ByteArray} {k : Nat} (h : LowAt w g s k) (hk : k < s.size) (hc : lowC s[k] = s[k]) : LowAt w g s (k + 1) := fun j hj => by
  refine ⟨?_, (h j hj).2⟩
  rw [(h j hj).1]
  by_cases e : j = k
  · subst e; simp [hc]
  · have : j < k + 1 ↔ j < k := by omega
    simp [this]
theorem LowAt.set_ {w : World} {g : Nat} {s : ByteArray} {k : Nat} (h : LowAt w g s k) (hk : k < s.size) : LowAt (w.setCell ⟨g, k, none⟩ (byteV (lowC s[k]))) g s (k + 1) := fun j hj => by
  refine ⟨?_, by simpa [go_sem] using (h j hj).2⟩
  by_cases e : j = k
  · subst e
    rw [World.cell?_setCell_same (h := (h j hj).1)]
    simp
  · rw [World.cell?_setCell_other _ _ _ _ (by intro e1; injection e1 with _ e2; exact e e2.symm), (h j hj).1]
    have : j < k + 1 ↔ j < k := by omega
    simp [this]
theorem lowAt_string {w : World} {g cap : Nat} {s : ByteArray} (h : LowAt w g s s.size) : (convert 47 9 (.slice (some ⟨g, 0, none⟩) s.size cap)).run Try.prog w = .ok (.string (lowS s)) w := by
  have hadd : ∀ j, (⟨g, 0, none⟩ : Addr).add j = ⟨g, j, none⟩ := fun j => by unfold Addr.add; split <;> simp_all
  have hl : (lowL s.data.toList).length = s.size := by simp [lowL]
  have := run_convert_bytes_back w 47 9 5 ⟨g, 0, none⟩ cap (lowL s.data.toList) Try.underlying47 Try.underlying5 Try.underlying9 (fun j hj => by
    rw [hl] at hj
    rw [hadd, (h j hj).1]
    simp only [hj, if_true, byteV]
    congr 3
    simp [lowL]
    rfl)
  rw [hl] at this
  exact this

set_option maxHeartbeats 1000000 in
set_option maxRecDepth 100000 in
theorem specLower_calls (s : ByteArray) (w : World) (hs : s.size ≤ 2147483647) :
    Calls Try.prog 61 #[.string s] w fun e w' => e = .returned (.string (lowS s)) ∧ Below w.heap.size w w' := by
  have hcv := fun w => Lib.run_convert_string_bytes (P := Try.prog) w 9 47 5 s Try.underlying9 Try.underlying47 Try.underlying5
  have HB0 := Lib.hid (bytesWorld_below w 5 s)
  have HL0 := Lib.hid (lowAt_start w s)
  go_enter Try.func61, Try.ntmps61
  go_wp2
  clear hcv
  generalize Lib.bytesWorld w 5 s = w0 at HB0 HL0 ⊢
  go_loopw [10] (fun i wr => ∃ k : Nat, k ≤ s.size ∧ i = .int .i64 k ∧ Hid (LowAt wr w.heap.size s k) ∧ Hid (Below w.heap.size w wr)) (fun i _ => s.size - (intOf i).toNat)
  case atStart => exact ⟨0, Nat.zero_le _, rfl, HL0, HB0⟩
  case round =>
    obtain ⟨k, hk, rfl, hL, hB⟩ := hrel
    by_cases hlt : k < s.size
    · obtain ⟨hc, hf⟩ := hL.out k hlt
      simp only [Nat.lt_irrefl, if_false, byteV] at hc
      have h256 := toNat_lt_256 s[k]
      by_cases h1 : 65 ≤ s[k].toNat
      · have g1 : decide (65 ≤ (s[k].toNat : Int)) = true := by simp; omega
        by_cases h2 : s[k].toNat ≤ 90
        · have g2 : decide ((s[k].toNat : Int) ≤ 90) = true := by simp; omega
          have HE := Lib.hid (lowC_cap ⟨h1, h2⟩)
          go_wp2
          go_roundw
          case rel => exact ⟨k + 1, by omega, by go_num, by have h := hL.out.set_ hlt; rw [byteV, HE.out] at h; exact h, hB.out.setCell (Nat.le_refl _) _⟩
          case measure => simp [intOf]; omega
        · have g2 : decide ((s[k].toNat : Int) ≤ 90) = false := by simp; omega
          have HE := Lib.hid (lowC_other (c := s[k]) (by omega))
          go_wp2
          go_roundw
          case rel => exact ⟨k + 1, by omega, by go_num, hL.out.same hlt HE.out, hB⟩
          case measure => simp [intOf]; omega
      · have g1 : decide (65 ≤ (s[k].toNat : Int)) = false := by simp; omega
        have HE := Lib.hid (lowC_other (c := s[k]) (by omega))
        go_wp2
        go_roundw
        case rel => exact ⟨k + 1, by omega, by go_num, hL.out.same hlt HE.out, hB⟩
        case measure => simp [intOf]; omega
    · obtain rfl : k = s.size := by omega
      have hcv := fun cap => lowAt_string (cap := cap) hL.out
      go_wp2
      go_ret
      exact ⟨rfl, hB.out⟩

set_option maxHeartbeats 1000000 in
set_option maxRecDepth 100000 in
theorem zzLower_calls (s : ByteArray) (w : World) (hs : s.size ≤ 2147483647) :
    Calls Try.prog 123 #[.string s] w fun e w' => e = .returned (.string (lowS s)) ∧ Below w.heap.size w w' := by
  have hcv := fun w => Lib.run_convert_string_bytes (P := Try.prog) w 9 47 5 s Try.underlying9 Try.underlying47 Try.underlying5
  have HB0 := Lib.hid (bytesWorld_below w 5 s)
  have HL0 := Lib.hid (lowAt_start w s)
  go_enter Try.func123, Try.ntmps123
  go_wp2
  clear hcv
  generalize Lib.bytesWorld w 5 s = w0 at HB0 HL0 ⊢
  go_loopw [10] (fun i wr => ∃ k : Nat, k ≤ s.size ∧ i = .int .i64 k ∧ Hid (LowAt wr w.heap.size s k) ∧ Hid (Below w.heap.size w wr)) (fun i _ => s.size - (intOf i).toNat)
  case atStart => exact ⟨0, Nat.zero_le _, rfl, HL0, HB0⟩
  case round =>
    obtain ⟨k, hk, rfl, hL, hB⟩ := hrel
    by_cases hlt : k < s.size
    · obtain ⟨hc, hf⟩ := hL.out k hlt
      simp only [Nat.lt_irrefl, if_false, byteV] at hc
      have h256 := toNat_lt_256 s[k]
      by_cases h1 : 65 ≤ s[k].toNat
      · have g1 : decide (65 ≤ (s[k].toNat : Int)) = true := by simp; omega
        by_cases h2 : s[k].toNat ≤ 90
        · have g2 : decide ((s[k].toNat : Int) ≤ 90) = true := by simp; omega
          have HE := Lib.hid (lowC_cap ⟨h1, h2⟩)
          go_wp2
          go_roundw
          case rel => exact ⟨k + 1, by omega, by go_num, by have h := hL.out.set_ hlt; rw [byteV, HE.out] at h; rw [show (s[k].toNat : Int) + 32 = (s[k].toNat : Int) + 97 - 65 from by omega] at h; exact h, hB.out.setCell (Nat.le_refl _) _⟩
          case measure => simp [intOf]; omega
        · have g2 : decide ((s[k].toNat : Int) ≤ 90) = false := by simp; omega
          have HE := Lib.hid (lowC_other (c := s[k]) (by omega))
          go_wp2
          go_roundw
          case rel => exact ⟨k + 1, by omega, by go_num, hL.out.same hlt HE.out, hB⟩
          case measure => simp [intOf]; omega
      · have g1 : decide (65 ≤ (s[k].toNat : Int)) = false := by simp; omega
        have HE := Lib.hid (lowC_other (c := s[k]) (by omega))
        go_wp2
        go_roundw
        case rel => exact ⟨k + 1, by omega, by go_num, hL.out.same hlt HE.out, hB⟩
        case measure => simp [intOf]; omega
    · obtain rfl : k = s.size := by omega
      have hcv := fun cap => lowAt_string (cap := cap) hL.out
      go_wp2
      go_ret
      exact ⟨rfl, hB.out⟩

set_option maxHeartbeats 1000000 in
set_option maxRecDepth 100000 in
theorem utilLower_calls (s : ByteArray) (w : World) (hs : s.size ≤ 2147483647) :
    Calls Try.prog 151 #[.string s] w fun e w' => e = .returned (.string (lowS s)) ∧ Below w.heap.size w w' := by
  have hcv := fun w => Lib.run_convert_string_bytes (P := Try.prog) w 9 47 5 s Try.underlying9 Try.underlying47 Try.underlying5
  have HB0 := Lib.hid (bytesWorld_below w 5 s)
  have HL0 := Lib.hid (lowAt_start w s)
  go_enter Try.func151, Try.ntmps151
  go_wp2
  clear hcv
  generalize Lib.bytesWorld w 5 s = w0 at HB0 HL0 ⊢
  go_loopw [10] (fun i wr => ∃ k : Nat, k ≤ s.size ∧ i = .int .i64 k ∧ Hid (LowAt wr w.heap.size s k) ∧ Hid (Below w.heap.size w wr)) (fun i _ => s.size - (intOf i).toNat)
  case atStart => exact ⟨0, Nat.zero_le _, rfl, HL0, HB0⟩
  case round =>
    obtain ⟨k, hk, rfl, hL, hB⟩ := hrel
    by_cases hlt : k < s.size
    · obtain ⟨hc, hf⟩ := hL.out k hlt
      simp only [Nat.lt_irrefl, if_false, byteV] at hc
      have h256 := toNat_lt_256 s[k]
      by_cases h1 : 65 ≤ s[k].toNat
      · have g1 : decide (65 ≤ (s[k].toNat : Int)) = true := by simp; omega
        by_cases h2 : s[k].toNat ≤ 90
        · have g2 : decide ((s[k].toNat : Int) ≤ 90) = true := by simp; omega
          have HE := Lib.hid (lowC_cap ⟨h1, h2⟩)
          go_wp2
          go_roundw
          case rel => exact ⟨k + 1, by omega, by go_num, by have h := hL.out.set_ hlt; rw [byteV, HE.out] at h; rw [show (s[k].toNat : Int) + 32 = (s[k].toNat : Int) + 97 - 65 from by omega] at h; exact h, hB.out.setCell (Nat.le_refl _) _⟩
          case measure => simp [intOf]; omega
        · have g2 : decide ((s[k].toNat : Int) ≤ 90) = false := by simp; omega
          have HE := Lib.hid (lowC_other (c := s[k]) (by omega))
          go_wp2
          go_roundw
          case rel => exact ⟨k + 1, by omega, by go_num, hL.out.same hlt HE.out, hB⟩
          case measure => simp [intOf]; omega
      · have g1 : decide (65 ≤ (s[k].toNat : Int)) = false := by simp; omega
        have HE := Lib.hid (lowC_other (c := s[k]) (by omega))
        go_wp2
        go_roundw
        case rel => exact ⟨k + 1, by omega, by go_num, hL.out.same hlt HE.out, hB⟩
        case measure => simp [intOf]; omega
    · obtain rfl : k = s.size := by omega
      have hcv := fun cap => lowAt_string (cap := cap) hL.out
      go_wp2
      go_ret
      exact ⟨rfl, hB.out⟩
end Go.Proofs.Ytmgkolcpomaceaa
