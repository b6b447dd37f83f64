/- isOptionalSrcMetadataWellFormed f30. -/
import Derived.Test.YtlpkdagdfopchaaGreatDoorG32
import Derived.Test.YtlpkdagdfopchaaGreatDoorG31
namespace Go.Proofs.YtlpkdagdfopchaaGreatDoor
open Go.RowKit
set_option linter.unusedVariables false
set_option linter.unusedSimpArgs false

structure Env2 (w : World) (C : Nat) : Prop where
  env : Env w C
  err : ∃ te pe, w.cell? ⟨0, 0, none⟩ = some (.iface te pe)
theorem Env2.pos {w : World} {C : Nat} (h : Env2 w C) : 0 < C := by have := h.env.f.flt.1; omega
theorem Env2.below {w w' : World} {C : Nat} (h : Env2 w C) (hb : Below C w w') : Env2 w' C := ⟨h.env.below hb, by
  obtain ⟨te, pe, e⟩ := h.err
  exact ⟨te, pe, by rw [below_cell hb 0 0 h.pos]; exact e⟩⟩
theorem Env2.up {w : World} {C D : Nat} (h : Env2 w C) (hCD : C ≤ D) : Env2 w D := ⟨h.env.up hCD, h.err⟩

theorem measR_pos {m : ByteArray} (h : 0 < m.size) : measR m.data.toList = measH (m.extract 0 (m.size - 1)).data.toList m[m.size - 1] := by
  rw [ext_take, measR]
  conv => lhs; rw [last_byte h]
  rw [List.getLast?_concat]
  simp only []
  rw [List.dropLast_concat]
theorem meas_cases {H : ByteArray} {c : UInt8} {g : Bool} (h : measH H.data.toList c = (g, true)) :
    letterC c = true ∧ ((FigB H ∧ (g = true ↔ Good H)) ∨ (g = false ∧ ∃ h0 : 0 < H.size, letterC H[0] = true ∧ plainC H[0] = true)) := by
  unfold measH at h
  split at h
  · rename_i hc
    injection h with h1 h2
    have hF := figB_count H hc.1
    refine ⟨hc.2, Or.inl ⟨hF, ?_⟩⟩
    rw [← h1, Good, hasFig_count H hF, oneDot_count]
    simp
  · injection h with h1 h2
    simp only [Bool.and_eq_true] at h2
    obtain ⟨⟨⟨a, b⟩, l⟩, k⟩ := h2
    refine ⟨l, Or.inr ⟨h1.symm, ?_⟩⟩
    rcases Nat.eq_zero_or_pos H.size with e | e
    · have : H.data.toList = [] := List.eq_nil_of_length_eq_zero (by rw [len_data]; exact e)
      rw [this] at k
      simp [headOK] at k
    · refine ⟨e, ?_⟩
      rw [head_byte e, headOK] at k
      simp at k
      exact ⟨k.2, k.1⟩
theorem or32_letter (c : UInt8) (h : letterC c = true) : ∃ z : Int, bits .or .u8 (c.toNat : Int) 32 = z ∧ 97 ≤ z ∧ z ≤ 122 := by
  have : ∀ n : Fin 256, letterC n.val.toUInt8 = true → 97 ≤ bits .or .u8 ((n.val : Nat) : Int) 32 ∧ bits .or .u8 ((n.val : Nat) : Int) 32 ≤ 122 := by decide +kernel
  have := this ⟨c.toNat, c.toNat_lt⟩ (by simpa using h)
  exact ⟨_, rfl, this⟩
theorem letter_nat {c : UInt8} (h : letterC c = true) : (65 ≤ c.toNat ∧ c.toNat ≤ 90) ∨ (97 ≤ c.toNat ∧ c.toNat ≤ 122) := by
  simp [letterC] at h
  omega
theorem plain_nat {c : UInt8} (h : plainC c = true) : c.toNat ≠ 105 ∧ c.toNat ≠ 73 ∧ c.toNat ≠ 110 ∧ c.toNat ≠ 78 := by
  simpa [plainC, and_assoc] using h

/-- What ParseFloat of the head answers. -/
theorem head_calls (H : ByteArray) (g : Bool) (hs : H.size ≤ 199) (hc : (FigB H ∧ (g = true ↔ Good H)) ∨ (g = false ∧ ∃ h0 : 0 < H.size, letterC H[0] = true ∧ plainC H[0] = true)) (w : World) (hE : Env2 w w.heap.size) :
    Calls Tryz.prog 36 #[.string H, .int .i64 64] w fun r w' => PF (g = true) w r w' := by
  obtain ⟨te, pe, he⟩ := hE.err
  rcases hc with ⟨hF, hg⟩ | ⟨hg, h0, hl, hp⟩
  · rcases Nat.eq_zero_or_pos H.size with e | e
    · have : H = emptyB := by
        apply ByteArray.ext
        exact Array.eq_empty_of_size_eq_zero e
      subst this
      refine (parse_empty 64 (by decide) w _ hE.pos he ⟨te, pe, rfl⟩).mono fun r w' h => ?_
      have hng : ¬ (g = true) := fun x => by
        obtain ⟨⟨j, h1, _, _⟩, _⟩ := hg.1 x
        exact absurd h1 (by show ¬ j < 0; omega)
      obtain ⟨⟨x, err, h1, h2⟩, h3⟩ := h
      rcases h2 with h2 | h2
      · exact absurd h2.1 id
      · exact ⟨⟨x, err, h1, Or.inr ⟨hng, h2.2⟩⟩, h3⟩
    · refine (parse_fig H 64 (by decide) w _ hE.pos he ⟨te, pe, rfl⟩ e hs (Lib.hid hF) (Lib.hid hE.env)).mono fun r w' h => ?_
      obtain ⟨⟨x, err, h1, h2⟩, h3⟩ := h
      rw [← hg] at h2
      exact ⟨⟨x, err, h1, h2⟩, h3⟩
  · refine (parse_letter H 64 (by decide) w _ hE.pos he ⟨te, pe, rfl⟩ h0 (by omega) (letter_nat hl) (plain_nat hp)).mono fun r w' h => ?_
    obtain ⟨⟨x, err, h1, h2⟩, h3⟩ := h
    rcases h2 with h2 | h2
    · exact absurd h2.1 id
    · exact ⟨⟨x, err, h1, Or.inr ⟨by rw [hg]; simp, h2.2⟩⟩, h3⟩

set_option maxHeartbeats 1000000 in
set_option maxRecDepth 100000 in
theorem wellFormed_calls (m : ByteArray) (hs : m.size ≤ 200) (g : Bool) (hg : Hid (measR m.data.toList = (g, true))) (w : World) (hE : Hid (Env2 w w.heap.size)) :
    Calls Tryz.prog 30 #[.string m] w fun e w' => e = .returned (.bool g) ∧ Below w.heap.size w w' := by
  by_cases h0 : m.size = 0
  · have hm : m.data.toList = [] := List.eq_nil_of_length_eq_zero (by rw [len_data]; exact h0)
    have hgt : Hid (g = true) := Lib.hid (by
      have := hg.out
      rw [hm, measR] at this
      injection this with a b
      exact a.symm)
    go_enter Tryz.func30, Tryz.ntmps30
    go_wp2_with fail
    go_ret
    exact ⟨by rw [hgt.out]; rfl, Below.refl _ _⟩
  · have hpos : 0 < m.size := by omega
    have hc := meas_cases ((measR_pos hpos).symm.trans hg.out)
    obtain ⟨z, hz, hz1, hz2⟩ := or32_letter m[m.size - 1] hc.1
    have hHs : (m.extract 0 (m.size - 1)).size ≤ 199 := by rw [ByteArray.size_extract]; omega
    have hP := Lib.hid (head_calls (m.extract 0 (m.size - 1)) g hHs hc.2 w hE.out)
    have hn1 : ∀ (t : TypeId) (u : Value) (w : World), (binOp .eql 46 (.iface t u) .nilIface).run Tryz.prog w = .ok (.bool false) w := fun t u w => by kernel_rfl
    have hn2 : ∀ (w : World), (binOp .eql 46 .nilIface .nilIface).run Tryz.prog w = .ok (.bool true) w := fun w => by kernel_rfl
    have hne : ¬ m = ByteArray.empty := fun e => by subst e; simp at hpos
    clear hc hHs
    go_enter Tryz.func30, Tryz.ntmps30
    go_wp2_with fail
    refine hP.out.mono ?_
    rintro e w1 ⟨⟨x, err, rfl, hh⟩, hb⟩
    have hb := Lib.hid hb
    rcases hh with ⟨hgt, rfl⟩ | ⟨hgf, t, u, rfl⟩
    · have hgt := Lib.hid hgt
      go_wp2_with fail
      go_ret
      exact ⟨by rw [hgt.out]; rfl, hb.out⟩
    · have hgf := Lib.hid (show g = false by cases g; rfl; exact absurd rfl hgf)
      go_wp2_with fail
      go_ret
      exact ⟨by rw [hgf.out]; rfl, hb.out⟩

end Go.Proofs.YtlpkdagdfopchaaGreatDoor
