/- What both sides of FnEscaped come to, in plain lists. -/
import Derived.Test.YtmgkolcpomaceaaD4
import Derived.Test.YtmgkolcpomaceaaD5
namespace Go.Proofs.Ytmgkolcpomaceaa
open Go.RowKit
set_option linter.unusedVariables false
set_option linter.unusedSimpArgs false

theorem escL_append (a b : List UInt8) : escL (a ++ b) = escL a ++ escL b := by simp [escL]
theorem foldl_data (ns : List Int) : ∀ b : ByteArray, (ns.foldl (fun r n => r ++ Utf8.encode n) b).data.toList = b.data.toList ++ ns.flatMap fun n => (Utf8.encode n).data.toList := by
  induction ns with
  | nil => intro b; simp
  | cons n ns ih => intro b; rw [List.foldl_cons, ih, ByteArray.data_append, Array.toList_append, List.append_assoc]; rfl
theorem runesBytes_data (ns : List Int) : (runesBytes ns).data.toList = ns.flatMap fun n => (Utf8.encode n).data.toList := by
  rw [runesBytes, foldl_data]; rfl
theorem ofNat_toNat (n : Nat) (h : n < 256) : (UInt8.ofNat n).toNat = n := by simp; omega
theorem enc_low (r : Int) (h0 : 0 ≤ r) (h : r < 128) : (Utf8.encode r).data.toList = [UInt8.ofNat r.toNat] := by
  have hv : Utf8.valid r = true := by simp [Utf8.valid]; omega
  unfold Utf8.encode
  simp only [hv, if_true]
  rw [if_pos (by omega)]
theorem enc_high (r : Int) (h : 128 ≤ r) : ∀ c ∈ (Utf8.encode r).data.toList, 128 ≤ c.toNat := by
  unfold Utf8.encode
  simp only
  obtain ⟨n, hn, hn1, hn2⟩ : ∃ n : Nat, n = (if Utf8.valid r = true then r.toNat else Utf8.runeError) ∧ 128 ≤ n ∧ n ≤ 1114111 := by
    refine ⟨_, rfl, ?_⟩
    split
    · rename_i hv
      simp [Utf8.valid] at hv
      omega
    · simp [Utf8.runeError]
  rw [← hn, if_neg (by omega)]
  intro c hc
  split at hc
  · simp at hc
    rcases hc with rfl | rfl <;> simp <;> omega
  · split at hc
    · simp at hc
      rcases hc with rfl | rfl | rfl <;> simp <;> omega
    · simp at hc
      rcases hc with rfl | rfl | rfl | rfl <;> simp <;> omega
theorem escL_high (l : List UInt8) (h : ∀ c ∈ l, 128 ≤ c.toNat) : escL l = l := by
  induction l with
  | nil => rfl
  | cons c l ih =>
    have hc := h c (by simp)
    have e : escC c = [c] := escC_other (by rintro rfl; exact absurd hc (by decide)) (by rintro rfl; exact absurd hc (by decide)) (by rintro rfl; exact absurd hc (by decide)) (by rintro rfl; exact absurd hc (by decide)) (by rintro rfl; exact absurd hc (by decide))
    have := ih (fun d hd => h d (by simp [hd]))
    simp only [escL, List.flatMap_cons] at this ⊢
    rw [e, this]; rfl
theorem u8_ne {r : Int} (h0 : 0 ≤ r) (h : r < 128) (k : Nat) (hk : k < 128) (hr : ¬ r = (k : Int)) : ¬ UInt8.ofNat r.toNat = UInt8.ofNat k := by
  intro e
  have := congrArg UInt8.toNat e
  rw [ofNat_toNat _ (by omega), ofNat_toNat _ (by omega)] at this
  omega
theorem piece_eq (r : Int) (h0 : 0 ≤ r) : escL (Utf8.encode (fixR r)).data.toList = pieceR r := by
  by_cases h38 : r = 38
  · subst h38; decide
  by_cases h39 : r = 39
  · subst h39; decide
  by_cases h60 : r = 60
  · subst h60; decide
  by_cases h62 : r = 62
  · subst h62; decide
  by_cases h34 : r = 34
  · subst h34; decide
  cases hb : badR r
  · rw [pieceR_other h38 h39 h60 h62 h34 hb, fixR, if_neg (by rw [hb]; simp)]
    by_cases h : r < 128
    · rw [enc_low r h0 h]
      simp only [escL, List.flatMap_cons, List.flatMap_nil, List.append_nil]
      exact escC_other (u8_ne h0 h 38 (by omega) h38) (u8_ne h0 h 39 (by omega) h39) (u8_ne h0 h 60 (by omega) h60) (u8_ne h0 h 62 (by omega) h62) (u8_ne h0 h 34 (by omega) h34)
    · exact escL_high _ (enc_high r (by omega))
  · rw [pieceR_bad h38 h39 h60 h62 h34 hb, fixR, if_pos hb]
    decide
theorem runesAt_nonneg (s : ByteArray) (n : Nat) : ∀ i, s.size - i = n → ∀ r ∈ runesAt s i, 0 ≤ r := by
  induction n using Nat.strongRecOn with
  | _ n ih =>
    intro i hi r hr
    by_cases h : i < s.size
    · rw [runesAt_cons s i h] at hr
      have hd := decode_step s i
      rcases List.mem_cons.1 hr with rfl | hr
      · exact decode_nonneg s i
      · exact ih (s.size - (i + (Utf8.decode s i).2)) (by omega) _ rfl r hr
    · rw [runesAt_end s i h] at hr; simp at hr
theorem sides_eq (l : List Int) (h : ∀ r ∈ l, 0 ≤ r) : escL (runesBytes (l.map fixR)).data.toList = l.flatMap pieceR := by
  rw [runesBytes_data]
  induction l with
  | nil => rfl
  | cons r l ih =>
    rw [List.map_cons, List.flatMap_cons, escL_append, ih (fun x hx => h x (by simp [hx])), piece_eq r (h r (by simp)), List.flatMap_cons]
theorem entL_amp (l : List UInt8) : entL ([38, 97, 109, 112, 59] ++ l) = true ∧ entL ([38, 35, 51, 57, 59] ++ l) = true ∧ entL ([38, 108, 116, 59] ++ l) = true ∧ entL ([38, 103, 116, 59] ++ l) = true ∧ entL ([38, 35, 51, 52, 59] ++ l) = true := by
  simp [entL, ents, startsL]
theorem plainL_esc (c : UInt8) (l : List UInt8) : plainL (escC c ++ l) = plainL l := by
  obtain ⟨e1, e2, e3, e4, e5⟩ := entL_amp l
  unfold escC
  split
  · simp [plainL, angleB, show entL (38 :: 97 :: 109 :: 112 :: 59 :: l) = true from e1]
  split
  · simp [plainL, angleB, show entL (38 :: 35 :: 51 :: 57 :: 59 :: l) = true from e2]
  split
  · simp [plainL, angleB, show entL (38 :: 108 :: 116 :: 59 :: l) = true from e3]
  split
  · simp [plainL, angleB, show entL (38 :: 103 :: 116 :: 59 :: l) = true from e4]
  split
  · simp [plainL, angleB, show entL (38 :: 35 :: 51 :: 52 :: 59 :: l) = true from e5]
  · rename_i h38 h39 h60 h62 h34
    simp [plainL, angleB, h38, h39, h60, h62, h34]
theorem plainL_escL (l : List UInt8) : plainL (escL l) = true := by
  induction l with
  | nil => rfl
  | cons c l ih => rw [escL, List.flatMap_cons, plainL_esc]; exact ih
end Go.Proofs.Ytmgkolcpomaceaa
