/- What spec.Safe and the package say of a URL, in plain lists. -/
import Derived.Test.YtmgkolcpomaceaaE5
namespace Go.Proofs.Ytmgkolcpomaceaa
open Go.RowKit
set_option linter.unusedVariables false
set_option linter.unusedSimpArgs false

def specSafe (s : ByteArray) : Bool × Bool :=
  if schemes.any (startsB (lowS s)) then (true, true) else if startsB (lowS s) sData then dataRes (lowS s) else (scanL s.data.toList, true)

theorem lowC_special (c d : UInt8) (hd : d.toNat < 65) : lowC c = d ↔ c = d := by
  by_cases h : 65 ≤ c.toNat ∧ c.toNat ≤ 90
  · have e := lowC_cap h
    constructor
    · intro h1; rw [h1] at e; omega
    · intro h1; rw [h1] at h; omega
  · rw [lowC_other h]
theorem scanL_low : ∀ l : List UInt8, scanL (lowL l) = scanL l
  | [] => rfl
  | c :: l => by
    have e58 := lowC_special c 58 (by decide)
    have e47 := lowC_special c 47 (by decide)
    have e63 := lowC_special c 63 (by decide)
    have e35 := lowC_special c 35 (by decide)
    have ih := scanL_low l
    show scanL (lowC c :: lowL l) = _
    rw [scanL, scanL, ih]
    simp only [e58, e47, e63, e35]
theorem dropWhile_stop {α : Type} {p : α → Bool} {c : α} (hc : p c = false) (M : List α) : ∀ L : List α, (L ++ c :: M).dropWhile p = L.dropWhile p ++ c :: M
  | [] => by simp [List.dropWhile_cons, hc]
  | a :: L => by
    by_cases h : p a = true
    · simp [List.dropWhile_cons, h, dropWhile_stop hc M L]
    · simp [List.dropWhile_cons, h]
theorem trimEq_keep (A R : List UInt8) (c : UInt8) (hc : ¬ c = 61) : ∃ R', trimEq (A ++ c :: R) = A ++ c :: R' := by
  refine ⟨(R.reverse.dropWhile (· == 61)).reverse, ?_⟩
  rw [trimEq, List.reverse_append, List.reverse_cons, List.append_assoc, List.singleton_append, dropWhile_stop (by simp [hc])]
  simp
theorem dropWhile_first {α : Type} {p : α → Bool} : ∀ l : List α, (∃ c R, l.dropWhile p = c :: R ∧ p c = false) ∨ l.dropWhile p = []
  | [] => .inr rfl
  | a :: l => by
    by_cases h : p a = true
    · rw [List.dropWhile_cons, if_pos h]; exact dropWhile_first l
    · exact .inl ⟨a, l, by rw [List.dropWhile_cons, if_neg h], by simpa using h⟩
theorem eq_replicate_of_dropWhile : ∀ l : List UInt8, l.dropWhile isEq = [] → l = List.replicate l.length 61
  | [], _ => rfl
  | a :: l, h => by
    by_cases ha : isEq a = true
    · rw [List.dropWhile_cons, if_pos ha] at h
      have ih := eq_replicate_of_dropWhile l h
      have : a = 61 := by simpa [isEq] using ha
      rw [this, List.length_cons, List.replicate_succ, ← ih]
    · rw [List.dropWhile_cons, if_neg ha] at h; simp at h
theorem trimEq_all (P : List UInt8) (h : P.all b64C = true) : trimEq P = P := by
  rcases List.eq_nil_or_concat P with rfl | ⟨L, a, rfl⟩
  · rfl
  · rw [List.concat_eq_append] at h ⊢
    apply trimEq_last
    rintro rfl
    rw [List.all_append, Bool.and_eq_true] at h
    exact absurd h.2 (by decide)
theorem takeWhile_all' {α : Type} {p : α → Bool} : ∀ l : List α, (l.takeWhile p).all p = true
  | [] => rfl
  | a :: l => by
    by_cases h : p a = true
    · rw [List.takeWhile_cons, if_pos h, List.all_cons, h, takeWhile_all' l]; rfl
    · rw [List.takeWhile_cons, if_neg h]; rfl
theorem b64_sides (Y : List UInt8) : b64OK (trimEq Y) = (!(Y.takeWhile b64C).isEmpty && ((Y.dropWhile b64C).dropWhile isEq).isEmpty) := by
  have hY : Y.takeWhile b64C ++ Y.dropWhile b64C = Y := List.takeWhile_append_dropWhile
  have hP := takeWhile_all' (p := b64C) Y
  generalize hPe : Y.takeWhile b64C = P at hY hP ⊢
  have hQ1 := dropWhile_first (p := b64C) Y
  generalize hQe : Y.dropWhile b64C = Q at hY hQ1 ⊢
  clear hPe hQe
  subst hY
  rcases dropWhile_first (p := isEq) Q with ⟨c, R, hd, hc⟩ | hd
  · rw [hd]
    have hc61 : ¬ c = 61 := by simpa [isEq] using hc
    have hE := List.takeWhile_append_dropWhile (p := isEq) (l := Q)
    rw [hd] at hE
    obtain ⟨R', hR'⟩ := trimEq_keep (P ++ Q.takeWhile isEq) R c hc61
    rw [List.append_assoc, hE] at hR'
    rw [hR', b64OK]
    have : (P ++ Q.takeWhile isEq ++ c :: R').all b64C = false := by
      rw [List.all_eq_false]
      rcases h : Q.takeWhile isEq with _ | ⟨e, E⟩
      · rw [h, List.nil_append] at hE
        rcases hQ1 with ⟨q, R2, hq, hqb⟩ | hq
        · rw [hq] at hE
          injection hE with e1 _
          exact ⟨c, by simp, by rw [e1, hqb]; simp⟩
        · rw [hq] at hE; simp at hE
      · have he : isEq e = true := by
          have := takeWhile_all' (p := isEq) Q
          rw [h, List.all_cons, Bool.and_eq_true] at this
          exact this.1
        have : e = 61 := by simpa [isEq] using he
        exact ⟨e, by simp, by rw [this]; decide⟩
    rw [this]; simp
  · rw [hd, eq_replicate_of_dropWhile Q hd, trimEq_more, trimEq_all P hP, b64OK, hP]; simp
theorem b64_low (c : UInt8) : b64S (lowC c) = b64C (lowC c) := by
  have h : ¬ (65 ≤ (lowC c).toNat ∧ (lowC c).toNat ≤ 90) := by
    by_cases h : 65 ≤ c.toNat ∧ c.toNat ≤ 90
    · have e := lowC_cap h; omega
    · rw [lowC_other h]; exact h
  have : (decide (65 ≤ (lowC c).toNat) && decide ((lowC c).toNat ≤ 90)) = false := by
    rw [Bool.and_eq_false_iff, decide_eq_false_iff_not, decide_eq_false_iff_not]; omega
  simp [b64S, b64C, letterC, this]
theorem while_congr {α : Type} {p q : α → Bool} : ∀ l : List α, (∀ x ∈ l, p x = q x) → l.takeWhile p = l.takeWhile q ∧ l.dropWhile p = l.dropWhile q
  | [], _ => ⟨rfl, rfl⟩
  | a :: l, h => by
    obtain ⟨e1, e2⟩ := while_congr l (fun x hx => h x (by simp [hx]))
    simp only [List.takeWhile_cons, List.dropWhile_cons, h a (by simp), e1, e2, and_self]
theorem while_past {α : Type} {p : α → Bool} (Y : List α) : ∀ k : List α, k.all p = true → (k ++ Y).takeWhile p = k ++ Y.takeWhile p ∧ (k ++ Y).dropWhile p = Y.dropWhile p
  | [], _ => ⟨rfl, rfl⟩
  | a :: k, h => by
    rw [List.all_cons, Bool.and_eq_true] at h
    obtain ⟨e1, e2⟩ := while_past Y k h.2
    simp [List.takeWhile_cons, List.dropWhile_cons, h.1, e1, e2]
theorem headOf_data (k : ByteArray) : (headOf k).data.toList = sData.data.toList ++ (k.data.toList ++ sBase.data.toList) := by
  simp [headOf, ByteArray.data_append, sData, sBase]
theorem bad_mime (Z : List UInt8) : ∀ k ∈ badKinds, mimeL (k.data.toList ++ Z) = false := by
  intro k hk
  simp [badKinds] at hk
  rcases hk with rfl | rfl | rfl | rfl <;> simp [mimeL, mimes]
theorem good_mime : ∀ k ∈ goodKinds, mimeL k.data.toList = true ∧ k.data.toList.all notEnd = true := by decide
theorem bad_ends : ∀ k ∈ badKinds, k.data.toList.all notEnd = true := by decide
theorem dataFind_some {s : ByteArray} {b : Bool} : ∀ ks : List ByteArray, dataFind s ks = (b, true) → ∃ k ∈ ks, startsB s (headOf k) = true ∧ b = b64Run s.data.toList (headOf k).size
  | [], h => by simp [dataFind] at h
  | k :: ks, h => by
    cases hb : startsB s (headOf k)
    · rw [dataFind_no hb] at h
      obtain ⟨k', hk, h1, h2⟩ := dataFind_some ks h
      exact ⟨k', by simp [hk], h1, h2⟩
    · rw [dataFind_yes hb] at h
      simp at h
      exact ⟨k, by simp, hb, h.symm⟩
theorem starts_split' {s p : ByteArray} (h : startsB s p = true) : ∃ r, s.data.toList = p.data.toList ++ r := by
  obtain ⟨r, hr⟩ := List.isPrefixOf_iff_prefix.1 (show p.data.toList.isPrefixOf s.data.toList = true from h)
  exact ⟨r, hr.symm⟩
theorem scan_data {l : List UInt8} : scanL (sData.data.toList ++ l) = false := by simp [sData, scanL]
theorem scheme_data {s : ByteArray} {r : List UInt8} (h : s.data.toList = sData.data.toList ++ r) : schemes.any (startsB s) = false := by
  rw [List.any_eq_false]
  intro p hp
  simp [schemes] at hp
  rw [startsB, startsL, h]
  rcases hp with rfl | rfl | rfl | rfl <;> simp [sData]

/-- Where the reference says something, the package says the same. -/
theorem safe_sides (s : ByteArray) (b : Bool) (h : specSafe s = (b, true)) : safeB s = b := by
  rw [specSafe] at h
  split at h
  · rename_i h1
    simp at h
    rw [h, safeB, safePatB, h1]; rfl
  · rename_i h1
    have h1' : schemes.any (startsB (lowS s)) = false := by simpa using h1
    split at h
    · rename_i h2
      obtain ⟨X, hX⟩ := starts_split' h2
      have hsp : safePatB (lowS s) = false := by rw [safePatB, h1', hX, scan_data]; rfl
      rw [safeB, hsp, Bool.false_or]
      have hdrop : (lowS s).data.toList.drop 5 = X := by rw [hX]; rfl
      rw [dataRes] at h
      split at h
      · rename_i h3
        simp at h
        rw [List.any_eq_true] at h3
        obtain ⟨k, hk, h3⟩ := h3
        rw [startsB, extract_from, hdrop] at h3
        obtain ⟨Y, hY⟩ := List.isPrefixOf_iff_prefix.1 h3
        have : mimeL (dataM (lowS s).data.toList) = false := by
          rw [dataM, hdrop, ← hY, (while_past Y _ (bad_ends k hk)).1]
          exact bad_mime _ k hk
        rw [this, h]; simp
      · obtain ⟨k, hk, h4, h5⟩ := dataFind_some _ h
        obtain ⟨Y, hY⟩ := starts_split' h4
        obtain ⟨g1, g2⟩ := good_mime k hk
        have hXY : X = k.data.toList ++ (sBase.data.toList ++ Y) := by
          have : sData.data.toList ++ X = sData.data.toList ++ (k.data.toList ++ (sBase.data.toList ++ Y)) := by
            rw [← hX, hY, headOf_data]; simp
          exact List.append_cancel_left this
        have hw := while_past (sBase.data.toList ++ Y) _ g2
        have eb : (sBase.data.toList ++ Y).takeWhile notEnd = [] ∧ (sBase.data.toList ++ Y).dropWhile notEnd = sBase.data.toList ++ Y := by
          simp [sBase, notEnd, List.takeWhile_cons, List.dropWhile_cons]
        have eM : dataM (lowS s).data.toList = k.data.toList := by rw [dataM, hdrop, hXY, hw.1, eb.1, List.append_nil]
        have eR : dataR (lowS s).data.toList = sBase.data.toList ++ Y := by rw [dataR, hdrop, hXY, hw.2, eb.2]
        have eD : dataOK (lowS s) = b64OK (trimEq Y) := by
          rw [dataOK, h2, eR, b64R, eR]
          have : startsL (sBase.data.toList ++ Y) sBase.data.toList = true := List.isPrefixOf_iff_prefix.2 (List.prefix_append _ _)
          rw [this]; rfl
        have ev : ∀ x ∈ Y, b64S x = b64C x := by
          intro x hx
          have : x ∈ (lowS s).data.toList := by rw [hY]; simp [hx]
          rw [lowS_data, lowL, List.mem_map] at this
          obtain ⟨c, _, rfl⟩ := this
          exact b64_low c
        have eY : (lowS s).data.toList.drop (headOf k).size = Y := by
          rw [hY, ← data_len, List.drop_left]
        rw [eM, g1, eD, b64_sides, h5, b64Run, eY, (while_congr Y ev).1, (while_congr Y ev).2]; simp
    · rename_i h2
      have h2' : startsB (lowS s) sData = false := by simpa using h2
      simp at h
      rw [safeB, safePatB, h1', dataOK, h2', lowS_data, scanL_low, h]; simp
end Go.Proofs.Ytmgkolcpomaceaa
