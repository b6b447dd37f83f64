/- impl.pairs: names with their values, as a map. -/
import Derived.Test.YtmgkolcpomaceaaJ1
import Derived.Maps.OwnSet
import Derived.Maps.OwnOps
import Derived.StringKeys
namespace Go.Proofs.Ytmgkolcpomaceaa
open Go.RowKit Go.Maps
set_option linter.unusedVariables false
set_option linter.unusedSimpArgs false

def keyL (s : ByteArray) : Lit := .string s.data.toList
def dPut (D : DataW Unit) (p : Pr) : DataW Unit := D.put (keyL p.1) (.lit (.string p.2.data.toList))
def dOf (l : List Pr) : DataW Unit := l.foldl dPut (.map [])
theorem dOf_snoc (l : List Pr) (p : Pr) : dOf (l ++ [p]) = dPut (dOf l) p := by simp [dOf]
theorem keyL_key (s : ByteArray) : WideAt.IsKeyLit (keyL s) := trivial
theorem keyL_inj {a b : ByteArray} : keyL a = keyL b ↔ sameN a b = true := by
  rw [sameN_iff]
  constructor
  · intro h; injection h with h; exact WideShapes.bytes_inj h
  · rintro rfl; rfl
theorem put_isMap {D : DataW Unit} (h : IsMap D) (k : Lit) (d : DataW Unit) : IsMap (D.put k d) := by
  obtain ⟨es, rfl⟩ := h
  exact ⟨_, rfl⟩
theorem dOf_isMap (l : List Pr) : IsMap (dOf l) := by
  induction l using revInd with
  | nil => exact isMap_empty
  | snoc l p ih => rw [dOf_snoc]; exact put_isMap ih _ _
def hasN (l : List Pr) (n : ByteArray) : Bool := l.any fun q => sameN q.1 n
def findN (l : List Pr) (n : ByteArray) : Option Pr := l.find? fun q => sameN q.1 n
theorem has_dOf (l : List Pr) (n : ByteArray) : has (dOf l) (keyL n) = hasN l n := by
  induction l using revInd with
  | nil => rfl
  | snoc l p ih =>
    rw [dOf_snoc, dPut, hasN, List.any_append]
    cases h : sameN p.1 n with
    | true =>
      have e : keyL p.1 = keyL n := keyL_inj.2 h
      rw [e, has_put_same (dOf_isMap l) (keyL_key n)]
      simp [h]
    | false =>
      have e : keyL n ≠ keyL p.1 := fun e => by have := keyL_inj.1 e.symm; rw [h] at this; cases this
      rw [has_put_other e, ih]
      simp [h, hasN]
def Fresh (l : List Pr) : Prop := ∀ k (h : k < l.length), hasN (l.take k) l[k].1 = false
theorem fresh_of_ok {l : List Pr} (h : pairsOkB l = true) : Fresh l := by
  intro k hk
  rw [pairsOkB, Bool.and_eq_true] at h
  have h1 := List.all_eq_true.1 h.2 k (by simpa using hk)
  rw [freshAt_at l k hk, Bool.and_eq_true] at h1
  simpa [hasN] using h1.2
theorem okP_of_ok {l : List Pr} (h : pairsOkB l = true) : ∀ p ∈ l, okP p = true := by
  intro p hp
  obtain ⟨k, hk, rfl⟩ := List.mem_iff_getElem.1 hp
  rw [pairsOkB, Bool.and_eq_true] at h
  have h1 := List.all_eq_true.1 h.2 k (by simpa using hk)
  rw [freshAt_at l k hk, Bool.and_eq_true] at h1
  exact h1.1
theorem len_of_ok {l : List Pr} (h : pairsOkB l = true) : l.length ≤ 20 := by
  rw [pairsOkB, Bool.and_eq_true] at h
  simpa using h.1
def valD (o : Option Pr) (z : DataW Unit) : DataW Unit := match o with | some q => .lit (.string q.2.data.toList) | none => z
theorem take_snoc (l : List Pr) (k : Nat) (h : k < l.length) : l.take (k + 1) = l.take k ++ [l[k]] := by
  rw [List.take_succ_eq_append_getElem h]
theorem at_dOf (l : List Pr) (hf : Fresh l) (n : ByteArray) (z : DataW Unit) : (dOf l).atKey (keyL n) z = valD (findN l n) z := by
  have H : ∀ k, k ≤ l.length → (dOf (l.take k)).atKey (keyL n) z = valD (findN (l.take k) n) z := by
    intro k
    induction k with
    | zero => intro _; rfl
    | succ k ih =>
      intro hk
      have hlt : k < l.length := hk
      rw [take_snoc l k hlt, dOf_snoc, dPut, findN, List.find?_append]
      cases h : sameN l[k].1 n with
      | true =>
        have e : keyL l[k].1 = keyL n := keyL_inj.2 h
        rw [e, atKey_put_same (dOf_isMap _) (keyL_key n)]
        have e2 : l[k].1 = n := sameN_iff.1 h
        have h2 := hf k hlt
        rw [e2, hasN] at h2
        have h3 : (l.take k).find? (fun q => sameN q.1 n) = none := by
          rw [List.find?_eq_none]
          intro q hq
          have := List.any_eq_false.1 h2 q hq
          simpa using this
        rw [h3]
        simp [h, valD]
      | false =>
        have e : keyL n ≠ keyL l[k].1 := fun e => by have := keyL_inj.1 e.symm; rw [h] at this; cases this
        rw [atKey_put_other e, ih (by omega), findN]
        simp [h]
  have := H l.length (Nat.le_refl _)
  rw [List.take_of_length_le (Nat.le_refl _)] at this
  exact this

theorem law9 : Keyed Try.prog 9 := string_keyed Try.underlying9
theorem zero9 (w : World) : (zeroValue 9).run Try.prog w = .ok (.string ⟨#[]⟩) w := by kernel_rfl
theorem under79 : Try.prog.underlying 79 = some (.map 9 9) := by kernel_rfl
theorem key9 (s : ByteArray) (hs : s.size ≤ 2147483647) : keyOf Try.prog 9 (.string s) = some (keyL s) := WideMaps.keyOf_string_mk Try.underlying9 (by unfold maxLen; omega)
theorem elem9 (s : ByteArray) (hs : s.size ≤ 2147483647) : plainElem (H := Unit) Try.prog 9 (.string s) = some (.lit (.string s.data.toList), []) := plainElem_string Try.underlying9 (by unfold maxLen; omega)
set_option maxRecDepth 100000 in
theorem elem9_inv {v : Value} {z : DataW Unit × List MemPlace} (h : plainElem (H := Unit) Try.prog 9 v = some z) : ∃ s : ByteArray, v = .string s ∧ z = (.lit (.string s.data.toList), []) := by
  cases v <;> simp [plainElem, Try.underlying9] at h
  rename_i s
  exact ⟨s, rfl, h.2.symm⟩
def Own79 (w : World) (b n : Nat) (l : List Pr) : Prop := w.ownsMap Try.prog 9 (plainElem (H := Unit) Try.prog 9) b n (dOf l)

set_option maxHeartbeats 8000000 in
set_option maxRecDepth 100000 in
theorem implPairs_calls (l : List Pr) (A : Option Addr) (cap : Nat) (w : World) (hA : Hid (PairsAt w A l)) (hok : pairsOkB l = true) :
    Calls Try.prog 82 #[.slice A l.length cap] w fun e w' => ∃ b, e = .returned (.tuple #[.map (some b), .bool true]) ∧ w.heap.size ≤ b ∧ Own79 w' b l.length l ∧ Below w.heap.size w w' := by
  have hl := len_of_ok hok
  have HFr := Lib.hid (fresh_of_ok hok)
  have HOk := Lib.hid (okP_of_ok hok)
  have hmm := @run_makeMap Try.prog
  clear hok
  go_enter Try.func82, Try.ntmps82
  go_wp2_with fail
  go_loopg [12] l.length (fun gk i wr => ∃ k : Nat, gk = l.length - k ∧ k ≤ l.length ∧ i = .int .i64 k ∧ Hid (Own79 wr w.heap.size k (l.take k)) ∧ Hid (Below w.heap.size w wr))
  case atStart => exact ⟨0, rfl, Nat.zero_le _, rfl, World.ownsMap_made _ _ _ _, (Below.refl _ _).alloc (Nat.le_refl _) _⟩
  case round =>
    obtain ⟨k, hgk, hk, rfl, hown, hB⟩ := hrel
    have HG := Lib.hid hgk
    clear hgk
    by_cases hlt : k < l.length
    · have hopn : Hid (okP l[k] = true) := HOk.out _ (List.getElem_mem _)
      have hs1 : l[k].1.size ≤ 2147483647 := by have := hopn.out; simp [okP, smallB] at this; omega
      have hs2 : l[k].2.size ≤ 2147483647 := by have := hopn.out; simp [okP, smallB] at this; omega
      have HK1 := Lib.hid (key9 l[k].1 hs1)
      have HE2 := Lib.hid (elem9 l[k].2 hs2)
      have HE0 := Lib.hid (elem9 ⟨#[]⟩ (by decide))
      have HN := Lib.hid (show has (dOf (l.take k)) (keyL l[k].1) = false by rw [has_dOf]; exact HFr.out k hlt)
      obtain ⟨ad, rfl, hblk, hc, hd⟩ := (hA.out.below hB.out) k hlt
      go_wp2_with (at_lookup; refine wpList_lookup_own_ok _ rfl _ _ 79 rfl 9 9 law9 under79 _ (zero9 _) _ [] HE0.out w.heap.size k _ rfl (World.ownsMap.alloc hown.out _) _ _ rfl HK1.out ?_; rw [HN.out]; intro v ps hv)
      have HPl := Lib.hid (show ((asciiB l[k].1 && asciiB l[k].2) && (smallB l[k].1 && smallB l[k].2)) = true by have := hopn.out; simp [okP] at this ⊢; simp [this])
      refine (isPlain_two l[k].1 l[k].2 _ _ _ (by exact strsAt_new _ _ [l[k].1, l[k].2] 9 (by simp)) hs1 hs2).mono ?_
      rw [HPl.out]
      rintro e w1 ⟨rfl, rfl⟩
      go_wp2_with (at_mapUpdate; refine wpList_mapUpdate_own _ rfl _ _ _ 79 rfl 9 9 law9 under79 (plainElem (H := Unit) Try.prog 9) w.heap.size k _ rfl (World.ownsMap.alloc (World.ownsMap.alloc hown.out _) _) (by unfold maxLen; omega) _ _ _ rfl rfl HK1.out _ [] HE2.out ?_; intro w2 hown2 hgrow2)
      go_roundg (l.length - (k + 1))
      case measure => rw [HG.out]; omega
      case rel =>
        refine ⟨k + 1, rfl, by omega, by simp, ?_, ?_⟩
        · rw [Hid, Own79, take_snoc l k hlt, dOf_snoc]; exact hown2
        · exact ((hB.out.alloc hB.out.size _).alloc (Nat.le_trans hB.out.size (by simp)) _).grown hgrow2 (by simp; have := hB.out.size; omega) (fun j hj => by cases hj; exact Nat.le_refl _)
    · have hks : k = l.length := by omega
      have HO : Hid (Own79 wr w.heap.size l.length l) := by
        have := hown.out
        rw [hks, List.take_of_length_le (Nat.le_refl _)] at this
        exact this
      have g1 : decide ((l.length : Int) ≤ 20) = true := by simp; omega
      clear hks HG
      go_wp2_with fail
      go_ret2
      exact ⟨w.heap.size, rfl, Nat.le_refl _, HO.out, hB.out⟩
end Go.Proofs.Ytmgkolcpomaceaa
