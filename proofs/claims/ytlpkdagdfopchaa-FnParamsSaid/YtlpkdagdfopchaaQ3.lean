/- What stands around: until, zzIndex, trusted URLs. -/
import Derived.Test.YtlpkdagdfopchaaQ2
namespace Go.Proofs.Ytlpkdagdfopchaa
open Go.RowKit
set_option linter.unusedVariables false
set_option linter.unusedSimpArgs false

set_option linter.unusedVariables false
set_option linter.unusedSimpArgs false
set_option maxHeartbeats 16000000 in
set_option maxRecDepth 100000 in
theorem until_calls (m : FuncId) (p : UInt8 → Bool) (hcf : Enters m)
    (hm : Hid (∀ (c : UInt8) (w : World), Calls Try.prog m #[.int .u8 (c.toNat : Int)] w fun e w' => e = .returned (.bool (p c)) ∧ Below w.heap.size w w'))
    (s : ByteArray) (a : Nat) (ha : a ≤ s.size) (w : World) (hs : s.size ≤ 2147483647) :
    Calls Try.prog 21 #[.string s, .int .i64 a, .func (.func m) #[] #[]] w fun e w' => e = .returned (.int .i64 ((a + ((s.data.toList.drop a).takeWhile (fun c => !p c)).length : Nat) : Int)) ∧ Below w.heap.size w w' := by
  unfold Enters at hcf
  go_enter Try.func21, Try.ntmps21
  go_wp2
  go_loopg [1] (s.size - a) (fun gk i wr => ∃ k : Nat, gk = s.size - k ∧ k ≤ s.size ∧ a ≤ k ∧ i = .int .i64 k ∧ Hid (a + ((s.data.toList.drop a).takeWhile (fun c => !p c)).length = k + ((s.data.toList.drop k).takeWhile (fun c => !p c)).length) ∧ Hid (Below w.heap.size w wr))
  case atStart => exact ⟨a, rfl, ha, Nat.le_refl _, rfl, by simp [Hid], Below.refl _ _⟩
  case round =>
    obtain ⟨k, hgk, hk, hak, rfl, hL, hB⟩ := hrel
    by_cases hlt : k < s.size
    · have HD := Lib.hid (drop_byte s k hlt)
      have hgk' := Lib.hid hgk
      clear hgk
      cases hp : p s[k] with
      | true =>
        have Hp := Lib.hid hp
        have hfin : Hid (a + ((s.data.toList.drop a).takeWhile (fun c => !p c)).length = k) := by
          rw [Hid, hL.out, HD.out, List.takeWhile_cons, Hp.out]; simp
        go_wp2_with fail
        refine (hm.out s[k] _).mono ?_
        rintro e w1 ⟨rfl, hb⟩
        go_wp2_with fail
        go_ret
        exact ⟨ret_int (by rw [hfin.out]), below_then hB.out hB.out.size hb⟩
      | false =>
        have Hp := Lib.hid hp
        go_wp2_with fail
        refine (hm.out s[k] _).mono ?_
        rintro e w1 ⟨rfl, hb⟩
        have hbw := Lib.hid hb
        clear hb
        go_wp2_with fail
        go_roundg (s.size - (k + 1))
        case measure => rw [hgk'.out]; omega
        case rel =>
          refine ⟨k + 1, rfl, by omega, by omega, by simp, ?_, below_then hB.out hB.out.size hbw.out⟩
          rw [Hid, hL.out, HD.out, List.takeWhile_cons, Hp.out]; simp; omega
    · have hks : k = s.size := by omega
      have hfin : Hid (a + ((s.data.toList.drop a).takeWhile (fun c => !p c)).length = k) := by
        rw [Hid, hL.out, hks, List.drop_of_length_le (by simp)]; simp
      clear hks hgk
      go_wp2_with fail
      go_ret
      exact ⟨ret_int (by rw [hfin.out]), hB.out⟩

/-- The first place of a byte; -1 where there is none. -/
def idxI (l : List UInt8) (c : UInt8) : Int := if l.contains c then (l.findIdx (· == c) : Int) else -1
theorem idxI_at (s : ByteArray) (c : UInt8) (k : Nat) (h : k < s.size) (hp : s[k] = c) (ha : (s.data.toList.take k).all (· != c) = true) : idxI s.data.toList c = k := by
  have hc : s.data.toList.contains c = true := by rw [List.contains_iff_mem, ← hp]; exact getElem_mem_data s k h
  have hl : k < s.data.toList.length := by simpa using h
  unfold idxI
  rw [if_pos hc, (List.findIdx_eq hl).2 ⟨?_, ?_⟩]
  · have : s.data.toList[k] = s[k] := rfl
    rw [this, hp]; simp
  · intro j hj
    rw [List.all_eq_true] at ha
    have := ha s.data.toList[j] (by rw [List.mem_take_iff_getElem]; exact ⟨j, by omega, rfl⟩)
    simpa using this
theorem idxI_none (s : ByteArray) (c : UInt8) (ha : s.data.toList.all (· != c) = true) : idxI s.data.toList c = -1 := by
  unfold idxI
  rw [if_neg]
  rw [List.contains_iff_mem]
  intro hm
  rw [List.all_eq_true] at ha
  simpa using ha c hm

set_option maxHeartbeats 400000 in
set_option maxRecDepth 100000 in
theorem zzIndex_calls (s : ByteArray) (n : Int) (c : UInt8) (hn : n = c.toNat) (w : World) (hs : s.size ≤ 2147483647) :
    Calls Try.prog 26 #[.string s, .int .u8 n] w fun e w' => e = .returned (.int .i64 (idxI s.data.toList c)) ∧ w = w' := by
  subst hn
  go_enter Try.func26, Try.ntmps26
  go_wp2
  go_loop [5] (fun i => ∃ k : Nat, k ≤ s.size ∧ i = .int .i64 k ∧ Hid ((s.data.toList.take k).all (· != c) = true)) (fun i => s.size - (intOf i).toNat)
  case atStart => exact ⟨0, Nat.zero_le _, rfl, by simp [Hid]⟩
  case round =>
    obtain ⟨k, hk, rfl, ha⟩ := hrel
    by_cases hlt : k < s.size
    · have H := Lib.hid (all_take_succ (p := (· != c)) s k hlt)
      by_cases h1 : s[k] = c
      · have h1' : (((s[k].toNat : Int)) == (c.toNat : Int)) = true := by simp [h1]
        have HE := Lib.hid h1
        clear h1
        go_wp2
        go_ret
        exact ⟨ret_int (by rw [idxI_at s c k hlt HE.out ha.out]), rfl⟩
      · have h1' : (((s[k].toNat : Int)) == (c.toNat : Int)) = false := by
          rw [beq_eq_false_iff_ne]; intro h; exact h1 (UInt8.toNat_inj.1 (by omega))
        have HE := Lib.hid h1
        clear h1
        go_wp2
        go_round
        case rel => exact ⟨k + 1, by omega, by go_num, by rw [Hid, H.out, ha.out]; simpa using HE.out⟩
        case measure => simp [intOf]; omega
    · go_wp2
      go_ret
      exact ⟨ret_int (by rw [idxI_none s c (all_of_take s k (by omega) ha.out)]), rfl⟩

theorem idxI_nonneg (l : List UInt8) (c : UInt8) : 0 ≤ idxI l c ↔ l.contains c = true := by
  unfold idxI; split <;> simp_all

set_option linter.unusedVariables false
set_option linter.unusedSimpArgs false
set_option maxRecDepth 100000 in
theorem trFromConst_calls (s : ByteArray) (w : World) :
    Calls Try.prog 30 #[.string s] w fun e w' => e = .returned (.agg #[.string s]) ∧ Below w.heap.size w w' := by
  go_enter Try.func30, Try.ntmps30
  go_wp2_with fail
  refine bodyPost_ret (v := .agg #[.string s]) (by simp [results, Try.results30, go_sem]) rfl ⟨rfl, ?_⟩
  first | exact (Below.refl w.heap.size w).alloc (Nat.le_refl _) _ | exact ((Below.refl w.heap.size w).alloc (Nat.le_refl _) _).setCell (p := ⟨w.heap.size, 0, none⟩) (Nat.le_refl _) _ | trace_state

set_option maxRecDepth 100000 in
theorem zzTrusted_calls (s : ByteArray) (w : World) :
    Calls Try.prog 19 #[.string s] w fun e w' => e = .returned (.agg #[.string s]) ∧ Below w.heap.size w w' := by
  go_enter Try.func19, Try.ntmps19
  go_wp2_with fail
  refine (trFromConst_calls s _).mono ?_
  rintro e w1 ⟨rfl, hb⟩
  have hc := own_cell hb 0
  have hf := own_free hb 0
  have HB := Lib.hid hb
  clear hb
  simp at hc
  go_wp2
  refine bodyPost_ret (v := .agg #[.string s]) (by simp [results, Try.results19, go_sem, hc]) rfl ⟨rfl, ?_⟩
  exact (below_own HB.out).setCell (Nat.le_refl _) _

set_option maxRecDepth 100000 in
theorem trString_calls (s : ByteArray) (w : World) :
    Calls Try.prog 20 #[.agg #[.string s]] w fun e w' => e = .returned (.string s) ∧ Below w.heap.size w w' := by
  go_enter Try.func20, Try.ntmps20
  go_wp2
  go_ret
  exact ⟨rfl, (Below.refl _ _).alloc (Nat.le_refl _) _⟩

theorem enters22 : Enters 22 := fun args w => by simp [go_sem, Try.func22]
theorem enters23 : Enters 23 := fun args w => by simp [go_sem, Try.func23]
set_option maxRecDepth 100000 in
theorem hash_calls (c : UInt8) (w : World) : Calls Try.prog 22 #[.int .u8 (c.toNat : Int)] w fun e w' => e = .returned (.bool (c == 35)) ∧ Below w.heap.size w w' := by
  have hv := u8_beq c 35
  rw [show ((35:UInt8).toNat : Int) = 35 from rfl] at hv
  have HV := Lib.hid hv
  clear hv
  go_enter Try.func22, Try.ntmps22
  go_wp2
  go_ret
  exact ⟨ret_bool HV.out, Below.refl _ _⟩
set_option maxRecDepth 100000 in
theorem ask_calls (c : UInt8) (w : World) : Calls Try.prog 23 #[.int .u8 (c.toNat : Int)] w fun e w' => e = .returned (.bool (c == 63)) ∧ Below w.heap.size w w' := by
  have hv := u8_beq c 63
  rw [show ((63:UInt8).toNat : Int) = 63 from rfl] at hv
  have HV := Lib.hid hv
  clear hv
  go_enter Try.func23, Try.ntmps23
  go_wp2
  go_ret
  exact ⟨ret_bool HV.out, Below.refl _ _⟩
/-- How many bytes there are ahead of a sign. -/
def cutN (l : List UInt8) (c : UInt8) : Nat := (l.takeWhile fun d => !(d == c)).length
theorem cutN_le (l : List UInt8) (c : UInt8) : cutN l c ≤ l.length := (List.takeWhile_sublist _).length_le
theorem cutN_contains (c : UInt8) : ∀ l : List UInt8, l.contains c = true → l.findIdx (· == c) = cutN l c ∧ cutN l c < l.length
  | [], h => by simp at h
  | d :: l, h => by
    cases hd : (d == c) with
    | true => simp [cutN, List.findIdx_cons, hd]
    | false =>
      have h' : l.contains c = true := by
        rw [List.contains_cons] at h
        have : (c == d) = false := by rw [beq_eq_false_iff_ne] at *; exact fun e => hd e.symm
        rw [this, Bool.false_or] at h
        exact h
      obtain ⟨h1, h2⟩ := cutN_contains c l h'
      rw [cutN] at h1 h2
      simp [cutN, List.findIdx_cons, hd, h1, h2]
theorem cutN_none (c : UInt8) : ∀ l : List UInt8, l.contains c = false → cutN l c = l.length
  | [], _ => rfl
  | d :: l, h => by
    rw [List.contains_cons, Bool.or_eq_false_iff] at h
    have hd : (d == c) = false := by have := h.1; rw [beq_eq_false_iff_ne] at *; exact fun e => this e.symm
    have := cutN_none c l h.2
    rw [cutN] at this
    simp [cutN, hd, this]
theorem idx_cut (l : List UInt8) (c : UInt8) : (idxI l c = -1 ∧ cutN l c = l.length) ∨ (idxI l c = (cutN l c : Int) ∧ cutN l c < l.length) := by
  unfold idxI
  cases h : l.contains c with
  | true =>
    obtain ⟨h1, h2⟩ := cutN_contains c l h
    exact .inr ⟨by rw [if_pos rfl, h1], h2⟩
  | false => exact .inl ⟨by rw [if_neg (by simp)], cutN_none c l h⟩
end Go.Proofs.Ytlpkdagdfopchaa
