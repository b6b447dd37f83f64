/- told (a call whose panic is caught); the first place of a byte, the end of a string; zzAll. -/
import Derived.Test.YtmgkolcpomaceaaB0
namespace Go.Proofs.Ytmgkolcpomaceaa
open Go.RowKit

/-- The call ends by a panic of the text's own. -/
def Pan (e : Ending) : Prop := ∃ (T : TypeId) (v : Value), e = .panicked [{ v := .iface T v, recovered := false }]

set_option maxRecDepth 100000 in
theorem catch_panicking (p q : Addr) (x y : Value) (u : TypeId) (pv : Value) (older : List PanicEntry) (w : World) (hc : w.cell? p = some x) (hz : w.frozen? p = false) (hcq : (w.setCell p (.string ⟨#[]⟩)).cell? q = some y) (hzq : (w.setCell p (.string ⟨#[]⟩)).frozen? q = false) :
    CallsD Try.prog 91 #[.pointer (some p), .pointer (some q)] (.panicking ({ v := .iface u pv, recovered := false } :: older)) w fun e u' w' =>
      e = .returned (.tuple #[]) ∧ u' = .panicking ({ v := .iface u pv, recovered := true } :: older) ∧ w' = (w.setCell p (.string ⟨#[]⟩)).setCell q (.bool false) := by
  refine callsD_of_wpS Try.func91 rfl fun c₀ cs hu => ?_
  apply wpS_seq
  apply wpS_region
  simp [wpOpsS, go_sem, recoverD, hu, Try.ntmps91, Exit.thenS]
  refine wpS_cond (t := true) (by simp [Act.eval, Array.replicate]) ?_
  simp only [if_true]
  apply wpS_region
  simp [wpOpsS, go_sem, hc, hz, hcq, hzq, bodyPostS, results, Try.results91, Act.eval, Array.replicate]

theorem catch_idle (p q : Addr) (w : World) :
    CallsD Try.prog 91 #[.pointer (some p), .pointer (some q)] .returning w fun e u' w' => e = .returned (.tuple #[]) ∧ u' = .returning ∧ w' = w := by
  refine callsD_of_wpS Try.func91 rfl fun c₀ cs hu => ?_
  apply wpS_seq
  apply wpS_region
  simp [wpOpsS, go_sem, recoverD, hu, Try.ntmps91, Exit.thenS]
  refine wpS_cond (t := false) (by simp [Act.eval, Array.replicate]) ?_
  simp only [Bool.false_eq_true, if_false]
  refine wpS_of_wp (wp_skip ?_)
  cases c₀
  simp_all [bodyPostS, results, Try.results91]

theorem told_tells (m : FuncId) (caps : Array Value) (r : ByteArray) (w : World) (hcf : Enters m)
    (hm : Hid (∀ w' : World, Below w.heap.size w w' → Calls Try.prog m caps w' fun e w'' => e = .returned (.string r) ∧ Below w'.heap.size w' w'')) :
    Calls Try.prog 51 #[.func (.func m) #[] caps] w fun e w' => e = .returned (.tuple #[.string r, .bool true]) ∧ Below w.heap.size w w' := by
  have hmf : ∀ (fn : Fn) (first cap : Array Value) (w : World), (Instr.makeFunc fn first cap).run Try.prog w = .ok (.func fn first cap) w := fun _ _ _ _ => rfl
  unfold Enters at hcf
  go_enter_defers Try.func51, Try.ntmps51
  go_wp2_with fail
  refine (hm.out _ (by exact ((Below.refl _ _).alloc (Nat.le_refl _) _).alloc (by simp) _)).mono ?_
  rintro e w1 ⟨rfl, hb⟩
  obtain ⟨hc, hf⟩ := bcell hb
  have hc1 := hc w.heap.size 0 (by simp; omega)
  have hc2 := hc (w.heap.size + 1) 0 (by simp)
  have hf1 := hf w.heap.size 0 (by simp; omega)
  have hf2 := hf (w.heap.size + 1) 0 (by simp)
  have HB := Lib.hid hb
  clear hc hf hb
  simp [go_sem] at hc1 hc2 hf1 hf2
  go_wp2
  refine leaves_cons (f := 91) (args := #[.pointer (some ⟨w.heap.size, 0, none⟩), .pointer (some ⟨w.heap.size + 1, 0, none⟩)]) (by simp) (by simp [go_sem]) ?_
  refine (catch_idle _ _ _).mono ?_
  rintro e u' w'' ⟨rfl, rfl, rfl⟩
  have hbel : Below w.heap.size w w1 := (((Below.refl _ _).alloc (Nat.le_refl _) _).alloc (by simp) _).trans (HB.out.mono (by simp; omega))
  simp [Leaves, settle, results, Try.results51, go_sem, hc1, hc2]
  exact (hbel.setCell (by simp) _).setCell (by simp) _

theorem told_panics (m : FuncId) (caps : Array Value) (w : World) (hcf : Enters m)
    (hm : Hid (∀ w' : World, Below w.heap.size w w' → Calls Try.prog m caps w' fun e w'' => Pan e ∧ Below w'.heap.size w' w'')) :
    Calls Try.prog 51 #[.func (.func m) #[] caps] w fun e w' => e = .returned (.tuple #[.string ⟨#[]⟩, .bool false]) ∧ Below w.heap.size w w' := by
  have hmf : ∀ (fn : Fn) (first cap : Array Value) (w : World), (Instr.makeFunc fn first cap).run Try.prog w = .ok (.func fn first cap) w := fun _ _ _ _ => rfl
  unfold Enters at hcf
  go_enter_defers Try.func51, Try.ntmps51
  go_wp2_with fail
  refine (hm.out _ (by exact ((Below.refl _ _).alloc (Nat.le_refl _) _).alloc (by simp) _)).mono ?_
  rintro e w1 ⟨⟨T, v, rfl⟩, hb⟩
  obtain ⟨hc, hf⟩ := bcell hb
  have hc1 := hc w.heap.size 0 (by simp; omega)
  have hc2 := hc (w.heap.size + 1) 0 (by simp)
  have hf1 := hf w.heap.size 0 (by simp; omega)
  have hf2 := hf (w.heap.size + 1) 0 (by simp)
  have HB := Lib.hid hb
  clear hc hf hb
  simp [go_sem] at hc1 hc2 hf1 hf2
  go_wp2
  refine leaves_cons (f := 91) (args := #[.pointer (some ⟨w.heap.size, 0, none⟩), .pointer (some ⟨w.heap.size + 1, 0, none⟩)]) (by simp) (by simp [go_sem]) ?_
  refine (catch_panicking _ _ _ (.bool false) _ _ [] _ hc1 hf1 ?_ ?_).mono ?_
  · simp [go_sem, hc2]
  · simp [go_sem, hf2]
  rintro e u' w'' ⟨rfl, rfl, rfl⟩
  have hbel : Below w.heap.size w w1 := (((Below.refl _ _).alloc (Nat.le_refl _) _).alloc (by simp) _).trans (HB.out.mono (by simp; omega))
  simp [Leaves, settle, results, Try.results51, go_sem, hc1, hc2]
  exact (hbel.setCell (by simp) _).setCell (by simp) _
/-- The first place of a byte; -1 where there is none. -/
def idxI (l : List UInt8) (c : UInt8) : Int := if l.contains c then (l.findIdx (· == c) : Int) else -1
theorem idxI_at (s : ByteArray) (c : UInt8) (k : Nat) (h : k < s.size) (hp : s[k] = c) (ha : (s.data.toList.take k).all (· != c) = true) : idxI s.data.toList c = k := by
  have hc : s.data.toList.contains c = true := by rw [List.contains_iff_mem, ← hp]; exact getElem_mem_data s k h
  have hl : k < s.data.toList.length := by simpa using h
  unfold idxI
  rw [if_pos hc, (List.findIdx_eq hl).2 ⟨?_, ?_⟩]
  · have : s.data.toList[k] = s[k] := rfl
    rw [this, hp]; simp
  · intro j hj
    rw [List.all_eq_true] at ha
    have := ha s.data.toList[j] (by rw [List.mem_take_iff_getElem]; exact ⟨j, by omega, rfl⟩)
    simpa using this
theorem idxI_none (s : ByteArray) (c : UInt8) (ha : s.data.toList.all (· != c) = true) : idxI s.data.toList c = -1 := by
  unfold idxI
  rw [if_neg]
  rw [List.contains_iff_mem]
  intro hm
  rw [List.all_eq_true] at ha
  simpa using ha c hm

set_option maxHeartbeats 400000 in
set_option maxRecDepth 100000 in
theorem zzIndex_calls (s : ByteArray) (n : Int) (c : UInt8) (hn : n = c.toNat) (w : World) (hs : s.size ≤ 2147483647) :
    Calls Try.prog 116 #[.string s, .int .u8 n] w fun e w' => e = .returned (.int .i64 (idxI s.data.toList c)) ∧ w = w' := by
  subst hn
  go_enter Try.func116, Try.ntmps116
  go_wp2
  go_loop [5] (fun i => ∃ k : Nat, k ≤ s.size ∧ i = .int .i64 k ∧ Hid ((s.data.toList.take k).all (· != c) = true)) (fun i => s.size - (intOf i).toNat)
  case atStart => exact ⟨0, Nat.zero_le _, rfl, by simp [Hid]⟩
  case round =>
    obtain ⟨k, hk, rfl, ha⟩ := hrel
    by_cases hlt : k < s.size
    · have H := Lib.hid (all_take_succ (p := (· != c)) s k hlt)
      by_cases h1 : s[k] = c
      · have h1' : (((s[k].toNat : Int)) == (c.toNat : Int)) = true := by simp [h1]
        have HE := Lib.hid h1
        clear h1
        go_wp2
        go_ret
        exact ⟨ret_int (by rw [idxI_at s c k hlt HE.out ha.out]), rfl⟩
      · have h1' : (((s[k].toNat : Int)) == (c.toNat : Int)) = false := by
          rw [beq_eq_false_iff_ne]; intro h; exact h1 (UInt8.toNat_inj.1 (by omega))
        have HE := Lib.hid h1
        clear h1
        go_wp2
        go_round
        case rel => exact ⟨k + 1, by omega, by go_num, by rw [Hid, H.out, ha.out]; simpa using HE.out⟩
        case measure => simp [intOf]; omega
    · go_wp2
      go_ret
      exact ⟨ret_int (by rw [idxI_none s c (all_of_take s k (by omega) ha.out)]), rfl⟩

theorem idxI_neg (l : List UInt8) (c : UInt8) : idxI l c < 0 ↔ l.contains c = false := by
  unfold idxI; split <;> simp_all <;> omega
theorem idxI_nonneg (l : List UInt8) (c : UInt8) : 0 ≤ idxI l c ↔ l.contains c = true := by
  unfold idxI; split <;> simp_all

def endsB (s e : ByteArray) : Bool := decide (e.size ≤ s.size) && s.data.toList.drop (s.size - e.size) == e.data.toList
set_option maxHeartbeats 400000 in
set_option maxRecDepth 100000 in
theorem zzEnds_calls (s e : ByteArray) (w : World) (hs : s.size ≤ 2147483647) (he : e.size ≤ 2147483647) :
    Calls Try.prog 120 #[.string s, .string e] w fun x w' => x = .returned (.bool (endsB s e)) ∧ w = w' := by
  by_cases h : e.size ≤ s.size
  · have h1 : decide ((e.size : Int) ≤ (s.size : Int)) = true := by simp; omega
    have h2 : decide (e.size ≤ s.size) = true := by simp; omega
    go_enter Try.func120, Try.ntmps120
    go_wp2
    go_ret
    exact ⟨ret_bool (by rw [endsB, h2, ByteArray.toList_eq, ByteArray.toList_eq, Lib.extract_data, List.take_of_length_le (by simp)]; rfl), rfl⟩
  · have h1 : decide ((e.size : Int) ≤ (s.size : Int)) = false := by simp; omega
    have h2 : decide (e.size ≤ s.size) = false := by simp; omega
    have HE := Lib.hid (show endsB s e = false by rw [endsB, h2]; rfl)
    go_enter Try.func120, Try.ntmps120
    go_wp2
    go_ret
    exact ⟨ret_bool HE.out.symm, rfl⟩

def styleB (s : ByteArray) : Bool := (!s.data.toList.contains 60) && (!s.data.toList.contains 62) && endsB s ⟨#[59]⟩ && s.data.toList.contains 58

set_option maxHeartbeats 400000 in
set_option maxRecDepth 100000 in
theorem styleConst_ok (s : ByteArray) (w : World) (hs : s.size ≤ 2147483647) (h : styleB s = true) :
    Calls Try.prog 92 #[.string s] w fun x w' => x = .returned (.agg #[.string s]) ∧ Below w.heap.size w w' := by
  simp only [styleB, Bool.and_eq_true, Bool.not_eq_true'] at h
  obtain ⟨⟨⟨h1, h2⟩, h3⟩, h4⟩ := h
  have g1 : decide (0 ≤ idxI s.data.toList 60) = false := by rw [decide_eq_false_iff_not, idxI_nonneg, h1]; simp
  have g2 : decide (0 ≤ idxI s.data.toList 62) = false := by rw [decide_eq_false_iff_not, idxI_nonneg, h2]; simp
  have g4 : decide (idxI s.data.toList 58 < 0) = false := by rw [decide_eq_false_iff_not, idxI_neg, h4]; simp
  have H1 := Lib.hid h1
  have H3 := Lib.hid h3
  clear h1 h2 h3 h4
  go_enter Try.func92, Try.ntmps92
  go_wp2_with fail
  refine (zzIndex_calls s 60 60 rfl _ hs).mono ?_
  rintro e w' ⟨rfl, rfl⟩
  go_wp2_with fail
  refine (zzIndex_calls s 62 62 rfl _ hs).mono ?_
  rintro e w' ⟨rfl, rfl⟩
  go_wp2_with fail
  refine (zzEnds_calls s ⟨#[59]⟩ _ hs (by decide)).mono ?_
  rintro e w' ⟨rfl, rfl⟩
  have h3 := H3.out
  go_wp2_with fail
  refine (zzIndex_calls s 58 58 rfl _ hs).mono ?_
  rintro e w' ⟨rfl, rfl⟩
  go_wp2
  refine bodyPost_ret (v := .agg #[.string s]) (by simp [results, Try.results92, go_sem]) rfl ⟨rfl, ?_⟩
  exact (Below.refl _ _).alloc (Nat.le_refl _) _

set_option maxHeartbeats 400000 in
set_option maxRecDepth 100000 in
theorem styleConst_panics (s : ByteArray) (w : World) (hs : s.size ≤ 2147483647) (h : styleB s = false) :
    Calls Try.prog 92 #[.string s] w fun x w' => Pan x ∧ Below w.heap.size w w' := by
  cases h1 : s.data.toList.contains 60
  · have g1 : decide (0 ≤ idxI s.data.toList 60) = false := by rw [decide_eq_false_iff_not, idxI_nonneg, h1]; simp
    cases h2 : s.data.toList.contains 62
    · have g2 : decide (0 ≤ idxI s.data.toList 62) = false := by rw [decide_eq_false_iff_not, idxI_nonneg, h2]; simp
      cases h3 : endsB s ⟨#[59]⟩
      · have H3 := Lib.hid h3
        clear h1 h2 h3 h
        go_enter Try.func92, Try.ntmps92
        go_wp2_with fail
        refine (zzIndex_calls s 60 60 rfl _ hs).mono ?_
        rintro e w' ⟨rfl, rfl⟩
        go_wp2_with fail
        refine (zzIndex_calls s 62 62 rfl _ hs).mono ?_
        rintro e w' ⟨rfl, rfl⟩
        go_wp2_with fail
        refine (zzEnds_calls s ⟨#[59]⟩ _ hs (by decide)).mono ?_
        rintro e w' ⟨rfl, rfl⟩
        have h3 := H3.out
        go_wp2
        exact ⟨rfl, ⟨_, _, rfl⟩, (Below.refl _ _).alloc (Nat.le_refl _) _⟩
      · have h4 : s.data.toList.contains 58 = false := by rw [styleB, h1, h2, h3] at h; simpa only [Bool.not_false, Bool.true_and] using h
        have g4 : decide (idxI s.data.toList 58 < 0) = true := by rw [decide_eq_true_iff, idxI_neg, h4]
        have H3 := Lib.hid h3
        clear h1 h2 h3 h4 h
        go_enter Try.func92, Try.ntmps92
        go_wp2_with fail
        refine (zzIndex_calls s 60 60 rfl _ hs).mono ?_
        rintro e w' ⟨rfl, rfl⟩
        go_wp2_with fail
        refine (zzIndex_calls s 62 62 rfl _ hs).mono ?_
        rintro e w' ⟨rfl, rfl⟩
        go_wp2_with fail
        refine (zzEnds_calls s ⟨#[59]⟩ _ hs (by decide)).mono ?_
        rintro e w' ⟨rfl, rfl⟩
        have h3 := H3.out
        go_wp2_with fail
        refine (zzIndex_calls s 58 58 rfl _ hs).mono ?_
        rintro e w' ⟨rfl, rfl⟩
        go_wp2
        exact ⟨rfl, ⟨_, _, rfl⟩, (Below.refl _ _).alloc (Nat.le_refl _) _⟩
    · have g2 : decide (0 ≤ idxI s.data.toList 62) = true := by rw [decide_eq_true_iff, idxI_nonneg, h2]
      clear h1 h2 h
      go_enter Try.func92, Try.ntmps92
      go_wp2_with fail
      refine (zzIndex_calls s 60 60 rfl _ hs).mono ?_
      rintro e w' ⟨rfl, rfl⟩
      go_wp2_with fail
      refine (zzIndex_calls s 62 62 rfl _ hs).mono ?_
      rintro e w' ⟨rfl, rfl⟩
      go_wp2
      exact ⟨rfl, ⟨_, _, rfl⟩, (Below.refl _ _).alloc (Nat.le_refl _) _⟩
  · have g1 : decide (0 ≤ idxI s.data.toList 60) = true := by rw [decide_eq_true_iff, idxI_nonneg, h1]
    clear h1 h
    go_enter Try.func92, Try.ntmps92
    go_wp2_with fail
    refine (zzIndex_calls s 60 60 rfl _ hs).mono ?_
    rintro e w' ⟨rfl, rfl⟩
    go_wp2
    exact ⟨rfl, ⟨_, _, rfl⟩, (Below.refl _ _).alloc (Nat.le_refl _) _⟩

/- ZZStyle, String, the closure handed to told. -/
set_option maxRecDepth 100000 in
theorem zzStyle_ok (s : ByteArray) (w : World) (hs : s.size ≤ 2147483647) (h : Hid (styleB s = true)) :
    Calls Try.prog 53 #[.string s] w fun x w' => x = .returned (.agg #[.string s]) ∧ Below w.heap.size w w' := by
  go_enter Try.func53, Try.ntmps53
  go_wp2_with fail
  refine (styleConst_ok s _ hs h.out).mono ?_
  rintro e w1 ⟨rfl, hb⟩
  have hc := own_cell hb 0
  have hf := own_free hb 0
  have HB := Lib.hid hb
  clear hb
  simp at hc
  go_wp2
  refine bodyPost_ret (v := .agg #[.string s]) (by simp [results, Try.results53, go_sem, hc]) rfl ⟨rfl, ?_⟩
  exact (below_own HB.out).setCell (Nat.le_refl _) _
set_option maxRecDepth 100000 in
theorem zzStyle_panics (s : ByteArray) (w : World) (hs : s.size ≤ 2147483647) (h : Hid (styleB s = false)) :
    Calls Try.prog 53 #[.string s] w fun x w' => Pan x ∧ Below w.heap.size w w' := by
  go_enter Try.func53, Try.ntmps53
  go_wp2_with fail
  refine (styleConst_panics s _ hs h.out).mono ?_
  rintro e w1 ⟨⟨T, v, rfl⟩, hb⟩
  go_wp2
  exact ⟨rfl, ⟨_, _, rfl⟩, below_own hb⟩
set_option maxRecDepth 100000 in
theorem styleString_calls (s : ByteArray) (w : World) :
    Calls Try.prog 54 #[.agg #[.string s]] w fun x w' => x = .returned (.string s) ∧ Below w.heap.size w w' := by
  go_enter Try.func54, Try.ntmps54
  go_wp2
  go_ret
  exact ⟨rfl, (Below.refl _ _).alloc (Nat.le_refl _) _⟩
set_option maxRecDepth 100000 in
theorem constant1_ok (s : ByteArray) (p : Addr) (w : World) (hs : s.size ≤ 2147483647) (h : Hid (styleB s = true)) (hc : w.cell? p = some (.string s)) :
    Calls Try.prog 52 #[.pointer (some p)] w fun x w' => x = .returned (.string s) ∧ Below w.heap.size w w' := by
  go_enter Try.func52, Try.ntmps52
  go_wp2_with fail
  refine (zzStyle_ok s _ hs h).mono ?_
  rintro e w1 ⟨rfl, hb⟩
  go_wp2_with fail
  refine (styleString_calls s _).mono ?_
  rintro e w2 ⟨rfl, hb2⟩
  go_wp2
  go_ret
  exact ⟨rfl, below_then hb hb.size hb2⟩
set_option maxRecDepth 100000 in
theorem constant1_panics (s : ByteArray) (p : Addr) (w : World) (hs : s.size ≤ 2147483647) (h : Hid (styleB s = false)) (hc : w.cell? p = some (.string s)) :
    Calls Try.prog 52 #[.pointer (some p)] w fun x w' => Pan x ∧ Below w.heap.size w w' := by
  go_enter Try.func52, Try.ntmps52
  go_wp2_with fail
  refine (zzStyle_panics s _ hs h).mono ?_
  rintro e w1 ⟨⟨T, v, rfl⟩, hb⟩
  go_wp2
  exact ⟨rfl, ⟨_, _, rfl⟩, hb⟩
end Go.Proofs.Ytmgkolcpomaceaa
