/- spec.shown, spec.value, spec.Said; filter and the pattern of displays. -/
import Derived.Test.YtmgkolcpomaceaaK1
import Derived.Test.YtmgkolcpomaceaaJ2
import Derived.Deep.DeepCutAuto
namespace Go.Proofs.Ytmgkolcpomaceaa
open Go.RowKit
set_option linter.unusedVariables false
set_option linter.unusedSimpArgs false

def wrongS : ByteArray := ⟨#[122, 71, 111, 83, 97, 102, 101, 122, 73, 110, 118, 97, 108, 105, 100, 80, 114, 111, 112, 101, 114, 116, 121, 86, 97, 108, 117, 101]⟩
def shownS (s : ByteArray) : ByteArray := if s.data.toList.all dashC = true then s else wrongS
theorem enters139 : Enters 139 := fun args w => by simp [go_sem, Try.func139]
theorem enters140 : Enters 140 := fun args w => by simp [go_sem, Try.func140]
theorem enters158 : Enters 158 := fun args w => by simp [go_sem, Try.func158]
theorem enters159 : Enters 159 := fun args w => by simp [go_sem, Try.func159]

set_option maxRecDepth 100000 in
theorem shown_calls (s : ByteArray) (w : World) (hs : s.size ≤ 2147483647) :
    Calls Try.prog 110 #[.string s] w fun e w' => e = .returned (.string (shownS s)) ∧ Below w.heap.size w w' := by
  have HC := Lib.hid (fun w => specAll_calls 139 dashC enters139 (Lib.hid fun c w => shown1_calls c w) s w hs)
  have HS := Lib.hid (show shownS s = if s.data.toList.all dashC = true then s else wrongS from rfl)
  generalize s.data.toList.all dashC = b at HC HS
  cases b with
  | true =>
    go_enter Try.func110, Try.ntmps110
    go_wp2_with fail
    refine (HC.out _).mono ?_
    rintro e w1 ⟨rfl, hb⟩
    go_wp2_with fail
    go_ret
    exact ⟨ret_string (by rw [HS.out]; rfl), hb⟩
  | false =>
    go_enter Try.func110, Try.ntmps110
    go_wp2_with fail
    refine (HC.out _).mono ?_
    rintro e w1 ⟨rfl, hb⟩
    go_wp2_with fail
    go_ret
    exact ⟨ret_string (by rw [HS.out]; rfl), hb⟩

set_option maxRecDepth 100000 in
theorem enum_calls (s : ByteArray) (w : World) (hs : s.size ≤ 2147483647) :
    Calls Try.prog 136 #[.string s] w fun e w' => e = .returned (.bool (s.data.toList.all dashC)) ∧ Below w.heap.size w w' := by
  have HE := Lib.hid (show s.data.toList.all dashC2 = s.data.toList.all dashC by congr 1; funext c; exact dashC_eq c)
  have HC := Lib.hid (fun w => zzAll_calls 159 dashC2 enters159 (Lib.hid fun c w => enum1_calls c w) s w hs)
  rw [HE.out] at HC
  clear HE
  generalize s.data.toList.all dashC = b at HC
  go_enter Try.func136, Try.ntmps136
  go_wp2_with fail
  refine (HC.out _).mono ?_
  rintro e w1 ⟨rfl, hb⟩
  go_wp2_with fail
  go_ret
  exact ⟨rfl, hb⟩

set_option maxRecDepth 100000 in
/-- filter: the text itself, or what stands for a wrong one. -/
theorem filter_calls (m : FuncId) (b : Bool) (hcf : Enters m) (s : ByteArray) (w : World)
    (hm : Hid (∀ w : World, Calls Try.prog m #[.string s] w fun e w' => e = .returned (.bool b) ∧ Below w.heap.size w w')) :
    Calls Try.prog 135 #[.string s, .func (.func m) #[] #[]] w fun e w' => e = .returned (.string (if b = true then s else wrongS)) ∧ Below w.heap.size w w' := by
  unfold Enters at hcf
  cases b with
  | true =>
    go_enter Try.func135, Try.ntmps135
    go_wp2_with fail
    refine (hm.out _).mono ?_
    rintro e w1 ⟨rfl, hb⟩
    go_wp2_with fail
    go_ret
    exact ⟨rfl, hb⟩
  | false =>
    go_enter Try.func135, Try.ntmps135
    go_wp2_with fail
    refine (hm.out _).mono ?_
    rintro e w1 ⟨rfl, hb⟩
    go_wp2_with fail
    go_ret
    exact ⟨rfl, hb⟩

/-- What spec.Said asks of place i. -/
def saidAt (l : List UInt8) (i : Nat) : Bool := !(l.getD i 0 == 44 || (decide (0 < i) && l.getD i 0 == 42 && l.getD (i - 1) 0 == 42))
def saidL (l : List UInt8) : Bool := (List.range l.length).all (saidAt l)
/-- What spec.value asks of place i. -/
def valueAt (l : List UInt8) (i : Nat) : Bool := cssC (l.getD i 0) || ((l.getD i 0 == 42 || l.getD i 0 == 47) && (decide (l.length ≤ i + 1) || cssC (l.getD (i + 1) 0)))
def valueL (l : List UInt8) : Bool := (List.range l.length).all (valueAt l)
def valueS (s : ByteArray) : ByteArray := if valueL s.data.toList = true then s else wrongS
theorem range_all_succ' (f : Nat → Bool) (k : Nat) : (List.range (k + 1)).all f = ((List.range k).all f && f k) := by
  rw [List.range_succ, List.all_append]; simp
theorem range_all_false' (f : Nat → Bool) (n k : Nat) (h : k < n) (hf : f k = false) : (List.range n).all f = false := by
  rw [Bool.eq_false_iff]
  intro h1
  have := List.all_eq_true.1 h1 k (by simpa using h)
  rw [hf] at this; cases this
theorem getD_at (s : ByteArray) (k : Nat) (h : k < s.size) : s.data.toList.getD k 0 = s[k] := by
  rw [List.getD_eq_getElem?_getD, List.getElem?_eq_getElem (by simpa using h)]; rfl

theorem said_iff (s : ByteArray) (k : Nat) (h : k < s.size) : saidAt s.data.toList k = false ↔ (s[k].toNat = 44 ∨ (0 < k ∧ s[k].toNat = 42 ∧ s[k - 1].toNat = 42)) := by
  rw [saidAt, getD_at s k h, getD_at s (k - 1) (by omega)]
  simp [← UInt8.toNat_inj]
  omega

set_option maxHeartbeats 8000000 in
set_option maxRecDepth 100000 in
theorem said_calls (s : ByteArray) (w : World) (hs : s.size ≤ 2147483647) :
    Calls Try.prog 115 #[.string s] w fun e w' => e = .returned (.bool (saidL s.data.toList)) ∧ w = w' := by
  have HL := Lib.hid (show saidL s.data.toList = (List.range s.size).all (saidAt s.data.toList) by rw [saidL]; simp)
  go_enter Try.func115, Try.ntmps115
  go_wp2_with fail
  go_loopg [3] s.size (fun gk i wr => ∃ k : Nat, gk = s.size - k ∧ k ≤ s.size ∧ i = .int .i64 k ∧ Hid ((List.range k).all (saidAt s.data.toList) = true) ∧ wr = w)
  case atStart => exact ⟨0, rfl, Nat.zero_le _, rfl, by simp [Hid], rfl⟩
  case round =>
    obtain ⟨k, hgk, hk, rfl, ha, rfl⟩ := hrel
    have HG := Lib.hid hgk
    clear hgk
    by_cases hlt : k < s.size
    · have H := Lib.hid (range_all_succ' (saidAt s.data.toList) k)
      have HF := Lib.hid (said_iff s k hlt)
      go_wp2_with fail
      all_goals (first
        | (have hsd : saidAt s.data.toList k = false := HF.out.2 (by (try simp only [beq_iff_eq, beq_eq_false_iff_ne] at *); omega)
           go_ret
           exact ⟨ret_bool (by rw [HL.out, range_all_false' _ _ k hlt hsd]), rfl⟩)
        | (have hsd : saidAt s.data.toList k = true := by
             rw [← Bool.not_eq_false, HF.out]; (try simp only [beq_iff_eq, beq_eq_false_iff_ne] at *); omega
           go_roundg (s.size - (k + 1))
           case measure => rw [HG.out]; omega
           case rel => exact ⟨k + 1, rfl, by omega, by simp, by rw [Hid, H.out, ha.out, hsd]; rfl, rfl⟩)
        | (trace_state; fail))
    · have hks : k = s.size := by omega
      have HT := Lib.hid (show (List.range s.size).all (saidAt s.data.toList) = true by rw [← hks]; exact ha.out)
      clear hks HG
      go_wp2_with fail
      go_ret
      exact ⟨ret_bool (by rw [HL.out, HT.out]), rfl⟩
end Go.Proofs.Ytmgkolcpomaceaa
