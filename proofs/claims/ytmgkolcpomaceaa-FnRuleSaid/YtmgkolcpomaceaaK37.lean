/- Selectors: spec.Rule, CSSRule, impl.Rule and FnRule. -/
import Derived.Test.YtmgkolcpomaceaaB8
import Derived.Test.YtmgkolcpomaceaaK7
import Derived.Test.YtmgkolcpomaceaaB2
import Derived.Deep.DeepCutAuto
import Derived.Deep.CutBlock
import Derived.Test.YtmgkolcpomaceaaH2
import Derived.Test.YtmgkolcpomaceaaK8
import Derived.Test.YtmgkolcpomaceaaK28
namespace Go.Proofs.Ytmgkolcpomaceaa
open Go.RowKit
set_option linter.unusedVariables false
set_option linter.unusedSimpArgs false

def quoteC (c : UInt8) : Bool := c == 34 || c == 39
def lineC (c : UInt8) : Bool := c == 10 || c == 12 || c == 13
/-- Behind a quote: how many bytes there are up to the closing one, it counted. -/
def strN (q : UInt8) : List UInt8 → Option Nat
  | [] => none
  | [c] => if c == q then some 1 else none
  | c :: d :: r => if c == q then some 1 else if lineC c then none else if c == 92 then (strN q r).map (· + 2) else (strN q (d :: r)).map (· + 1)
theorem strN_pos {q : UInt8} : ∀ {l : List UInt8} {n : Nat}, strN q l = some n → 1 ≤ n ∧ n ≤ l.length
  | [], n, h => by cases h
  | [c], n, h => by
    rw [strN] at h
    split at h
    · cases h; simp
    · cases h
  | c :: d :: r, n, h => by
    rw [strN] at h
    split at h
    · cases h; simp
    · split at h
      · cases h
      · split at h
        · rw [Option.map_eq_some_iff] at h
          obtain ⟨m, hm, rfl⟩ := h
          have := strN_pos hm
          simp only [List.length_cons]; omega
        · rw [Option.map_eq_some_iff] at h
          obtain ⟨m, hm, rfl⟩ := h
          have := strN_pos hm
          simp only [List.length_cons] at *; omega
theorem strN_close {q : UInt8} {l : List UInt8} : strN q (q :: l) = some 1 := by
  cases l <;> simp [strN]
theorem strN_line {q c : UInt8} {l : List UInt8} (h1 : (c == q) = false) (h2 : lineC c = true) : strN q (c :: l) = none := by
  cases l <;> simp [strN, h1, h2]
theorem strN_slash {q c : UInt8} {l : List UInt8} (h1 : (c == q) = false) (h2 : lineC c = false) (h3 : (c == 92) = true) : strN q (c :: l) = (strN q (l.drop 1)).map (· + 2) := by
  cases l with
  | nil => simp [strN, h1]
  | cons d r => simp [strN, h1, h2, h3]
theorem strN_on {q c : UInt8} {l : List UInt8} (h1 : (c == q) = false) (h2 : lineC c = false) (h3 : (c == 92) = false) : strN q (c :: l) = (strN q l).map (· + 1) := by
  cases l with
  | nil => simp [strN, h1]
  | cons d r => simp [strN, h1, h2, h3]

def withoutL (L : List UInt8) : List UInt8 :=
  match L with
  | [] => []
  | c :: r => if quoteC c = true then match strN c r with
      | some n => withoutL (r.drop n)
      | none => c :: withoutL r
    else c :: withoutL r
termination_by L.length
decreasing_by all_goals simp; try omega
theorem withoutL_nil : withoutL [] = [] := by rw [withoutL]
theorem withoutL_plain {c : UInt8} {r : List UInt8} (h : quoteC c = false) : withoutL (c :: r) = c :: withoutL r := by
  rw [withoutL, if_neg (by rw [h]; simp)]
theorem withoutL_none {c : UInt8} {r : List UInt8} (h : strN c r = none) : withoutL (c :: r) = c :: withoutL r := by
  rw [withoutL, h]
  split <;> rfl
theorem withoutL_some {c : UInt8} {r : List UInt8} {n : Nat} (h : quoteC c = true) (hn : strN c r = some n) : withoutL (c :: r) = withoutL (r.drop n) := by
  rw [withoutL, if_pos h, hn]

def selSpec : List UInt8 := [45, 95, 35, 46, 58, 42, 32, 44, 62, 43, 126, 61, 94, 36, 124]
def selImpl : List UInt8 := [45, 95, 35, 46, 58, 42, 32, 44, 62, 43, 126, 91, 93, 40, 41, 61, 94, 36, 124]
def validC (c : UInt8) : Bool := letterC c || digitC c || selImpl.contains c
def openC (c : UInt8) : Bool := c == 40 || c == 91
def shutC (c : UInt8) : Bool := c == 41 || c == 93
def mateC (c : UInt8) : UInt8 := if c == 41 then 40 else 91
/-- A bracket that shuts. -/
def popL (st : List UInt8) (c : UInt8) : Option (List UInt8) := if st.getLast? = some (mateC c) then some st.dropLast else none
def ruleL (st : List UInt8) (L : List UInt8) : Bool :=
  match L with
  | [] => st.isEmpty
  | c :: r => if c == 60 then false
    else if quoteC c = true then match strN c r with
      | some n => !((r.take n).contains 60) && ruleL st (r.drop n)
      | none => false
    else if openC c = true then ruleL (st ++ [c]) r
    else if shutC c = true then match popL st c with
      | some st' => ruleL st' r
      | none => false
    else (letterC c || digitC c || selSpec.contains c) && ruleL st r
termination_by L.length
decreasing_by all_goals simp; try omega
def balL : List UInt8 → List UInt8 → Bool
  | st, [] => st.isEmpty
  | st, c :: r => if shutC c = true then match popL st c with
      | some st' => balL st' r
      | none => false
    else if openC c = true then balL (st ++ [c]) r else balL st r
def noLtL (L : List UInt8) : Bool := !(L.contains 60)
theorem ruleL_nil (st : List UInt8) : ruleL st [] = st.isEmpty := by rw [ruleL]
theorem ruleL_lt (st r : List UInt8) : ruleL st (60 :: r) = false := by rw [ruleL]; rfl
theorem ruleL_none {st r : List UInt8} {c : UInt8} (h1 : (c == 60) = false) (h : quoteC c = true) (hn : strN c r = none) : ruleL st (c :: r) = false := by
  rw [ruleL, h1, if_neg (by simp), if_pos h, hn]
theorem ruleL_some {st r : List UInt8} {c : UInt8} {n : Nat} (h1 : (c == 60) = false) (h : quoteC c = true) (hn : strN c r = some n) : ruleL st (c :: r) = (!((r.take n).contains 60) && ruleL st (r.drop n)) := by
  rw [ruleL, h1, if_neg (by simp), if_pos h, hn]
theorem ruleL_open {st r : List UInt8} {c : UInt8} (h : openC c = true) : ruleL st (c :: r) = ruleL (st ++ [c]) r := by
  have h1 : (c == 60) = false := by simp only [openC, Bool.or_eq_true, beq_iff_eq] at h; rcases h with rfl | rfl <;> decide
  have h2 : quoteC c = false := by simp only [openC, Bool.or_eq_true, beq_iff_eq] at h; rcases h with rfl | rfl <;> decide
  rw [ruleL, h1, h2, if_neg (by simp), if_neg (by simp), if_pos h]
theorem ruleL_shut {st r : List UInt8} {c : UInt8} (h : shutC c = true) : ruleL st (c :: r) = match popL st c with
      | some st' => ruleL st' r
      | none => false := by
  have h1 : (c == 60) = false := by simp only [shutC, Bool.or_eq_true, beq_iff_eq] at h; rcases h with rfl | rfl <;> decide
  have h2 : quoteC c = false := by simp only [shutC, Bool.or_eq_true, beq_iff_eq] at h; rcases h with rfl | rfl <;> decide
  have h3 : openC c = false := by simp only [shutC, Bool.or_eq_true, beq_iff_eq] at h; rcases h with rfl | rfl <;> decide
  rw [ruleL, h1, h2, h3, if_neg (by simp), if_neg (by simp), if_neg (by simp), if_pos h]
theorem ruleL_on {st r : List UInt8} {c : UInt8} (h1 : (c == 60) = false) (h2 : quoteC c = false) (h3 : openC c = false) (h4 : shutC c = false) : ruleL st (c :: r) = ((letterC c || digitC c || selSpec.contains c) && ruleL st r) := by
  rw [ruleL, h1, h2, h3, h4, if_neg (by simp), if_neg (by simp), if_neg (by simp), if_neg (by simp)]
theorem byteAll {p : UInt8 → Bool} (h : ∀ n : Fin 256, p (UInt8.ofNat n.val) = true) (b : UInt8) : p b = true := by
  have := h ⟨b.toNat, b.toNat_lt⟩
  simpa using this
theorem valid_quote {c : UInt8} (h : quoteC c = true) : validC c = false := by
  simp only [quoteC, Bool.or_eq_true, beq_iff_eq] at h; rcases h with rfl | rfl <;> decide
theorem valid_open {c : UInt8} (h : openC c = true) : validC c = true := by
  simp only [openC, Bool.or_eq_true, beq_iff_eq] at h; rcases h with rfl | rfl <;> decide
theorem valid_shut {c : UInt8} (h : shutC c = true) : validC c = true := by
  simp only [shutC, Bool.or_eq_true, beq_iff_eq] at h; rcases h with rfl | rfl <;> decide
theorem valid_on {c : UInt8} (h3 : openC c = false) (h4 : shutC c = false) : validC c = (letterC c || digitC c || selSpec.contains c) := by
  have h := byteAll (p := fun c => openC c || shutC c || (validC c == (letterC c || digitC c || selSpec.contains c))) (by decide +kernel) c
  simp only [h3, h4, Bool.false_or, beq_iff_eq] at h
  exact h
theorem quote_lt {c : UInt8} (h : quoteC c = true) : (c == 60) = false := by
  simp only [quoteC, Bool.or_eq_true, beq_iff_eq] at h; rcases h with rfl | rfl <;> decide
theorem open_lt {c : UInt8} (h : openC c = true) : (c == 60) = false ∧ quoteC c = false ∧ shutC c = false := by
  simp only [openC, Bool.or_eq_true, beq_iff_eq] at h; rcases h with rfl | rfl <;> decide
theorem shut_lt {c : UInt8} (h : shutC c = true) : (c == 60) = false ∧ quoteC c = false ∧ openC c = false := by
  simp only [shutC, Bool.or_eq_true, beq_iff_eq] at h; rcases h with rfl | rfl <;> decide
theorem noLt_cons {c : UInt8} {r : List UInt8} (h : (c == 60) = false) : noLtL (c :: r) = noLtL r := by
  have h' : ¬ (60 : UInt8) = c := fun e => by rw [← e] at h; cases h
  simp [noLtL, List.contains_cons, h']
theorem noLt_split (r : List UInt8) (n : Nat) : noLtL r = (!((r.take n).contains 60) && noLtL (r.drop n)) := by
  conv => lhs; rw [← List.take_append_drop n r]
  unfold noLtL
  have h : (r.take n ++ r.drop n).contains (60 : UInt8) = ((r.take n).contains 60 || (r.drop n).contains 60) := by
    rw [Bool.eq_iff_iff]
    simp only [List.contains_iff_mem, List.mem_append, Bool.or_eq_true]
  rw [h, Bool.not_or]
theorem rule_law : ∀ (k : Nat) (L st : List UInt8), L.length ≤ k → ruleL st L = (noLtL L && (withoutL L).all validC && balL st (withoutL L)) := by
  intro k
  induction k with
  | zero =>
    intro L st h
    obtain rfl := List.eq_nil_of_length_eq_zero (Nat.le_zero.1 h)
    rw [ruleL_nil, withoutL_nil, balL]; rfl
  | succ k ih =>
    intro L st h
    cases L with
    | nil => rw [ruleL_nil, withoutL_nil, balL]; rfl
    | cons c r =>
      have hr : r.length ≤ k := by simp only [List.length_cons] at h; omega
      cases h60 : (c == 60) with
      | true =>
        obtain rfl := beq_iff_eq.1 h60
        rw [ruleL_lt]; simp [noLtL]
      | false =>
        rw [noLt_cons h60]
        cases hq : quoteC c with
        | true =>
          cases hn : strN c r with
          | none =>
            rw [ruleL_none h60 hq hn, withoutL_none hn, List.all_cons, valid_quote hq]; simp
          | some n =>
            rw [ruleL_some h60 hq hn, withoutL_some hq hn, ih (r.drop n) st (by simp; omega), noLt_split r n]
            simp [Bool.and_assoc]
        | false =>
          rw [withoutL_plain hq]
          cases ho : openC c with
          | true =>
            have hs := (open_lt ho).2.2
            rw [ruleL_open ho, ih r _ hr, List.all_cons, valid_open ho, Bool.true_and, balL, if_neg (by rw [hs]; simp), if_pos ho]
          | false =>
            cases hs : shutC c with
            | true =>
              rw [ruleL_shut hs, List.all_cons, valid_shut hs, Bool.true_and, balL, if_pos hs]
              cases popL st c with
              | none => simp
              | some st' => exact ih r st' hr
            | false =>
              rw [ruleL_on h60 hq ho hs, ih r st hr, List.all_cons, valid_on ho hs, balL, if_neg (by rw [hs]; simp), if_neg (by rw [ho]; simp)]
              cases (letterC c || digitC c || selSpec.contains c) <;> simp
theorem rule_same (L : List UInt8) : ruleL [] L = (noLtL L && (withoutL L).all validC && balL [] (withoutL L)) := rule_law L.length L [] (Nat.le_refl _)
end Go.Proofs.Ytmgkolcpomaceaa
namespace Go.Proofs.Ytmgkolcpomaceaa
open Go.RowKit
set_option linter.unusedVariables false
set_option linter.unusedSimpArgs false

def strV (fr : Nat) (z : Int) (r : Option Nat) : Int := match r with | some n => ((fr + 1 + n : Nat) : Int) | none => z
theorem nat_beq (c d : UInt8) : (c.toNat == d.toNat) = (c == d) := by
  rw [Bool.eq_iff_iff]; simp [← UInt8.toNat_inj]

set_option maxHeartbeats 8000000 in
set_option maxRecDepth 100000 in
theorem zzString_calls (s : ByteArray) (fr : Nat) (hfr : fr < s.size) (w : World) (hs : s.size ≤ 2147483647) :
    Calls Try.prog 142 #[.string s, .int .i64 fr] w fun e w' => e = .returned (.int .i64 (strV fr (fr : Int) (strN s[fr] (s.data.toList.drop (fr + 1))))) ∧ w = w' := by
  obtain ⟨r, hr⟩ : ∃ r, strN s[fr] (s.data.toList.drop (fr + 1)) = r := ⟨_, rfl⟩
  have HR := Lib.hid hr
  rw [hr]
  clear hr
  go_enter Try.func142, Try.ntmps142
  go_wp2_with fail
  go_loop [5] (fun i => ∃ k : Nat, fr + 1 ≤ k ∧ k ≤ s.size + 1 ∧ i = .int .i64 k ∧ Hid (r = (strN s[fr] (s.data.toList.drop k)).map (· + (k - (fr + 1))))) (fun i => s.size + 1 - (intOf i).toNat)
  case atStart => exact ⟨fr + 1, Nat.le_refl _, by omega, by simp, by rw [Hid, ← HR.out]; simp⟩
  case round =>
    obtain ⟨k, hk1, hk2, rfl, hp⟩ := hrel
    by_cases hlt : k < s.size
    · have HD := Lib.hid (drop_byte s k hlt)
      have HQ := Lib.hid (u8_beq s[k] s[fr])
      have hv := u8_beq s[k] 10
      rw [show ((10:UInt8).toNat : Int) = 10 from rfl] at hv
      have HV10 := Lib.hid hv
      clear hv
      have hv := u8_beq s[k] 12
      rw [show ((12:UInt8).toNat : Int) = 12 from rfl] at hv
      have HV12 := Lib.hid hv
      clear hv
      have hv := u8_beq s[k] 13
      rw [show ((13:UInt8).toNat : Int) = 13 from rfl] at hv
      have HV13 := Lib.hid hv
      clear hv
      have hv := u8_beq s[k] 92
      rw [show ((92:UInt8).toNat : Int) = 92 from rfl] at hv
      have HV92 := Lib.hid hv
      clear hv
      have HNn := Lib.hid (nat_beq s[k] s[fr])
      cases hq : (s[k] == s[fr]) with
      | true =>
        have gq := HQ.out.trans hq
        have gn := HNn.out.trans hq
        have HE := Lib.hid (show r = some (k - fr) by
          rw [hp.out, HD.out, beq_iff_eq.1 hq, strN_close]
          show some (1 + (k - (fr + 1))) = _
          congr 1; omega)
        clear hq
        go_wp2_with fail
        go_ret
        exact ⟨ret_int (by rw [HE.out, strV]; show (k : Int) + 1 = _; omega), rfl⟩
      | false =>
        have gq := HQ.out.trans hq
        have gn := HNn.out.trans hq
        have Hq := Lib.hid hq
        clear hq
        cases h13 : ((s[k].toNat : Int) == 13) with
        | true =>
          have G13 := Lib.hid (HV13.out.symm.trans h13)
          have HL := Lib.hid (show lineC s[k] = true by rw [beq_iff_eq.1 G13.out]; rfl)
          have HE := Lib.hid (show r = none by rw [hp.out, HD.out, strN_line Hq.out HL.out]; rfl)
          go_wp2_with fail
          go_ret
          exact ⟨ret_int (by rw [HE.out]; rfl), rfl⟩
        | false =>
          have G13 := Lib.hid (HV13.out.symm.trans h13)
          cases h10 : ((s[k].toNat : Int) == 10) with
          | true =>
            have G10 := Lib.hid (HV10.out.symm.trans h10)
            have HL := Lib.hid (show lineC s[k] = true by rw [beq_iff_eq.1 G10.out]; rfl)
            have HE := Lib.hid (show r = none by rw [hp.out, HD.out, strN_line Hq.out HL.out]; rfl)
            go_wp2_with fail
            go_ret
            exact ⟨ret_int (by rw [HE.out]; rfl), rfl⟩
          | false =>
            have G10 := Lib.hid (HV10.out.symm.trans h10)
            cases h12 : ((s[k].toNat : Int) == 12) with
            | true =>
              have G12 := Lib.hid (HV12.out.symm.trans h12)
              have HL := Lib.hid (show lineC s[k] = true by rw [beq_iff_eq.1 G12.out]; rfl)
              have HE := Lib.hid (show r = none by rw [hp.out, HD.out, strN_line Hq.out HL.out]; rfl)
              go_wp2_with fail
              go_ret
              exact ⟨ret_int (by rw [HE.out]; rfl), rfl⟩
            | false =>
              have G12 := Lib.hid (HV12.out.symm.trans h12)
              cases h92 : ((s[k].toNat : Int) == 92) with
              | true =>
                have G92 := Lib.hid (HV92.out.symm.trans h92)
                have HL := Lib.hid (show lineC s[k] = false by rw [lineC, G10.out, G12.out, G13.out]; rfl)
                have HE := Lib.hid (show r = (strN s[fr] (s.data.toList.drop (k + 2))).map (· + (k + 2 - (fr + 1))) by
                  rw [hp.out, HD.out, strN_slash Hq.out HL.out G92.out, List.drop_drop, Option.map_map]
                  congr 1
                  funext n
                  show n + 2 + (k - (fr + 1)) = _
                  omega)
                go_wp2_with fail
                go_round
                case rel => exact ⟨k + 2, by omega, by omega, by simp; omega, HE⟩
                case measure => simp [intOf]; omega
              | false =>
                have G92 := Lib.hid (HV92.out.symm.trans h92)
                have HL := Lib.hid (show lineC s[k] = false by rw [lineC, G10.out, G12.out, G13.out]; rfl)
                have HE := Lib.hid (show r = (strN s[fr] (s.data.toList.drop (k + 1))).map (· + (k + 1 - (fr + 1))) by
                  rw [hp.out, HD.out, strN_on Hq.out HL.out G92.out, Option.map_map]
                  congr 1
                  funext n
                  show n + 1 + (k - (fr + 1)) = _
                  omega)
                go_wp2_with fail
                go_round
                case rel => exact ⟨k + 1, by omega, by omega, by simp, HE⟩
                case measure => simp [intOf]; omega
    · have HE := Lib.hid (show r = none by rw [hp.out, List.drop_eq_nil_of_le (by simp; omega)]; rfl)
      go_wp2_with fail
      go_ret
      exact ⟨ret_int (by rw [HE.out]; rfl), rfl⟩

set_option maxHeartbeats 8000000 in
set_option maxRecDepth 100000 in
theorem specText_calls (s : ByteArray) (fr : Nat) (hfr : fr < s.size) (w : World) (hs : s.size ≤ 2147483647) :
    Calls Try.prog 89 #[.string s, .int .i64 fr] w fun e w' => e = .returned (.int .i64 (strV fr (-1 : Int) (strN s[fr] (s.data.toList.drop (fr + 1))))) ∧ w = w' := by
  obtain ⟨r, hr⟩ : ∃ r, strN s[fr] (s.data.toList.drop (fr + 1)) = r := ⟨_, rfl⟩
  have HR := Lib.hid hr
  rw [hr]
  clear hr
  go_enter Try.func89, Try.ntmps89
  go_wp2_with fail
  go_loop [1] (fun i => ∃ k : Nat, fr + 1 ≤ k ∧ k ≤ s.size + 1 ∧ i = .int .i64 k ∧ Hid (r = (strN s[fr] (s.data.toList.drop k)).map (· + (k - (fr + 1))))) (fun i => s.size + 1 - (intOf i).toNat)
  case atStart => exact ⟨fr + 1, Nat.le_refl _, by omega, by simp, by rw [Hid, ← HR.out]; simp⟩
  case round =>
    obtain ⟨k, hk1, hk2, rfl, hp⟩ := hrel
    by_cases hlt : k < s.size
    · have HD := Lib.hid (drop_byte s k hlt)
      have HQ := Lib.hid (u8_beq s[k] s[fr])
      have hv := u8_beq s[k] 10
      rw [show ((10:UInt8).toNat : Int) = 10 from rfl] at hv
      have HV10 := Lib.hid hv
      clear hv
      have hv := u8_beq s[k] 12
      rw [show ((12:UInt8).toNat : Int) = 12 from rfl] at hv
      have HV12 := Lib.hid hv
      clear hv
      have hv := u8_beq s[k] 13
      rw [show ((13:UInt8).toNat : Int) = 13 from rfl] at hv
      have HV13 := Lib.hid hv
      clear hv
      have hv := u8_beq s[k] 92
      rw [show ((92:UInt8).toNat : Int) = 92 from rfl] at hv
      have HV92 := Lib.hid hv
      clear hv
      have HNn := Lib.hid (nat_beq s[k] s[fr])
      cases hq : (s[k] == s[fr]) with
      | true =>
        have gq := HQ.out.trans hq
        have gn := HNn.out.trans hq
        have HE := Lib.hid (show r = some (k - fr) by
          rw [hp.out, HD.out, beq_iff_eq.1 hq, strN_close]
          show some (1 + (k - (fr + 1))) = _
          congr 1; omega)
        clear hq
        go_wp2_with fail
        go_ret
        exact ⟨ret_int (by rw [HE.out, strV]; show (k : Int) + 1 = _; omega), rfl⟩
      | false =>
        have gq := HQ.out.trans hq
        have gn := HNn.out.trans hq
        have Hq := Lib.hid hq
        clear hq
        cases h92 : ((s[k].toNat : Int) == 92) with
        | true =>
          have G92 := Lib.hid (HV92.out.symm.trans h92)
          have HL := Lib.hid (show lineC s[k] = false by rw [beq_iff_eq.1 G92.out]; rfl)
          have HE := Lib.hid (show r = (strN s[fr] (s.data.toList.drop (k + 2))).map (· + (k + 2 - (fr + 1))) by
            rw [hp.out, HD.out, strN_slash Hq.out HL.out G92.out, List.drop_drop, Option.map_map]
            congr 1
            funext n
            show n + 2 + (k - (fr + 1)) = _
            omega)
          go_wp2_with fail
          go_round
          case rel => exact ⟨k + 2, by omega, by omega, by simp; omega, HE⟩
          case measure => simp [intOf]; omega
        | false =>
          have G92 := Lib.hid (HV92.out.symm.trans h92)
          cases h10 : ((s[k].toNat : Int) == 10) with
          | true =>
            have G10 := Lib.hid (HV10.out.symm.trans h10)
            have HL := Lib.hid (show lineC s[k] = true by rw [beq_iff_eq.1 G10.out]; rfl)
            have HE := Lib.hid (show r = none by rw [hp.out, HD.out, strN_line Hq.out HL.out]; rfl)
            go_wp2_with fail
            go_ret
            exact ⟨ret_int (by rw [HE.out]; rfl), rfl⟩
          | false =>
            have G10 := Lib.hid (HV10.out.symm.trans h10)
            cases h12 : ((s[k].toNat : Int) == 12) with
            | true =>
              have G12 := Lib.hid (HV12.out.symm.trans h12)
              have HL := Lib.hid (show lineC s[k] = true by rw [beq_iff_eq.1 G12.out]; rfl)
              have HE := Lib.hid (show r = none by rw [hp.out, HD.out, strN_line Hq.out HL.out]; rfl)
              go_wp2_with fail
              go_ret
              exact ⟨ret_int (by rw [HE.out]; rfl), rfl⟩
            | false =>
              have G12 := Lib.hid (HV12.out.symm.trans h12)
              cases h13 : ((s[k].toNat : Int) == 13) with
              | true =>
                have G13 := Lib.hid (HV13.out.symm.trans h13)
                have HL := Lib.hid (show lineC s[k] = true by rw [beq_iff_eq.1 G13.out]; rfl)
                have HE := Lib.hid (show r = none by rw [hp.out, HD.out, strN_line Hq.out HL.out]; rfl)
                go_wp2_with fail
                go_ret
                exact ⟨ret_int (by rw [HE.out]; rfl), rfl⟩
              | false =>
                have G13 := Lib.hid (HV13.out.symm.trans h13)
                have HL := Lib.hid (show lineC s[k] = false by rw [lineC, G10.out, G12.out, G13.out]; rfl)
                have HE := Lib.hid (show r = (strN s[fr] (s.data.toList.drop (k + 1))).map (· + (k + 1 - (fr + 1))) by
                  rw [hp.out, HD.out, strN_on Hq.out HL.out G92.out, Option.map_map]
                  congr 1
                  funext n
                  show n + 1 + (k - (fr + 1)) = _
                  omega)
                go_wp2_with fail
                go_round
                case rel => exact ⟨k + 1, by omega, by omega, by simp, HE⟩
                case measure => simp [intOf]; omega
    · have HE := Lib.hid (show r = none by rw [hp.out, List.drop_eq_nil_of_le (by simp; omega)]; rfl)
      go_wp2_with fail
      go_ret
      exact ⟨ret_int (by rw [HE.out]; rfl), rfl⟩
end Go.Proofs.Ytmgkolcpomaceaa
namespace Go.Proofs.Ytmgkolcpomaceaa
open Go.RowKit
set_option linter.unusedVariables false
set_option linter.unusedSimpArgs false

def mateV (c : UInt8) : Int := if shutC c = true then ((mateC c).toNat : Int) else 0
set_option maxRecDepth 100000 in
theorem matching_calls (c : UInt8) (w : World) : Calls Try.prog 147 #[.int .u8 (c.toNat : Int)] w fun e w' => e = .returned (.tuple #[.int .u8 (mateV c), .bool (shutC c)]) ∧ w = w' := by
  have hv := u8_beq c 41
  rw [show ((41:UInt8).toNat : Int) = 41 from rfl] at hv
  have hv2 := u8_beq c 93
  rw [show ((93:UInt8).toNat : Int) = 93 from rfl] at hv2
  cases h1 : ((c.toNat : Int) == 41) with
  | true =>
    have H1 := Lib.hid (beq_iff_eq.1 (hv.symm.trans h1))
    clear hv hv2
    go_enter Try.func147, Try.ntmps147
    go_wp2_with fail
    go_ret2
    exact ⟨by rw [H1.out]; rfl, rfl⟩
  | false =>
    have H1 := Lib.hid (hv.symm.trans h1)
    cases h2 : ((c.toNat : Int) == 93) with
    | true =>
      have H2 := Lib.hid (beq_iff_eq.1 (hv2.symm.trans h2))
      clear hv hv2
      go_enter Try.func147, Try.ntmps147
      go_wp2_with fail
      go_ret2
      exact ⟨by rw [H2.out]; rfl, rfl⟩
    | false =>
      have H2 := Lib.hid (hv2.symm.trans h2)
      have HS := Lib.hid (show shutC c = false by rw [shutC, H1.out, H2.out]; rfl)
      have HM := Lib.hid (show mateV c = 0 by rw [mateV, HS.out]; rfl)
      clear hv hv2
      go_enter Try.func147, Try.ntmps147
      go_wp2_with fail
      go_ret2
      exact ⟨by rw [HS.out, HM.out]; rfl, rfl⟩
theorem Buf.shape {w : World} {B : Nat} {v : Value} {l : List UInt8} (h : Buf w B v l) : (v = .slice none 0 0 ∧ l = []) ∨ ∃ g cap, v = .slice (some ⟨g, 0, none⟩) l.length cap ∧ l.length ≤ cap ∧ ∀ j (hj : j < l.length), w.cell? ⟨g, j, none⟩ = some (byteV l[j]) := by
  rcases h.cells with h1 | ⟨g, cap, rfl, h2, h3, h4⟩
  · exact .inl h1
  · rcases h.2 with ⟨e, _⟩ | ⟨g', cap', cur, e, hg, hh, hc, _, hsz, ht⟩
    · cases e
    · injection e with e1 e2 e3
      subst e3
      exact .inr ⟨g, cap, rfl, hc, h4⟩
theorem Buf.pop {w : World} {B g m cap : Nat} {l : List UInt8} {d : UInt8} (h : Buf w B (.slice (some ⟨g, 0, none⟩) (m + 1) cap) (l ++ [d])) (hm : l.length = m) : Buf w B (.slice (some ⟨g, 0, none⟩) m cap) l := by
  rcases h.2 with ⟨e, _⟩ | ⟨g', cap', cur, e, hg, hh, hc, hmx, hsz, ht⟩
  · cases e
  · injection e with e1 e2 e3
    injection e1 with e1
    injection e1 with e1
    subst e1 e3
    refine ⟨by simp, .inr ⟨g, cap, cur, by rw [hm], hg, hh, by simp at hc; omega, hmx, hsz, ?_⟩⟩
    have h5 : (cur.toList.take ((l ++ [d]).length * 1)).take l.length = ((l ++ [d]).map byteV).take l.length := by rw [ht]
    rw [List.take_take, Nat.min_eq_left (by simp)] at h5
    rw [Nat.mul_one, h5, List.map_append, List.take_left' (by simp)]
theorem nil_or_snoc (l : List UInt8) : l = [] ∨ ∃ l' a, l = l' ++ [a] := by
  by_cases h : l = []
  · exact .inl h
  · exact .inr (snoc_of_ne h)
theorem popL_snoc (st : List UInt8) (d c : UInt8) : popL (st ++ [d]) c = if d = mateC c then some st else none := by
  unfold popL
  rw [List.getLast?_append]
  simp
theorem balL_shut {st r : List UInt8} {c : UInt8} (h : shutC c = true) : balL st (c :: r) = match popL st c with
      | some st' => balL st' r
      | none => false := by
  rw [balL, if_pos h]
  try (cases popL st c <;> rfl)
theorem balL_open {st r : List UInt8} {c : UInt8} (h : shutC c = false) (ho : openC c = true) : balL st (c :: r) = balL (st ++ [c]) r := by
  rw [balL, if_neg (by rw [h]; simp), if_pos ho]
theorem balL_on {st r : List UInt8} {c : UInt8} (h : shutC c = false) (ho : openC c = false) : balL st (c :: r) = balL st r := by
  rw [balL, if_neg (by rw [h]; simp), if_neg (by rw [ho]; simp)]

set_option maxHeartbeats 16000000 in
set_option maxRecDepth 100000 in
theorem balanced_calls (s : ByteArray) (w : World) (hs : s.size ≤ 2147483647) :
    Calls Try.prog 119 #[.string s] w fun e w' => e = .returned (.bool (balL [] s.data.toList)) ∧ Below w.heap.size w w' := by
  obtain ⟨r, hr⟩ : ∃ r, balL [] s.data.toList = r := ⟨_, rfl⟩
  have HR := Lib.hid hr
  rw [hr]
  clear hr
  go_enter Try.func119, Try.ntmps119
  go_wp2_with fail
  go_loopg [3, 4] s.size (fun gk v i wr => ∃ (k : Nat) (st : List UInt8), gk = s.size - k ∧ k ≤ s.size ∧ i = .int .i64 k ∧ st.length ≤ k ∧ Hid (Buf wr w.heap.size v st) ∧ Hid (r = balL st (s.data.toList.drop k)) ∧ Hid (Below w.heap.size w wr))
  case atStart => exact ⟨0, [], rfl, Nat.zero_le _, rfl, Nat.zero_le _, Buf.nil _ _, by rw [Hid, ← HR.out]; simp, Below.refl _ _⟩
  case round =>
    obtain ⟨k, st, hgk, hk, rfl, hstk, hbuf, hp, hB⟩ := hrel
    have HG := Lib.hid hgk
    clear hgk
    by_cases hlt : k < s.size
    · have HD := Lib.hid (drop_byte s k hlt)
      have HV40 := Lib.hid (u8_beq s[k] 40)
      have HV91 := Lib.hid (u8_beq s[k] 91)
      have h256 := toNat_lt_256 s[k]
      have hcc : (s[k].toNat : Int) = (s[k].toNat : Int) := rfl
      have HMc := Lib.hid (fun w => matching_calls s[k] w)
      rcases hbuf.out.shape with ⟨rfl, rfl⟩ | ⟨g, cap, rfl, hcap, hc⟩
      · cases hsh : shutC s[k] with
        | true =>
          have HSh := Lib.hid hsh
          have HMv := Lib.hid (show mateV s[k] = ((mateC s[k]).toNat : Int) by rw [mateV, if_pos hsh])
          clear hsh
          have HE := Lib.hid (show r = false by rw [hp.out, HD.out, balL_shut HSh.out]; rfl)
          go_wp2_with fail
          refine (HMc.out _).mono ?_
          rw [HSh.out]
          rintro e w1 ⟨rfl, rfl⟩
          go_wp2_with fail
          go_ret
          exact ⟨ret_bool HE.out.symm, hB.out⟩
        | false =>
          have HSh := Lib.hid hsh
          have HMv := Lib.hid (show mateV s[k] = 0 by rw [mateV, hsh]; rfl)
          clear hsh
          cases ho : openC s[k] with
          | true =>
            have HO := Lib.hid ho
            have HE := Lib.hid (show r = balL ([] ++ [s[k]]) (s.data.toList.drop (k + 1)) by rw [hp.out, HD.out, balL_open HSh.out HO.out])
            have HM1 := Lib.hid (one_cell wr s[k] s[k] rfl)
            have hl1 : ([] : List UInt8).length + 1 ≤ 140737488355328 := by (try simp only [List.length_nil]); omega
            have HS1 := Lib.hid (show w.heap.size ≤ (wr.alloc (Obj.cells #[.int .u8 (s[k].toNat : Int)] 5)).heap.size by have := hB.out.size; simp; omega)
            have ho2 : s[k].toNat = 40 ∨ s[k].toNat = 91 := by
              simp only [openC, Bool.or_eq_true, beq_iff_eq] at ho
              rcases ho with h | h
              · left; rw [h]; rfl
              · right; rw [h]; rfl
            clear ho
            rcases ho2 with h | h
            all_goals
              have g40 : ((s[k].toNat : Int) == 40) = decide (s[k].toNat = 40) := by rw [Bool.eq_iff_iff]; simp; omega
              have g91 : ((s[k].toNat : Int) == 91) = decide (s[k].toNat = 91) := by rw [Bool.eq_iff_iff]; simp; omega
              first | (have k40 : ((s[k].toNat : Int) == 40) = true := by simp; omega) | (have k40 : ((s[k].toNat : Int) == 40) = false := by simp; omega)
              first | (have k91 : ((s[k].toNat : Int) == 91) = true := by simp; omega) | (have k91 : ((s[k].toNat : Int) == 91) = false := by simp; omega)
              clear g40 g91 h
              go_wp2_with fail
              refine (HMc.out _).mono ?_
              rw [HSh.out, HMv.out]
              rintro e w1 ⟨rfl, rfl⟩
              go_wp2_with (at_builtin; refine buf_append_byte rfl _ _ rfl w.heap.size _ _ rfl (hbuf.out.alloc _) _ _ _ rfl [s[k]] rfl HM1.out hl1 HS1.out ?_; intro v' w' hb' hg' hbel')
              go_roundg (s.size - (k + 1))
              case measure => rw [HG.out]; omega
              case rel => exact ⟨k + 1, [] ++ [s[k]], rfl, by omega, by simp, by simp only [List.length_append, List.length_cons, List.length_nil] at *; omega, hb', HE, (hB.out.alloc hB.out.size _).trans hbel'⟩
          | false =>
            have HO := Lib.hid ho
            have HE := Lib.hid (show r = balL [] (s.data.toList.drop (k + 1)) by rw [hp.out, HD.out, balL_on HSh.out HO.out])
            have hn : s[k].toNat ≠ 40 ∧ s[k].toNat ≠ 91 := by
              simp only [openC, Bool.or_eq_false_iff, beq_eq_false_iff_ne] at ho
              exact ⟨fun h => ho.1 (UInt8.toNat.inj h), fun h => ho.2 (UInt8.toNat.inj h)⟩
            have k40 : ((s[k].toNat : Int) == 40) = false := by simp; omega
            have k91 : ((s[k].toNat : Int) == 91) = false := by simp; omega
            clear ho hn
            go_wp2_with fail
            refine (HMc.out _).mono ?_
            rw [HSh.out, HMv.out]
            rintro e w1 ⟨rfl, rfl⟩
            go_wp2_with fail
            go_roundg (s.size - (k + 1))
            case measure => rw [HG.out]; omega
            case rel => exact ⟨k + 1, [], rfl, by omega, by simp, by (try simp only [List.length_nil] at *); omega, hbuf, HE, hB⟩
      · cases hsh : shutC s[k] with
        | true =>
          have HSh := Lib.hid hsh
          have HMv := Lib.hid (show mateV s[k] = ((mateC s[k]).toNat : Int) by rw [mateV, if_pos hsh])
          clear hsh
          rcases nil_or_snoc st with rfl | ⟨st', d, rfl⟩
          · have HE := Lib.hid (show r = false by rw [hp.out, HD.out, balL_shut HSh.out]; rfl)
            go_wp2_with fail
            refine (HMc.out _).mono ?_
            rw [HSh.out]
            rintro e w1 ⟨rfl, rfl⟩
            go_wp2_with fail
            go_ret
            exact ⟨ret_bool HE.out.symm, hB.out⟩
          · have hlen : (st' ++ [d]).length = st'.length + 1 := by simp
            have hcl := hc st'.length (by rw [hlen]; omega)
            rw [List.getElem_concat_length rfl (by simp)] at hcl
            rw [hlen] at hcap hstk hbuf ⊢
            have hpop := Lib.hid (hbuf.out.pop rfl)
            clear hc hlen
            have hclv : wr.cell? ⟨g, st'.length, none⟩ = some (.int .u8 (d.toNat : Int)) := hcl
            generalize hm : st'.length = m at hcap hstk hclv hpop ⊢
            clear hcl
            by_cases hdm : d = mateC s[k]
            · have HE := Lib.hid (show r = balL st' (s.data.toList.drop (k + 1)) by rw [hp.out, HD.out, balL_shut HSh.out, popL_snoc, if_pos hdm])
              have gd : ((d.toNat : Int) == ((mateC s[k]).toNat : Int)) = true := by rw [hdm]; simp
              have gd2 : (d.toNat == (mateC s[k]).toNat) = true := by rw [hdm]; simp
              have HM := Lib.hid hdm
              clear hdm
              go_wp2_with fail
              refine (HMc.out _).mono ?_
              rw [HSh.out, HMv.out]
              rintro e w1 ⟨rfl, rfl⟩
              go_wp2_with fail
              go_roundg (s.size - (k + 1))
              case measure => rw [HG.out]; omega
              case rel => exact ⟨k + 1, st', rfl, by omega, by simp, by omega, hpop, HE, hB⟩
            · have HE := Lib.hid (show r = false by rw [hp.out, HD.out, balL_shut HSh.out, popL_snoc, if_neg hdm])
              have hne : d.toNat ≠ (mateC s[k]).toNat := fun h => hdm (UInt8.toNat.inj h)
              have gd : ((d.toNat : Int) == ((mateC s[k]).toNat : Int)) = false := by simp; omega
              have gd2 : (d.toNat == (mateC s[k]).toNat) = false := by simp; omega
              clear hdm hne
              go_wp2_with fail
              refine (HMc.out _).mono ?_
              rw [HSh.out, HMv.out]
              rintro e w1 ⟨rfl, rfl⟩
              go_wp2_with fail
              go_ret
              exact ⟨ret_bool HE.out.symm, hB.out⟩
        | false =>
          clear hc
          have HSh := Lib.hid hsh
          have HMv := Lib.hid (show mateV s[k] = 0 by rw [mateV, hsh]; rfl)
          clear hsh
          cases ho : openC s[k] with
          | true =>
            have HO := Lib.hid ho
            have HE := Lib.hid (show r = balL (st ++ [s[k]]) (s.data.toList.drop (k + 1)) by rw [hp.out, HD.out, balL_open HSh.out HO.out])
            have HM1 := Lib.hid (one_cell wr s[k] s[k] rfl)
            have hl1 : (st : List UInt8).length + 1 ≤ 140737488355328 := by (try simp only [List.length_nil]); omega
            have HS1 := Lib.hid (show w.heap.size ≤ (wr.alloc (Obj.cells #[.int .u8 (s[k].toNat : Int)] 5)).heap.size by have := hB.out.size; simp; omega)
            have ho2 : s[k].toNat = 40 ∨ s[k].toNat = 91 := by
              simp only [openC, Bool.or_eq_true, beq_iff_eq] at ho
              rcases ho with h | h
              · left; rw [h]; rfl
              · right; rw [h]; rfl
            clear ho
            rcases ho2 with h | h
            all_goals
              have g40 : ((s[k].toNat : Int) == 40) = decide (s[k].toNat = 40) := by rw [Bool.eq_iff_iff]; simp; omega
              have g91 : ((s[k].toNat : Int) == 91) = decide (s[k].toNat = 91) := by rw [Bool.eq_iff_iff]; simp; omega
              first | (have k40 : ((s[k].toNat : Int) == 40) = true := by simp; omega) | (have k40 : ((s[k].toNat : Int) == 40) = false := by simp; omega)
              first | (have k91 : ((s[k].toNat : Int) == 91) = true := by simp; omega) | (have k91 : ((s[k].toNat : Int) == 91) = false := by simp; omega)
              clear g40 g91 h
              go_wp2_with fail
              refine (HMc.out _).mono ?_
              rw [HSh.out, HMv.out]
              rintro e w1 ⟨rfl, rfl⟩
              go_wp2_with (at_builtin; refine buf_append_byte rfl _ _ rfl w.heap.size _ _ rfl (hbuf.out.alloc _) _ _ _ rfl [s[k]] rfl HM1.out hl1 HS1.out ?_; intro v' w' hb' hg' hbel')
              go_roundg (s.size - (k + 1))
              case measure => rw [HG.out]; omega
              case rel => exact ⟨k + 1, st ++ [s[k]], rfl, by omega, by simp, by simp only [List.length_append, List.length_cons, List.length_nil] at *; omega, hb', HE, (hB.out.alloc hB.out.size _).trans hbel'⟩
          | false =>
            have HO := Lib.hid ho
            have HE := Lib.hid (show r = balL st (s.data.toList.drop (k + 1)) by rw [hp.out, HD.out, balL_on HSh.out HO.out])
            have hn : s[k].toNat ≠ 40 ∧ s[k].toNat ≠ 91 := by
              simp only [openC, Bool.or_eq_false_iff, beq_eq_false_iff_ne] at ho
              exact ⟨fun h => ho.1 (UInt8.toNat.inj h), fun h => ho.2 (UInt8.toNat.inj h)⟩
            have k40 : ((s[k].toNat : Int) == 40) = false := by simp; omega
            have k91 : ((s[k].toNat : Int) == 91) = false := by simp; omega
            clear ho hn
            go_wp2_with fail
            refine (HMc.out _).mono ?_
            rw [HSh.out, HMv.out]
            rintro e w1 ⟨rfl, rfl⟩
            go_wp2_with fail
            go_roundg (s.size - (k + 1))
            case measure => rw [HG.out]; omega
            case rel => exact ⟨k + 1, st, rfl, by omega, by simp, by (try simp only [List.length_nil] at *); omega, hbuf, HE, hB⟩
    · have hks : k = s.size := by omega
      have HE := Lib.hid (show r = st.isEmpty by rw [hp.out, hks, List.drop_of_length_le (by simp), balL])
      clear hks HG
      rcases hbuf.out.shape with ⟨rfl, rfl⟩ | ⟨g, cap, rfl, hcap, hc⟩
      · go_wp2_with fail
        go_ret
        exact ⟨ret_bool (by rw [HE.out]; rfl), hB.out⟩
      · clear hc
        cases st with
        | nil =>
          go_wp2_with fail
          go_ret
          exact ⟨ret_bool (by rw [HE.out]; rfl), hB.out⟩
        | cons d st' =>
          have g0 : (((d :: st').length : Int) == 0) = false := by simp only [List.length_cons]; rw [beq_eq_false_iff_ne]; omega
          generalize hm : (d :: st').length = m at g0 hcap hbuf ⊢
          go_wp2_with fail
          go_ret
          exact ⟨ret_bool (by rw [HE.out]; rfl), hB.out⟩
end Go.Proofs.Ytmgkolcpomaceaa
namespace Go.Proofs.Ytmgkolcpomaceaa
open Go.RowKit
set_option linter.unusedVariables false
set_option linter.unusedSimpArgs false

theorem idxI_dec (l : List UInt8) (c : UInt8) : decide (0 ≤ idxI l c) = l.contains c := by
  unfold idxI
  cases h : l.contains c with
  | true => simp
  | false => simp
theorem enters144 : Enters 144 := fun args w => by simp [go_sem, Try.func144]
def selB : ByteArray := ⟨#[45, 95, 35, 46, 58, 42, 32, 44, 62, 43, 126, 91, 93, 40, 41, 61, 94, 36, 124]⟩
set_option maxHeartbeats 4000000 in
set_option maxRecDepth 100000 in
theorem valid1_calls (c : UInt8) (w : World) : Calls Try.prog 144 #[.int .u8 (c.toNat : Int)] w fun e w' => e = .returned (.bool (validC c)) ∧ Below w.heap.size w w' := by
  have HI := Lib.hid (fun w => zzIndex_calls selB (c.toNat : Int) c rfl w (by decide))
  have HN := Lib.hid (show decide (0 ≤ idxI selB.data.toList c) = selImpl.contains c from idxI_dec selImpl c)
  obtain ⟨z, hz⟩ : ∃ z, idxI selB.data.toList c = z := ⟨_, rfl⟩
  rw [hz] at HI HN
  clear hz
  cases h1 : letterC c with
  | true =>
    have H1 := Lib.hid h1
    have HV := Lib.hid (show validC c = true by rw [validC, h1]; rfl)
    clear h1
    go_enter Try.func144, Try.ntmps144
    go_wp2_with fail
    refine (zzLetter_calls c _).mono ?_
    rw [H1.out]
    rintro e w1 ⟨rfl, rfl⟩
    go_wp2_with fail
    go_ret
    exact ⟨ret_bool HV.out.symm, Below.refl _ _⟩
  | false =>
    have H1 := Lib.hid h1
    cases h2 : digitC c with
    | true =>
      have H2 := Lib.hid h2
      have HV := Lib.hid (show validC c = true by rw [validC, h1, h2]; rfl)
      clear h1 h2
      go_enter Try.func144, Try.ntmps144
      go_wp2_with fail
      refine (zzLetter_calls c _).mono ?_
      rw [H1.out]
      rintro e w1 ⟨rfl, rfl⟩
      go_wp2_with fail
      refine (zzDigit_calls c _).mono ?_
      rw [H2.out]
      rintro e w1 ⟨rfl, rfl⟩
      go_wp2_with fail
      go_ret
      exact ⟨ret_bool HV.out.symm, Below.refl _ _⟩
    | false =>
      have H2 := Lib.hid h2
      have HV := Lib.hid (show validC c = decide (0 ≤ z) by rw [validC, h1, h2, HN.out]; rfl)
      clear h1 h2
      go_enter Try.func144, Try.ntmps144
      go_wp2_with fail
      refine (zzLetter_calls c _).mono ?_
      rw [H1.out]
      rintro e w1 ⟨rfl, rfl⟩
      go_wp2_with fail
      refine (zzDigit_calls c _).mono ?_
      rw [H2.out]
      rintro e w1 ⟨rfl, rfl⟩
      go_wp2_with fail
      refine (HI.out _).mono ?_
      rintro e w1 ⟨rfl, rfl⟩
      go_wp2_with fail
      go_ret
      exact ⟨ret_bool HV.out.symm, Below.refl _ _⟩
set_option maxRecDepth 100000 in
theorem invalid_calls (s : ByteArray) (w : World) (hs : s.size ≤ 2147483647) :
    Calls Try.prog 118 #[.string s] w fun e w' => e = .returned (.bool (!(s.data.toList.all validC))) ∧ Below w.heap.size w w' := by
  have HC := Lib.hid (fun w => zzAll_calls 144 validC enters144 (Lib.hid fun c w => valid1_calls c w) s w hs)
  generalize s.data.toList.all validC = b at HC ⊢
  go_enter Try.func118, Try.ntmps118
  go_wp2_with fail
  refine (HC.out _).mono ?_
  rintro e w1 ⟨rfl, hb⟩
  go_wp2_with fail
  go_ret
  exact ⟨rfl, hb⟩

set_option maxHeartbeats 16000000 in
set_option maxRecDepth 100000 in
theorem without_calls (s : ByteArray) (w : World) (hs : s.size ≤ 2147483647) :
    Calls Try.prog 117 #[.string s] w fun e w' => ∃ T : ByteArray, e = .returned (.string T) ∧ T.data.toList = withoutL s.data.toList ∧ T.size ≤ s.size ∧ w = w' := by
  obtain ⟨r, hr⟩ : ∃ r, withoutL s.data.toList = r := ⟨_, rfl⟩
  have HR := Lib.hid hr
  rw [hr]
  clear hr
  go_enter Try.func117, Try.ntmps117
  go_wp2_with fail
  go_loop [3, 4] (fun v i => ∃ (k : Nat) (T : ByteArray), k ≤ s.size ∧ i = .int .i64 k ∧ v = .string T ∧ T.size ≤ k ∧ Hid (r = T.data.toList ++ withoutL (s.data.toList.drop k))) (fun _ i => s.size - (intOf i).toNat)
  case atStart => exact ⟨0, ⟨#[]⟩, Nat.zero_le _, rfl, rfl, Nat.le_refl _, by rw [Hid, ← HR.out]; simp⟩
  case round =>
    obtain ⟨k, T, hk, rfl, rfl, hTs, hp⟩ := hrel
    by_cases hlt : k < s.size
    · have HD := Lib.hid (drop_byte s k hlt)
      have hadd : T.size + (s.extract k (k + 1)).size ≤ 9223372036854775807 := by simp [ByteArray.size_extract]; omega
      have hsz1 : (T ++ s.extract k (k + 1)).size ≤ k + 1 := by rw [ByteArray.size_append]; simp [ByteArray.size_extract]; omega
      have HX := Lib.hid (show (s.extract k (k + 1)).data.toList = [s[k]] by rw [Lib.extract_data, drop_byte s k hlt]; simp)
      have HZ := Lib.hid (fun w => zzString_calls s k hlt w hs)
      have h256 := toNat_lt_256 s[k]
      rcases (show s[k].toNat = 34 ∨ s[k].toNat = 39 ∨ (s[k].toNat ≠ 34 ∧ s[k].toNat ≠ 39) by omega) with h | h | h
      rotate_left 2
      · have g34 : ((s[k].toNat : Int) == 34) = false := by simp; omega
        have g39 : ((s[k].toNat : Int) == 39) = false := by simp; omega
        have hq : quoteC s[k] = false := by
          rw [quoteC, Bool.or_eq_false_iff, beq_eq_false_iff_ne, beq_eq_false_iff_ne]
          exact ⟨fun e => h.1 (by rw [e]; rfl), fun e => h.2 (by rw [e]; rfl)⟩
        have HE := Lib.hid (show r = (T ++ s.extract k (k + 1)).data.toList ++ withoutL (s.data.toList.drop (k + 1)) by rw [hp.out, HD.out, withoutL_plain hq, bytes_append, HX.out]; simp)
        clear h hq
        go_wp2_with fail
        go_round
        case rel => exact ⟨k + 1, _, by omega, by simp, rfl, hsz1, HE⟩
        case measure => simp [intOf]; omega
      all_goals
        have hq : quoteC s[k] = true := by
          rw [quoteC, Bool.or_eq_true, beq_iff_eq, beq_iff_eq, ← UInt8.toNat_inj, ← UInt8.toNat_inj]
          first | exact .inl h | exact .inr h
        first | (have g34 : ((s[k].toNat : Int) == 34) = true := by simp; omega) | (have g34 : ((s[k].toNat : Int) == 34) = false := by simp; omega)
        first | (have g39 : ((s[k].toNat : Int) == 39) = true := by simp; omega) | (have g39 : ((s[k].toNat : Int) == 39) = false := by simp; omega)
        have HQ := Lib.hid hq
        clear h hq
        cases hn : strN s[k] (s.data.toList.drop (k + 1)) with
        | none =>
          have HN := Lib.hid hn
          have HE := Lib.hid (show r = (T ++ s.extract k (k + 1)).data.toList ++ withoutL (s.data.toList.drop (k + 1)) by rw [hp.out, HD.out, withoutL_none HN.out, bytes_append, HX.out]; simp)
          clear hn
          go_wp2_with fail
          refine (HZ.out _).mono ?_
          rw [HN.out, show strV k (k : Int) none = (k : Int) from rfl]
          rintro e w1 ⟨rfl, rfl⟩
          go_wp2_with fail
          go_round
          case rel => exact ⟨k + 1, _, by omega, by simp, rfl, hsz1, HE⟩
          case measure => simp [intOf]; omega
        | some n =>
          have HN := Lib.hid hn
          have hnp := strN_pos hn
          have hnl : k + 1 + n ≤ s.size := by have := hnp.2; simp at this; omega
          have HE := Lib.hid (show r = T.data.toList ++ withoutL (s.data.toList.drop (k + 1 + n)) by rw [hp.out, HD.out, withoutL_some HQ.out HN.out, List.drop_drop])
          have hn1 := hnp.1
          have gk : decide ((k : Int) < ((k + 1 + n : Nat) : Int)) = true := decide_eq_true (by omega)
          clear hn hnp
          obtain ⟨q, hq⟩ : ∃ q, k + 1 + n = q := ⟨_, rfl⟩
          have HV := Lib.hid (show strV k (k : Int) (some n) = (q : Int) by rw [← hq]; rfl)
          rw [hq] at HE hnl gk
          have hkq : k < q := by omega
          have gk2 : decide (k < q) = true := decide_eq_true hkq
          clear hq
          go_wp2_with fail
          refine (HZ.out _).mono ?_
          rw [HN.out, HV.out]
          rintro e w1 ⟨rfl, rfl⟩
          go_wp2_with fail
          go_round
          case rel => exact ⟨q, T, hnl, rfl, rfl, by omega, HE⟩
          case measure => simp [intOf]; omega
    · have HE := Lib.hid (show r = T.data.toList by rw [hp.out, List.drop_eq_nil_of_le (by simp; omega), withoutL_nil]; simp)
      go_wp2_with fail
      go_ret
      exact ⟨T, rfl, HE.out.symm, by omega, rfl⟩
end Go.Proofs.Ytmgkolcpomaceaa
namespace Go.Proofs.Ytmgkolcpomaceaa
open Go.RowKit
set_option linter.unusedVariables false
set_option linter.unusedSimpArgs false

theorem emp_iff' (s : ByteArray) : s.toList.isEmpty = (s.toList == []) := by cases s.toList <;> rfl
theorem sel_cells (w : World) (m : Nat) (hm : m < 15) : (w.alloc (Obj.cells #[Value.int IntKind.u8 45, Value.int IntKind.u8 95, Value.int IntKind.u8 35, Value.int IntKind.u8 46, Value.int IntKind.u8 58, Value.int IntKind.u8 42, Value.int IntKind.u8 32, Value.int IntKind.u8 44, Value.int IntKind.u8 62, Value.int IntKind.u8 43, Value.int IntKind.u8 126, Value.int IntKind.u8 61, Value.int IntKind.u8 94, Value.int IntKind.u8 36, Value.int IntKind.u8 124] 5 (15, 16))).cell? ⟨w.heap.size, m, none⟩ = some (.int .u8 ((selSpec.getD m 0).toNat : Int)) := by
  rw [World.cell?_alloc_mark]
  obtain rfl | rfl | rfl | rfl | rfl | rfl | rfl | rfl | rfl | rfl | rfl | rfl | rfl | rfl | rfl : m = 0 ∨ m = 1 ∨ m = 2 ∨ m = 3 ∨ m = 4 ∨ m = 5 ∨ m = 6 ∨ m = 7 ∨ m = 8 ∨ m = 9 ∨ m = 10 ∨ m = 11 ∨ m = 12 ∨ m = 13 ∨ m = 14 := by omega
  all_goals rfl

set_option maxHeartbeats 16000000 in
set_option maxRecDepth 100000 in
theorem specRule_calls (s : ByteArray) (w : World) (hs : s.size ≤ 2147483647) :
    Calls Try.prog 46 #[.string s] w fun e w' => e = .returned (.bool (ruleL [] s.data.toList)) ∧ Below w.heap.size w w' := by
  obtain ⟨r, hr⟩ : ∃ r, ruleL [] s.data.toList = r := ⟨_, rfl⟩
  have HR := Lib.hid hr
  rw [hr]
  clear hr
  go_enter Try.func46, Try.ntmps46
  go_wp2_with fail
  go_loopg [3, 4] s.size (fun gk v i wr => ∃ (k : Nat) (O : ByteArray), gk = s.size - k ∧ k ≤ s.size ∧ i = .int .i64 k ∧ v = .string O ∧ O.size ≤ k ∧ Hid (r = ruleL O.data.toList (s.data.toList.drop k)) ∧ Hid (O.data.toList.all openC = true) ∧ Hid (Below w.heap.size w wr))
  case atStart => exact ⟨0, ⟨#[]⟩, rfl, Nat.zero_le _, rfl, rfl, Nat.le_refl _, by rw [Hid, ← HR.out]; simp, rfl, Below.refl _ _⟩
  case round =>
    obtain ⟨k, O, hgk, hk, rfl, rfl, hOs, hp, hOp, hB⟩ := hrel
    have HG := Lib.hid hgk
    clear hgk
    by_cases hlt : k < s.size
    · have HD := Lib.hid (drop_byte s k hlt)
      have h256 := toNat_lt_256 s[k]
      have HZ := Lib.hid (fun w => specText_calls s k hlt w hs)
      have HLe := Lib.hid (fun w => specLetter_calls s[k] w)
      have HFi := Lib.hid (fun w => specFigure_calls s[k] w)
      rcases (show s[k].toNat = 60 ∨ s[k].toNat = 34 ∨ s[k].toNat = 39 ∨ s[k].toNat = 40 ∨ s[k].toNat = 91 ∨ s[k].toNat = 41 ∨ s[k].toNat = 93 ∨ (s[k].toNat ≠ 60 ∧ s[k].toNat ≠ 34 ∧ s[k].toNat ≠ 39 ∧ s[k].toNat ≠ 40 ∧ s[k].toNat ≠ 91 ∧ s[k].toNat ≠ 41 ∧ s[k].toNat ≠ 93) by omega) with h | h | h | h | h | h | h | h
      · have g60 : ((s[k].toNat : Int) == 60) = true := by simp; omega
        have g34 : ((s[k].toNat : Int) == 34) = false := by simp; omega
        have g39 : ((s[k].toNat : Int) == 39) = false := by simp; omega
        have g40 : ((s[k].toNat : Int) == 40) = false := by simp; omega
        have g91 : ((s[k].toNat : Int) == 91) = false := by simp; omega
        have g41 : ((s[k].toNat : Int) == 41) = false := by simp; omega
        have g93 : ((s[k].toNat : Int) == 93) = false := by simp; omega
        have hc := UInt8.toNat.inj (show s[k].toNat = (60 : UInt8).toNat from h)
        have HE := Lib.hid (show r = false by rw [hp.out, HD.out, hc, ruleL_lt])
        clear h hc
        go_wp2_with fail
        go_ret
        exact ⟨ret_bool HE.out.symm, hB.out⟩
      · have g60 : ((s[k].toNat : Int) == 60) = false := by simp; omega
        have g34 : ((s[k].toNat : Int) == 34) = true := by simp; omega
        have g39 : ((s[k].toNat : Int) == 39) = false := by simp; omega
        have g40 : ((s[k].toNat : Int) == 40) = false := by simp; omega
        have g91 : ((s[k].toNat : Int) == 91) = false := by simp; omega
        have g41 : ((s[k].toNat : Int) == 41) = false := by simp; omega
        have g93 : ((s[k].toNat : Int) == 93) = false := by simp; omega
        have hc := UInt8.toNat.inj (show s[k].toNat = (34 : UInt8).toNat from h)
        have HQ := Lib.hid (show quoteC s[k] = true by rw [hc]; rfl)
        have H60 := Lib.hid (show (s[k] == 60) = false by rw [hc]; rfl)
        clear h hc
        cases hn : strN s[k] (s.data.toList.drop (k + 1)) with
        | none =>
          have HN := Lib.hid hn
          have HE := Lib.hid (show r = false by rw [hp.out, HD.out, ruleL_none H60.out HQ.out HN.out])
          clear hn
          go_wp2_with fail
          refine (HZ.out _).mono ?_
          rw [HN.out, show strV k (-1) none = -1 from rfl]
          rintro e w1 ⟨rfl, rfl⟩
          go_wp2_with fail
          go_ret
          exact ⟨ret_bool HE.out.symm, hB.out⟩
        | some n =>
          have HN := Lib.hid hn
          have hnp := strN_pos hn
          have hnl : k + 1 + n ≤ s.size := by have := hnp.2; simp at this; omega
          have HE := Lib.hid (show r = (!(((s.data.toList.drop (k + 1)).take n).contains 60) && ruleL O.data.toList (s.data.toList.drop (k + 1 + n))) by rw [hp.out, HD.out, ruleL_some H60.out HQ.out HN.out, List.drop_drop])
          have HXd := Lib.hid (show (s.extract k (k + 1 + n)).data.toList = s[k] :: (s.data.toList.drop (k + 1)).take n by
            rw [Lib.extract_data, drop_byte s k hlt, show k + 1 + n - k = n + 1 by omega, List.take_succ_cons])
          have hn1 := hnp.1
          clear hn hnp
          obtain ⟨q, hq⟩ : ∃ q, k + 1 + n = q := ⟨_, rfl⟩
          have HV := Lib.hid (show strV k (-1) (some n) = (q : Int) by rw [← hq]; rfl)
          rw [hq] at HE hnl HXd
          have hkq : k < q := by omega
          have hkq2 : k ≤ q := by omega
          clear hq
          obtain ⟨X, hX⟩ : ∃ X, s.extract k q = X := ⟨_, rfl⟩
          rw [hX] at HXd
          have hXs : X.size = q - k := by rw [← hX]; simp [ByteArray.size_extract]; omega
          have HCX := Lib.hid (show X.data.toList.contains 60 = ((s.data.toList.drop (k + 1)).take n).contains 60 by
            rw [HXd.out, List.contains_cons]
            have : ((60 : UInt8) == s[k]) = false := by rw [beq_eq_false_iff_ne]; intro h; have := H60.out; rw [← h] at this; cases this
            rw [this, Bool.false_or])
          have HE2 := Lib.hid (show r = (!(X.data.toList.contains 60) && ruleL O.data.toList (s.data.toList.drop q)) by rw [HCX.out]; exact HE.out)
          have hq0 : decide ((q : Int) < 0) = false := decide_eq_false (by omega)
          clear HE HXd HCX
          have hcv := fun w => Lib.run_convert_string_bytes (P := Try.prog) w 9 47 5 X Try.underlying9 Try.underlying47 Try.underlying5
          have HB1 := Lib.hid (below_then hB.out hB.out.size (bytesWorld_below wr 5 X))
          have hcell := Lib.hid (fun j hj => bytesWorld_cell' wr 5 X j hj)
          go_wp2_with fail
          refine (HZ.out _).mono ?_
          rw [HN.out, HV.out]
          rintro e w1 ⟨rfl, rfl⟩
          go_wp2_with fail
          clear hX
          generalize Lib.bytesWorld wr 5 X = wq at HB1 hcell ⊢
          go_loop [42] (fun i => ∃ m : Nat, m ≤ X.size ∧ i = .int .i64 m ∧ Hid ((X.data.toList.take m).all (fun b => !(b == 60)) = true)) (fun i => X.size - (intOf i).toNat)
          case atStart => exact ⟨0, Nat.zero_le _, rfl, by simp [Hid]⟩
          case round =>
            clear hcv
            obtain ⟨m, hm, rfl, hall⟩ := hrel
            by_cases hmt : m < X.size
            · have hc := hcell.out m hmt
              have HT := Lib.hid (all_take_succ (p := fun b => !(b == 60)) X m hmt)
              have hv := u8_beq X[m] 60
              rw [show ((60:UInt8).toNat : Int) = 60 from rfl] at hv
              cases h60 : ((X[m].toNat : Int) == 60) with
              | true =>
                have HF := Lib.hid (show r = false by
                  have e : X.data.toList.contains 60 = true := by
                    rw [List.contains_iff_mem, ← beq_iff_eq.1 (hv.symm.trans h60)]
                    exact getElem_mem_data X m hmt
                  rw [HE2.out, e]; rfl)
                clear hv
                go_wp2_with fail
                go_ret
                exact ⟨ret_bool HF.out.symm, HB1.out⟩
              | false =>
                have HN2 := Lib.hid (hv.symm.trans h60)
                clear hv
                go_wp2_with fail
                go_round
                case rel => exact ⟨m + 1, by omega, by simp, by rw [Hid, HT.out, hall.out, HN2.out]; rfl⟩
                case measure => simp [intOf]; omega
            · have HF := Lib.hid (show r = ruleL O.data.toList (s.data.toList.drop q) by
                have h1 := all_of_take X m (by omega) hall.out
                have e : X.data.toList.contains 60 = false := by
                  rw [Bool.eq_false_iff]
                  intro h2
                  rw [List.contains_iff_mem] at h2
                  have h3 := List.all_eq_true.1 h1 60 h2
                  simp at h3
                rw [HE2.out, e]; rfl)
              go_wp2_with fail
              go_roundg (s.size - q)
              case measure => rw [HG.out]; omega
              case rel => exact ⟨q, O, rfl, hnl, by simp, rfl, by omega, HF, hOp, HB1⟩
      · have g60 : ((s[k].toNat : Int) == 60) = false := by simp; omega
        have g34 : ((s[k].toNat : Int) == 34) = false := by simp; omega
        have g39 : ((s[k].toNat : Int) == 39) = true := by simp; omega
        have g40 : ((s[k].toNat : Int) == 40) = false := by simp; omega
        have g91 : ((s[k].toNat : Int) == 91) = false := by simp; omega
        have g41 : ((s[k].toNat : Int) == 41) = false := by simp; omega
        have g93 : ((s[k].toNat : Int) == 93) = false := by simp; omega
        have hc := UInt8.toNat.inj (show s[k].toNat = (39 : UInt8).toNat from h)
        have HQ := Lib.hid (show quoteC s[k] = true by rw [hc]; rfl)
        have H60 := Lib.hid (show (s[k] == 60) = false by rw [hc]; rfl)
        clear h hc
        cases hn : strN s[k] (s.data.toList.drop (k + 1)) with
        | none =>
          have HN := Lib.hid hn
          have HE := Lib.hid (show r = false by rw [hp.out, HD.out, ruleL_none H60.out HQ.out HN.out])
          clear hn
          go_wp2_with fail
          refine (HZ.out _).mono ?_
          rw [HN.out, show strV k (-1) none = -1 from rfl]
          rintro e w1 ⟨rfl, rfl⟩
          go_wp2_with fail
          go_ret
          exact ⟨ret_bool HE.out.symm, hB.out⟩
        | some n =>
          have HN := Lib.hid hn
          have hnp := strN_pos hn
          have hnl : k + 1 + n ≤ s.size := by have := hnp.2; simp at this; omega
          have HE := Lib.hid (show r = (!(((s.data.toList.drop (k + 1)).take n).contains 60) && ruleL O.data.toList (s.data.toList.drop (k + 1 + n))) by rw [hp.out, HD.out, ruleL_some H60.out HQ.out HN.out, List.drop_drop])
          have HXd := Lib.hid (show (s.extract k (k + 1 + n)).data.toList = s[k] :: (s.data.toList.drop (k + 1)).take n by
            rw [Lib.extract_data, drop_byte s k hlt, show k + 1 + n - k = n + 1 by omega, List.take_succ_cons])
          have hn1 := hnp.1
          clear hn hnp
          obtain ⟨q, hq⟩ : ∃ q, k + 1 + n = q := ⟨_, rfl⟩
          have HV := Lib.hid (show strV k (-1) (some n) = (q : Int) by rw [← hq]; rfl)
          rw [hq] at HE hnl HXd
          have hkq : k < q := by omega
          have hkq2 : k ≤ q := by omega
          clear hq
          obtain ⟨X, hX⟩ : ∃ X, s.extract k q = X := ⟨_, rfl⟩
          rw [hX] at HXd
          have hXs : X.size = q - k := by rw [← hX]; simp [ByteArray.size_extract]; omega
          have HCX := Lib.hid (show X.data.toList.contains 60 = ((s.data.toList.drop (k + 1)).take n).contains 60 by
            rw [HXd.out, List.contains_cons]
            have : ((60 : UInt8) == s[k]) = false := by rw [beq_eq_false_iff_ne]; intro h; have := H60.out; rw [← h] at this; cases this
            rw [this, Bool.false_or])
          have HE2 := Lib.hid (show r = (!(X.data.toList.contains 60) && ruleL O.data.toList (s.data.toList.drop q)) by rw [HCX.out]; exact HE.out)
          have hq0 : decide ((q : Int) < 0) = false := decide_eq_false (by omega)
          clear HE HXd HCX
          have hcv := fun w => Lib.run_convert_string_bytes (P := Try.prog) w 9 47 5 X Try.underlying9 Try.underlying47 Try.underlying5
          have HB1 := Lib.hid (below_then hB.out hB.out.size (bytesWorld_below wr 5 X))
          have hcell := Lib.hid (fun j hj => bytesWorld_cell' wr 5 X j hj)
          go_wp2_with fail
          refine (HZ.out _).mono ?_
          rw [HN.out, HV.out]
          rintro e w1 ⟨rfl, rfl⟩
          go_wp2_with fail
          clear hX
          generalize Lib.bytesWorld wr 5 X = wq at HB1 hcell ⊢
          go_loop [42] (fun i => ∃ m : Nat, m ≤ X.size ∧ i = .int .i64 m ∧ Hid ((X.data.toList.take m).all (fun b => !(b == 60)) = true)) (fun i => X.size - (intOf i).toNat)
          case atStart => exact ⟨0, Nat.zero_le _, rfl, by simp [Hid]⟩
          case round =>
            clear hcv
            obtain ⟨m, hm, rfl, hall⟩ := hrel
            by_cases hmt : m < X.size
            · have hc := hcell.out m hmt
              have HT := Lib.hid (all_take_succ (p := fun b => !(b == 60)) X m hmt)
              have hv := u8_beq X[m] 60
              rw [show ((60:UInt8).toNat : Int) = 60 from rfl] at hv
              cases h60 : ((X[m].toNat : Int) == 60) with
              | true =>
                have HF := Lib.hid (show r = false by
                  have e : X.data.toList.contains 60 = true := by
                    rw [List.contains_iff_mem, ← beq_iff_eq.1 (hv.symm.trans h60)]
                    exact getElem_mem_data X m hmt
                  rw [HE2.out, e]; rfl)
                clear hv
                go_wp2_with fail
                go_ret
                exact ⟨ret_bool HF.out.symm, HB1.out⟩
              | false =>
                have HN2 := Lib.hid (hv.symm.trans h60)
                clear hv
                go_wp2_with fail
                go_round
                case rel => exact ⟨m + 1, by omega, by simp, by rw [Hid, HT.out, hall.out, HN2.out]; rfl⟩
                case measure => simp [intOf]; omega
            · have HF := Lib.hid (show r = ruleL O.data.toList (s.data.toList.drop q) by
                have h1 := all_of_take X m (by omega) hall.out
                have e : X.data.toList.contains 60 = false := by
                  rw [Bool.eq_false_iff]
                  intro h2
                  rw [List.contains_iff_mem] at h2
                  have h3 := List.all_eq_true.1 h1 60 h2
                  simp at h3
                rw [HE2.out, e]; rfl)
              go_wp2_with fail
              go_roundg (s.size - q)
              case measure => rw [HG.out]; omega
              case rel => exact ⟨q, O, rfl, hnl, by simp, rfl, by omega, HF, hOp, HB1⟩
      · have g60 : ((s[k].toNat : Int) == 60) = false := by simp; omega
        have g34 : ((s[k].toNat : Int) == 34) = false := by simp; omega
        have g39 : ((s[k].toNat : Int) == 39) = false := by simp; omega
        have g40 : ((s[k].toNat : Int) == 40) = true := by simp; omega
        have g91 : ((s[k].toNat : Int) == 91) = false := by simp; omega
        have g41 : ((s[k].toNat : Int) == 41) = false := by simp; omega
        have g93 : ((s[k].toNat : Int) == 93) = false := by simp; omega
        have hc := UInt8.toNat.inj (show s[k].toNat = (40 : UInt8).toNat from h)
        have HO := Lib.hid (show openC s[k] = true by rw [hc]; rfl)
        have henc := enc_ascii s[k] (by omega)
        have HE := Lib.hid (show r = ruleL (O ++ ⟨#[s[k]]⟩).data.toList (s.data.toList.drop (k + 1)) by rw [hp.out, HD.out, ruleL_open HO.out, bytes_append])
        have HOp2 := Lib.hid (show (O ++ ⟨#[s[k]]⟩).data.toList.all openC = true by rw [bytes_append, List.all_append, hOp.out]; show (true && (openC s[k] && true)) = true; rw [HO.out]; rfl)
        have h1z : (ByteArray.mk #[s[k]]).size = 1 := rfl
        have hadd : O.size + (ByteArray.mk #[s[k]]).size ≤ 9223372036854775807 := by rw [h1z]; omega
        have hsz : (O ++ ByteArray.mk #[s[k]]).size ≤ k + 1 := by rw [ByteArray.size_append, h1z]; omega
        clear h hc h1z
        go_wp2_with fail
        go_roundg (s.size - (k + 1))
        case measure => rw [HG.out]; omega
        case rel => exact ⟨k + 1, _, rfl, by omega, by simp, rfl, hsz, HE, HOp2, hB⟩
      · have g60 : ((s[k].toNat : Int) == 60) = false := by simp; omega
        have g34 : ((s[k].toNat : Int) == 34) = false := by simp; omega
        have g39 : ((s[k].toNat : Int) == 39) = false := by simp; omega
        have g40 : ((s[k].toNat : Int) == 40) = false := by simp; omega
        have g91 : ((s[k].toNat : Int) == 91) = true := by simp; omega
        have g41 : ((s[k].toNat : Int) == 41) = false := by simp; omega
        have g93 : ((s[k].toNat : Int) == 93) = false := by simp; omega
        have hc := UInt8.toNat.inj (show s[k].toNat = (91 : UInt8).toNat from h)
        have HO := Lib.hid (show openC s[k] = true by rw [hc]; rfl)
        have henc := enc_ascii s[k] (by omega)
        have HE := Lib.hid (show r = ruleL (O ++ ⟨#[s[k]]⟩).data.toList (s.data.toList.drop (k + 1)) by rw [hp.out, HD.out, ruleL_open HO.out, bytes_append])
        have HOp2 := Lib.hid (show (O ++ ⟨#[s[k]]⟩).data.toList.all openC = true by rw [bytes_append, List.all_append, hOp.out]; show (true && (openC s[k] && true)) = true; rw [HO.out]; rfl)
        have h1z : (ByteArray.mk #[s[k]]).size = 1 := rfl
        have hadd : O.size + (ByteArray.mk #[s[k]]).size ≤ 9223372036854775807 := by rw [h1z]; omega
        have hsz : (O ++ ByteArray.mk #[s[k]]).size ≤ k + 1 := by rw [ByteArray.size_append, h1z]; omega
        clear h hc h1z
        go_wp2_with fail
        go_roundg (s.size - (k + 1))
        case measure => rw [HG.out]; omega
        case rel => exact ⟨k + 1, _, rfl, by omega, by simp, rfl, hsz, HE, HOp2, hB⟩
      · have g60 : ((s[k].toNat : Int) == 60) = false := by simp; omega
        have g34 : ((s[k].toNat : Int) == 34) = false := by simp; omega
        have g39 : ((s[k].toNat : Int) == 39) = false := by simp; omega
        have g40 : ((s[k].toNat : Int) == 40) = false := by simp; omega
        have g91 : ((s[k].toNat : Int) == 91) = false := by simp; omega
        have g41 : ((s[k].toNat : Int) == 41) = true := by simp; omega
        have g93 : ((s[k].toNat : Int) == 93) = false := by simp; omega
        have hc := UInt8.toNat.inj (show s[k].toNat = (41 : UInt8).toNat from h)
        have HS := Lib.hid (show shutC s[k] = true by rw [hc]; rfl)
        have HM := Lib.hid (show mateC s[k] = 40 by rw [hc]; rfl)
        clear h hc
        by_cases ho0 : O.size = 0
        · have hnil : O.data.toList = [] := List.eq_nil_of_length_eq_zero (by simpa using ho0)
          have he : (O.toList == []) = true := by rw [ByteArray.toList_eq, hnil]; rfl
          clear hnil
          have HE := Lib.hid (show r = false by
            have : O.data.toList = [] := List.eq_nil_of_length_eq_zero (by simpa using ho0)
            rw [hp.out, HD.out, ruleL_shut HS.out, this]; rfl)
          have he2 : O.toList.isEmpty = true := by rw [emp_iff']; exact he
          clear ho0
          go_wp2_with fail
          go_ret
          exact ⟨ret_bool HE.out.symm, hB.out⟩
        · obtain ⟨m, hm⟩ : ∃ m, O.size = m + 1 := ⟨O.size - 1, by omega⟩
          have hmlt : m < O.size := by omega
          have he : (O.toList == []) = false := by rw [ByteArray.toList_eq, beq_eq_false_iff_ne]; intro h; have h1 : O.data.toList.length = O.size := (by simp); rw [h] at h1; simp only [List.length_nil] at h1; omega
          have he2 : O.toList.isEmpty = false := by rw [emp_iff']; exact he
          have HSp := Lib.hid (show O.data.toList = (O.extract 0 m).data.toList ++ [O[m]] by
            rw [Lib.extract_data, List.drop_zero, Nat.sub_zero, ← take_succ_byte O m hmlt, List.take_of_length_le (by simp; omega)])
          have hop := List.all_eq_true.1 hOp.out O[m] (getElem_mem_data O m hmlt)
          have hex : (O.extract 0 m).size ≤ k + 1 := by simp [ByteArray.size_extract]; omega
          have HOp2 := Lib.hid (show (O.extract 0 m).data.toList.all openC = true by
            have := hOp.out
            rw [HSp.out, List.all_append, Bool.and_eq_true] at this
            exact this.1)
          rcases (show O[m].toNat = 40 ∨ O[m].toNat = 91 by
            simp only [openC, Bool.or_eq_true, beq_iff_eq] at hop
            rcases hop with h | h
            · left; rw [h]; rfl
            · right; rw [h]; rfl) with h | h
          · have g : ((O[m].toNat : Int) == 40) = true := by simp; omega
            have HEd := Lib.hid (show O[m] = 40 from UInt8.toNat.inj h)
            clear h hop ho0
            have HE := Lib.hid (show r = ruleL (O.extract 0 m).data.toList (s.data.toList.drop (k + 1)) by
              rw [hp.out, HD.out, ruleL_shut HS.out, HSp.out, popL_snoc, if_pos (by rw [HEd.out, HM.out])])
            go_wp2_with fail
            go_roundg (s.size - (k + 1))
            case measure => rw [HG.out]; omega
            case rel => exact ⟨k + 1, _, rfl, by omega, by simp, rfl, hex, HE, HOp2, hB⟩
          · have g : ((O[m].toNat : Int) == 40) = false := by simp; omega
            have HEd := Lib.hid (show O[m] = 91 from UInt8.toNat.inj h)
            clear h hop ho0
            have HE := Lib.hid (show r = false by
              rw [hp.out, HD.out, ruleL_shut HS.out, HSp.out, popL_snoc, if_neg (by rw [HEd.out, HM.out]; decide)])
            go_wp2_with fail
            go_ret
            exact ⟨ret_bool HE.out.symm, hB.out⟩
      · have g60 : ((s[k].toNat : Int) == 60) = false := by simp; omega
        have g34 : ((s[k].toNat : Int) == 34) = false := by simp; omega
        have g39 : ((s[k].toNat : Int) == 39) = false := by simp; omega
        have g40 : ((s[k].toNat : Int) == 40) = false := by simp; omega
        have g91 : ((s[k].toNat : Int) == 91) = false := by simp; omega
        have g41 : ((s[k].toNat : Int) == 41) = false := by simp; omega
        have g93 : ((s[k].toNat : Int) == 93) = true := by simp; omega
        have hc := UInt8.toNat.inj (show s[k].toNat = (93 : UInt8).toNat from h)
        have HS := Lib.hid (show shutC s[k] = true by rw [hc]; rfl)
        have HM := Lib.hid (show mateC s[k] = 91 by rw [hc]; rfl)
        clear h hc
        by_cases ho0 : O.size = 0
        · have hnil : O.data.toList = [] := List.eq_nil_of_length_eq_zero (by simpa using ho0)
          have he : (O.toList == []) = true := by rw [ByteArray.toList_eq, hnil]; rfl
          clear hnil
          have HE := Lib.hid (show r = false by
            have : O.data.toList = [] := List.eq_nil_of_length_eq_zero (by simpa using ho0)
            rw [hp.out, HD.out, ruleL_shut HS.out, this]; rfl)
          have he2 : O.toList.isEmpty = true := by rw [emp_iff']; exact he
          clear ho0
          go_wp2_with fail
          go_ret
          exact ⟨ret_bool HE.out.symm, hB.out⟩
        · obtain ⟨m, hm⟩ : ∃ m, O.size = m + 1 := ⟨O.size - 1, by omega⟩
          have hmlt : m < O.size := by omega
          have he : (O.toList == []) = false := by rw [ByteArray.toList_eq, beq_eq_false_iff_ne]; intro h; have h1 : O.data.toList.length = O.size := (by simp); rw [h] at h1; simp only [List.length_nil] at h1; omega
          have he2 : O.toList.isEmpty = false := by rw [emp_iff']; exact he
          have HSp := Lib.hid (show O.data.toList = (O.extract 0 m).data.toList ++ [O[m]] by
            rw [Lib.extract_data, List.drop_zero, Nat.sub_zero, ← take_succ_byte O m hmlt, List.take_of_length_le (by simp; omega)])
          have hop := List.all_eq_true.1 hOp.out O[m] (getElem_mem_data O m hmlt)
          have hex : (O.extract 0 m).size ≤ k + 1 := by simp [ByteArray.size_extract]; omega
          have HOp2 := Lib.hid (show (O.extract 0 m).data.toList.all openC = true by
            have := hOp.out
            rw [HSp.out, List.all_append, Bool.and_eq_true] at this
            exact this.1)
          rcases (show O[m].toNat = 40 ∨ O[m].toNat = 91 by
            simp only [openC, Bool.or_eq_true, beq_iff_eq] at hop
            rcases hop with h | h
            · left; rw [h]; rfl
            · right; rw [h]; rfl) with h | h
          · have g : ((O[m].toNat : Int) == 40) = true := by simp; omega
            have HEd := Lib.hid (show O[m] = 40 from UInt8.toNat.inj h)
            clear h hop ho0
            have HE := Lib.hid (show r = false by
              rw [hp.out, HD.out, ruleL_shut HS.out, HSp.out, popL_snoc, if_neg (by rw [HEd.out, HM.out]; decide)])
            go_wp2_with fail
            go_ret
            exact ⟨ret_bool HE.out.symm, hB.out⟩
          · have g : ((O[m].toNat : Int) == 40) = false := by simp; omega
            have HEd := Lib.hid (show O[m] = 91 from UInt8.toNat.inj h)
            clear h hop ho0
            have HE := Lib.hid (show r = ruleL (O.extract 0 m).data.toList (s.data.toList.drop (k + 1)) by
              rw [hp.out, HD.out, ruleL_shut HS.out, HSp.out, popL_snoc, if_pos (by rw [HEd.out, HM.out])])
            go_wp2_with fail
            go_roundg (s.size - (k + 1))
            case measure => rw [HG.out]; omega
            case rel => exact ⟨k + 1, _, rfl, by omega, by simp, rfl, hex, HE, HOp2, hB⟩
      · have g60 : ((s[k].toNat : Int) == 60) = false := by simp; omega
        have g34 : ((s[k].toNat : Int) == 34) = false := by simp; omega
        have g39 : ((s[k].toNat : Int) == 39) = false := by simp; omega
        have g40 : ((s[k].toNat : Int) == 40) = false := by simp; omega
        have g91 : ((s[k].toNat : Int) == 91) = false := by simp; omega
        have g41 : ((s[k].toNat : Int) == 41) = false := by simp; omega
        have g93 : ((s[k].toNat : Int) == 93) = false := by simp; omega
        have HRn := Lib.hid (show r = ((letterC s[k] || digitC s[k] || selSpec.contains s[k]) && ruleL O.data.toList (s.data.toList.drop (k + 1))) by
          have ne : ∀ x : UInt8, s[k].toNat ≠ x.toNat → (s[k] == x) = false := fun x hx => by rw [beq_eq_false_iff_ne]; intro h2; exact hx (by rw [h2])
          rw [hp.out, HD.out, ruleL_on (ne 60 h.1) (by rw [quoteC, ne 34 h.2.1, ne 39 h.2.2.1]; rfl) (by rw [openC, ne 40 h.2.2.2.1, ne 91 h.2.2.2.2.1]; rfl) (by rw [shutC, ne 41 h.2.2.2.2.2.1, ne 93 h.2.2.2.2.2.2]; rfl)])
        clear h
        cases h1 : letterC s[k] with
        | true =>
          have H1 := Lib.hid h1
          have HE := Lib.hid (show r = ruleL O.data.toList (s.data.toList.drop (k + 1)) by rw [HRn.out, h1]; rfl)
          clear h1
          go_wp2_with fail
          refine (HLe.out _).mono ?_
          rw [H1.out]
          rintro e w1 ⟨rfl, rfl⟩
          go_wp2_with fail
          go_roundg (s.size - (k + 1))
          case measure => rw [HG.out]; omega
          case rel => exact ⟨k + 1, O, rfl, by omega, by simp, rfl, by omega, HE, hOp, hB⟩
        | false =>
          have H1 := Lib.hid h1
          cases h2 : digitC s[k] with
          | true =>
            have H2 := Lib.hid h2
            have HE := Lib.hid (show r = ruleL O.data.toList (s.data.toList.drop (k + 1)) by rw [HRn.out, h1, h2]; rfl)
            clear h1 h2
            go_wp2_with fail
            refine (HLe.out _).mono ?_
            rw [H1.out]
            rintro e w1 ⟨rfl, rfl⟩
            go_wp2_with fail
            refine (HFi.out _).mono ?_
            rw [H2.out]
            rintro e w1 ⟨rfl, rfl⟩
            go_wp2_with fail
            go_roundg (s.size - (k + 1))
            case measure => rw [HG.out]; omega
            case rel => exact ⟨k + 1, O, rfl, by omega, by simp, rfl, by omega, HE, hOp, hB⟩
          | false =>
            have H2 := Lib.hid h2
            have HE0 := Lib.hid (show r = (selSpec.contains s[k] && ruleL O.data.toList (s.data.toList.drop (k + 1))) by rw [HRn.out, h1, h2]; rfl)
            clear h1 h2
            have hconv := Lib.run_convert_bytes_const (P := Try.prog) wr 47 5 #[Value.int IntKind.u8 45, Value.int IntKind.u8 95, Value.int IntKind.u8 35, Value.int IntKind.u8 46, Value.int IntKind.u8 58, Value.int IntKind.u8 42, Value.int IntKind.u8 32, Value.int IntKind.u8 44, Value.int IntKind.u8 62, Value.int IntKind.u8 43, Value.int IntKind.u8 126, Value.int IntKind.u8 61, Value.int IntKind.u8 94, Value.int IntKind.u8 36, Value.int IntKind.u8 124] 15 15 Try.underlying47 Try.underlying5
            go_wp2_with fail
            refine (HLe.out _).mono ?_
            rw [H1.out]
            rintro e w1 ⟨rfl, rfl⟩
            go_wp2_with fail
            refine (HFi.out _).mono ?_
            rw [H2.out]
            rintro e w1 ⟨rfl, rfl⟩
            have hcell := Lib.hid (sel_cells wr)
            have HB1 := Lib.hid (hB.out.alloc hB.out.size (Obj.cells #[Value.int IntKind.u8 45, Value.int IntKind.u8 95, Value.int IntKind.u8 35, Value.int IntKind.u8 46, Value.int IntKind.u8 58, Value.int IntKind.u8 42, Value.int IntKind.u8 32, Value.int IntKind.u8 44, Value.int IntKind.u8 62, Value.int IntKind.u8 43, Value.int IntKind.u8 126, Value.int IntKind.u8 61, Value.int IntKind.u8 94, Value.int IntKind.u8 36, Value.int IntKind.u8 124] 5 (15, 16)))
            go_wp2_with fail
            clear hconv
            generalize wr.alloc (Obj.cells #[Value.int IntKind.u8 45, Value.int IntKind.u8 95, Value.int IntKind.u8 35, Value.int IntKind.u8 46, Value.int IntKind.u8 58, Value.int IntKind.u8 42, Value.int IntKind.u8 32, Value.int IntKind.u8 44, Value.int IntKind.u8 62, Value.int IntKind.u8 43, Value.int IntKind.u8 126, Value.int IntKind.u8 61, Value.int IntKind.u8 94, Value.int IntKind.u8 36, Value.int IntKind.u8 124] 5 (15, 16)) = wq at HB1 hcell ⊢
            go_loop [9, 100] (fun kn i => ∃ m : Nat, m ≤ 15 ∧ i = .int .i64 m ∧ kn = .bool ((selSpec.take m).contains s[k])) (fun _ i => 15 - (intOf i).toNat)
            case atStart => exact ⟨0, Nat.zero_le _, rfl, rfl⟩
            case round =>
              obtain ⟨m, hm, rfl, rfl⟩ := hrel
              by_cases hmt : m < 15
              · have hml : m < selSpec.length := hmt
                have hc := hcell.out m hmt
                have HT := Lib.hid (show (selSpec.take (m + 1)).contains s[k] = ((selSpec.take m).contains s[k] || (s[k] == selSpec.getD m 0)) by
                  rw [List.take_succ_eq_append_getElem hml, List.getD_eq_getElem?_getD, List.getElem?_eq_getElem hml, Bool.eq_iff_iff]
                  simp only [List.contains_iff_mem, List.mem_append, List.mem_singleton, Bool.or_eq_true, beq_iff_eq, Option.getD_some])
                generalize selSpec.getD m 0 = d at hc HT
                have HQ := Lib.hid (u8_beq s[k] d)
                have HQ2 := Lib.hid (nat_beq s[k] d)
                cases hkn : (selSpec.take m).contains s[k] with
                | true =>
                  have HK := Lib.hid (show (selSpec.take (m + 1)).contains s[k] = true by rw [HT.out, hkn]; rfl)
                  clear hkn
                  go_wp2_with fail
                  go_round
                  case rel => exact ⟨m + 1, by omega, by simp, by rw [HK.out]⟩
                  case measure => simp [intOf]; omega
                | false =>
                  cases hd : (s[k] == d) with
                  | true =>
                    have gq := HQ.out.trans hd
                    have gq2 := HQ2.out.trans hd
                    have HK := Lib.hid (show (selSpec.take (m + 1)).contains s[k] = true by rw [HT.out, hd]; simp)
                    clear hkn hd
                    go_wp2_with fail
                    go_round
                    case rel => exact ⟨m + 1, by omega, by simp, by rw [HK.out]⟩
                    case measure => simp [intOf]; omega
                  | false =>
                    have gq := HQ.out.trans hd
                    have gq2 := HQ2.out.trans hd
                    have HK := Lib.hid (show (selSpec.take (m + 1)).contains s[k] = false by rw [HT.out, hkn, hd]; rfl)
                    clear hkn hd
                    go_wp2_with fail
                    go_round
                    case rel => exact ⟨m + 1, by omega, by simp, by rw [HK.out]⟩
                    case measure => simp [intOf]; omega
              · have hm15 : m = 15 := by omega
                have HTa := Lib.hid (show (selSpec.take m).contains s[k] = selSpec.contains s[k] by rw [hm15]; rfl)
                rw [HTa.out]
                clear hm15 hm
                cases hkn : selSpec.contains s[k] with
                | true =>
                  have HE := Lib.hid (show r = ruleL O.data.toList (s.data.toList.drop (k + 1)) by rw [HE0.out, hkn]; rfl)
                  clear hkn
                  go_wp2_with fail
                  go_roundg (s.size - (k + 1))
                  case measure => rw [HG.out]; omega
                  case rel => exact ⟨k + 1, O, rfl, by omega, by simp, rfl, by omega, HE, hOp, HB1⟩
                | false =>
                  have HE := Lib.hid (show r = false by rw [HE0.out, hkn]; rfl)
                  clear hkn
                  go_wp2_with fail
                  go_ret
                  exact ⟨ret_bool HE.out.symm, HB1.out⟩
    · have hks : k = s.size := by omega
      have HE := Lib.hid (show r = (O.toList == []) by
        rw [hp.out, hks, List.drop_of_length_le (by simp), ruleL_nil, ByteArray.toList_eq]
        cases O.data.toList <;> rfl)
      clear hks HG
      go_wp2_with fail
      go_ret
      exact ⟨ret_bool (by rw [HE.out]; first | rfl | exact emp_iff' _), hB.out⟩
end Go.Proofs.Ytmgkolcpomaceaa
namespace Go.Proofs.Ytmgkolcpomaceaa
open Go.RowKit Go.Maps
set_option linter.unusedVariables false
set_option linter.unusedSimpArgs false

set_option maxRecDepth 100000 in
theorem errNew2_calls (s : ByteArray) (w : World) :
    Calls Try.prog 100 #[.string s] w fun e w' => e = .returned (.iface 110 (.pointer (some ⟨w.heap.size, 0, none⟩))) ∧ Below w.heap.size w w' := by
  go_enter Try.func100, Try.ntmps100
  go_wp2_with fail
  go_ret
  exact ⟨rfl, (Below.refl _ _).alloc (Nat.le_refl _) _⟩
set_option maxRecDepth 100000 in
theorem sheetString_calls (s : ByteArray) (w : World) :
    Calls Try.prog 88 #[.agg #[.string s]] w fun x w' => x = .returned (.string s) ∧ Below w.heap.size w w' := by
  go_enter Try.func88, Try.ntmps88
  go_wp2
  go_ret
  exact ⟨rfl, (Below.refl _ _).alloc (Nat.le_refl _) _⟩
structure RC (w wx : World) (t : ByteArray) : Prop where
  c0 : wx.cell? ⟨w.heap.size, 0, none⟩ = some (.string t)
  c1 : wx.cell? ⟨w.heap.size + 1, 0, none⟩ = some (.string ⟨#[]⟩)
  f1 : wx.frozen? ⟨w.heap.size + 1, 0, none⟩ = false
  lt : w.heap.size + 1 < wx.heap.size
  below : Below w.heap.size w wx
theorem RC.on {w wx wy : World} {t : ByteArray} (h : RC w wx t) (hb : Below wx.heap.size wx wy) : RC w wy t :=
  ⟨(hb.cell (p := ⟨w.heap.size, 0, none⟩) (by have := h.lt; simp; omega)).trans h.c0, (hb.cell (p := ⟨w.heap.size + 1, 0, none⟩) h.lt).trans h.c1, (hb.frozen (p := ⟨w.heap.size + 1, 0, none⟩) h.lt).trans h.f1,
   Nat.lt_of_lt_of_le h.lt hb.size, below_then h.below h.below.size hb⟩
theorem rc_start (w : World) (t : ByteArray) : RC w ((w.alloc (Obj.cells #[.string t] 54)).alloc (Obj.cells #[.string ⟨#[]⟩] 86)) t := by
  refine ⟨?_, ?_, ?_, by simp, ((Below.refl _ _).alloc (Nat.le_refl _) _).alloc (by simp) _⟩
  · rw [(Below.own (w.alloc (Obj.cells #[.string t] 54)) (Obj.cells #[.string ⟨#[]⟩] 86)).cell (p := ⟨w.heap.size, 0, none⟩) (by simp), World.cell?_alloc_new]; rfl
  · have : w.heap.size + 1 = (w.alloc (Obj.cells #[.string t] 54)).heap.size := by simp
    rw [this, World.cell?_alloc_new]; rfl
  · have : w.heap.size + 1 = (w.alloc (Obj.cells #[.string t] 54)).heap.size := by simp
    rw [this]; simp [go_sem]
def ruleS (s t : ByteArray) : ByteArray := s ++ ⟨#[123]⟩ ++ t ++ ⟨#[125]⟩
def RulePost (s t : ByteArray) (b : Bool) (e : Ending) : Prop := if b = true then e = .returned (.tuple #[.agg #[.string (ruleS s t)], .nilIface]) else ∃ a : Addr, e = .returned (.tuple #[.agg #[.string ⟨#[]⟩], .iface 110 (.pointer (some a))])

set_option maxHeartbeats 16000000 in
set_option maxRecDepth 100000 in
theorem cssRule_calls (s t : ByteArray) (w : World) (hs : s.size ≤ 200) (ht : t.size ≤ 2000000) :
    Calls Try.prog 87 #[.string s, .agg #[.string t]] w fun e w' => RulePost s t (ruleL [] s.data.toList) e ∧ Below w.heap.size w w' := by
  have HR := Lib.hid (rule_same s.data.toList)
  obtain ⟨b, hb⟩ : ∃ b, ruleL [] s.data.toList = b := ⟨_, rfl⟩
  rw [hb] at HR
  rw [hb]
  clear hb
  have HI := Lib.hid (fun w => zzIndex_calls s 60 60 rfl w (by omega))
  have HN := Lib.hid (idxI_dec s.data.toList 60)
  obtain ⟨z, hz⟩ : ∃ z, idxI s.data.toList 60 = z := ⟨_, rfl⟩
  rw [hz] at HI HN
  clear hz
  have HRC := Lib.hid (rc_start w t)
  by_cases hz0 : 0 ≤ z
  · have gz : decide (0 ≤ z) = true := decide_eq_true hz0
    obtain rfl : b = false := by rw [HR.out, noLtL, ← HN.out, gz]; rfl
    have HG := Lib.hid (show RulePost s t false = fun e => ∃ a : Addr, e = .returned (.tuple #[.agg #[.string ⟨#[]⟩], .iface 110 (.pointer (some a))]) from rfl)
    go_enter Try.func87, Try.ntmps87
    go_wp2_with fail
    refine (HI.out _).mono ?_
    rintro e w1 ⟨rfl, rfl⟩
    go_wp2_with fail
    refine (errNew2_calls _ _).mono ?_
    rintro e w9 ⟨rfl, hb⟩
    have HC9 := Lib.hid (HRC.out.on hb)
    have hcr := HC9.out.c1
    have hfr := HC9.out.f1
    clear hb
    go_wp2_with fail
    refine bodyPost_ret (v := .tuple #[.agg #[.string ⟨#[]⟩], .iface 110 (.pointer (some ⟨((w.alloc (Obj.cells #[.string t] 54)).alloc (Obj.cells #[.string ⟨#[]⟩] 86)).heap.size, 0, none⟩))]) (by simp [results, Try.results87, go_sem, hcr]) rfl ⟨by rw [HG.out]; exact ⟨_, rfl⟩, ?_⟩
    exact HC9.out.below.setCell (p := ⟨w.heap.size + 1, 0, none⟩) (Nat.le_succ _) _
  · have gz : decide (0 ≤ z) = false := decide_eq_false hz0
    have HR2 := Lib.hid (show b = ((withoutL s.data.toList).all validC && balL [] (withoutL s.data.toList)) by rw [HR.out, noLtL, ← HN.out, gz]; rfl)
    have HW := Lib.hid (fun w => without_calls s w (by omega))
    obtain ⟨b1, hb1⟩ : ∃ b1, (withoutL s.data.toList).all validC = b1 := ⟨_, rfl⟩
    obtain ⟨b2, hb2⟩ : ∃ b2, balL [] (withoutL s.data.toList) = b2 := ⟨_, rfl⟩
    rw [hb1, hb2] at HR2
    have HB1 := Lib.hid hb1
    have HB2 := Lib.hid hb2
    clear hb1 hb2
    have hpre : True := trivial
    cases b1 with
    | false =>
      obtain rfl : b = false := HR2.out
      have HG := Lib.hid (show RulePost s t false = fun e => ∃ a : Addr, e = .returned (.tuple #[.agg #[.string ⟨#[]⟩], .iface 110 (.pointer (some a))]) from rfl)
      go_enter Try.func87, Try.ntmps87
      go_wp2_with fail
      refine (HI.out _).mono ?_
      rintro e w1 ⟨rfl, rfl⟩
      go_wp2_with fail
      refine (HW.out _).mono ?_
      rintro e w1 ⟨T, rfl, hT, hTs, rfl⟩
      have HV := Lib.hid (fun w => invalid_calls T w (by omega))
      rw [hT, HB1.out] at HV
      clear hT
      go_wp2_with fail
      refine (HV.out _).mono ?_
      rintro e w2 ⟨rfl, hb⟩
      have HC2 := Lib.hid (HRC.out.on hb)
      clear hb
      go_wp2_with fail
      refine (errNew2_calls _ _).mono ?_
      rintro e w9 ⟨rfl, hb⟩
      have HC9 := Lib.hid (HC2.out.on hb)
      have hcr := HC9.out.c1
      have hfr := HC9.out.f1
      clear hb
      go_wp2_with fail
      refine bodyPost_ret (v := .tuple #[.agg #[.string ⟨#[]⟩], .iface 110 (.pointer (some ⟨w2.heap.size, 0, none⟩))]) (by simp [results, Try.results87, go_sem, hcr]) rfl ⟨by rw [HG.out]; exact ⟨_, rfl⟩, ?_⟩
      exact HC9.out.below.setCell (p := ⟨w.heap.size + 1, 0, none⟩) (Nat.le_succ _) _
    | true =>
      cases b2 with
      | false =>
        obtain rfl : b = false := HR2.out
        have HG := Lib.hid (show RulePost s t false = fun e => ∃ a : Addr, e = .returned (.tuple #[.agg #[.string ⟨#[]⟩], .iface 110 (.pointer (some a))]) from rfl)
        go_enter Try.func87, Try.ntmps87
        go_wp2_with fail
        refine (HI.out _).mono ?_
        rintro e w1 ⟨rfl, rfl⟩
        go_wp2_with fail
        refine (HW.out _).mono ?_
        rintro e w1 ⟨T, rfl, hT, hTs, rfl⟩
        have HV := Lib.hid (fun w => invalid_calls T w (by omega))
        have HBa := Lib.hid (fun w => balanced_calls T w (by omega))
        rw [hT, HB1.out] at HV
        rw [hT, HB2.out] at HBa
        clear hT
        go_wp2_with fail
        refine (HV.out _).mono ?_
        rintro e w2 ⟨rfl, hb⟩
        have HC2 := Lib.hid (HRC.out.on hb)
        clear hb
        go_wp2_with fail
        refine (HBa.out _).mono ?_
        rintro e w3 ⟨rfl, hb⟩
        have HC3 := Lib.hid (HC2.out.on hb)
        clear hb
        go_wp2_with fail
        refine (errNew2_calls _ _).mono ?_
        rintro e w9 ⟨rfl, hb⟩
        have HC9 := Lib.hid (HC3.out.on hb)
        have hcr := HC9.out.c1
        have hfr := HC9.out.f1
        clear hb
        go_wp2_with fail
        refine bodyPost_ret (v := .tuple #[.agg #[.string ⟨#[]⟩], .iface 110 (.pointer (some ⟨w3.heap.size, 0, none⟩))]) (by simp [results, Try.results87, go_sem, hcr]) rfl ⟨by rw [HG.out]; exact ⟨_, rfl⟩, ?_⟩
        exact HC9.out.below.setCell (p := ⟨w.heap.size + 1, 0, none⟩) (Nat.le_succ _) _
      | true =>
        obtain rfl : b = true := HR2.out
        have HG := Lib.hid (show RulePost s t true = fun e => e = .returned (.tuple #[.agg #[.string (ruleS s t)], .nilIface]) from rfl)
        have h1z : (ByteArray.mk #[123]).size = 1 := rfl
        have h2z : (ByteArray.mk #[125]).size = 1 := rfl
        have ha1 : s.size + (ByteArray.mk #[123]).size ≤ 9223372036854775807 := by rw [h1z]; omega
        have ha2 : (s ++ ByteArray.mk #[123]).size + t.size ≤ 9223372036854775807 := by rw [ByteArray.size_append, h1z]; omega
        have ha3 : (s ++ ByteArray.mk #[123] ++ t).size + (ByteArray.mk #[125]).size ≤ 9223372036854775807 := by rw [ByteArray.size_append, ByteArray.size_append, h1z, h2z]; omega
        clear h1z h2z
        go_enter Try.func87, Try.ntmps87
        go_wp2_with fail
        refine (HI.out _).mono ?_
        rintro e w1 ⟨rfl, rfl⟩
        go_wp2_with fail
        refine (HW.out _).mono ?_
        rintro e w1 ⟨T, rfl, hT, hTs, rfl⟩
        have HV := Lib.hid (fun w => invalid_calls T w (by omega))
        have HBa := Lib.hid (fun w => balanced_calls T w (by omega))
        rw [hT, HB1.out] at HV
        rw [hT, HB2.out] at HBa
        clear hT
        go_wp2_with fail
        refine (HV.out _).mono ?_
        rintro e w2 ⟨rfl, hb⟩
        have HC2 := Lib.hid (HRC.out.on hb)
        clear hb
        go_wp2_with fail
        refine (HBa.out _).mono ?_
        rintro e w3 ⟨rfl, hb⟩
        have HC3 := Lib.hid (HC2.out.on hb)
        clear hb
        have hc0 := HC3.out.c0
        go_wp2_with fail
        refine (styleString_calls _ _).mono ?_
        rintro e w4 ⟨rfl, hb⟩
        have HC4 := Lib.hid (HC3.out.on hb)
        have hcr := HC4.out.c1
        have hfr := HC4.out.f1
        clear hb
        go_wp2_with fail
        refine bodyPost_ret (v := .tuple #[.agg #[.string (ruleS s t)], .nilIface]) (by simp [results, Try.results87, go_sem, hcr, ruleS]) rfl ⟨by rw [HG.out], ?_⟩
        exact HC4.out.below.setCell (p := ⟨w.heap.size + 1, 0, none⟩) (Nat.le_succ _) _

def RPost (s : ByteArray) (l : List Pr) (e : Ending) : Prop := ∃ T : ByteArray, T.data.toList = implT l ∧ T.size ≤ 2000000 ∧ e = .returned (.tuple #[.string (if ruleL [] s.data.toList = true then ruleS s T else ⟨#[]⟩), .bool (ruleL [] s.data.toList)])
set_option maxHeartbeats 16000000 in
set_option maxRecDepth 100000 in
theorem implRule_calls (s : ByteArray) (l : List Pr) (A : Option Addr) (cap : Nat) (w : World) (hs : s.size ≤ 200) (hA : Hid (PairsAt w A l)) (hok : pairsOkB l = true) (hin : l.all inFields = true) :
    Calls Try.prog 45 #[.string s, .slice A l.length cap] w fun e w' => RPost s l e ∧ Below w.heap.size w w' := by
  have HSm := Lib.hid (show smallB s = true by simp [smallB, hs])
  obtain ⟨b, hb⟩ : ∃ b, ruleL [] s.data.toList = b := ⟨_, rfl⟩
  have HBb := Lib.hid hb
  have HC := Lib.hid (fun t w ht => cssRule_calls s t w hs ht)
  rw [hb] at HC
  clear hb
  go_enter Try.func45, Try.ntmps45
  go_wp2_with fail
  refine (style_calls l A cap _ hA hok hin).mono ?_
  rintro e w1 ⟨T, rfl, hT, hTs, hb⟩
  have HT := Lib.hid hT
  have HTs := Lib.hid hTs
  have HB1 := Lib.hid hb
  clear hT hb
  go_wp2_with fail
  refine (isShort_one s _ _ _ (by exact strsAt_new _ _ [s] 9 (by simp))).mono ?_
  rw [HSm.out]
  rintro e w2 ⟨rfl, rfl⟩
  have HB2 := Lib.hid ((HB1.out.alloc HB1.out.size (Obj.cells #[.string T] 54)).alloc (Nat.le_trans HB1.out.size (by simp)) (Obj.cells #[.string s] 9))
  have hct : ((w1.alloc (Obj.cells #[.string T] 54)).alloc (Obj.cells #[.string s] 9)).cell? ⟨w1.heap.size, 0, none⟩ = some (.string T) := by rw [own_cell (Below.own _ _) 0]; rfl
  go_wp2_with fail
  refine (HC.out T _ HTs.out).mono ?_
  rintro e w3 ⟨hR, hb⟩
  have HB3 := Lib.hid (below_then HB2.out HB2.out.size hb)
  clear hb
  cases b with
  | false =>
    obtain ⟨ad, rfl⟩ : ∃ a : Addr, e = .returned (.tuple #[.agg #[.string ⟨#[]⟩], .iface 110 (.pointer (some a))]) := hR
    go_wp2_with fail
    go_ret2
    exact ⟨⟨T, HT.out, HTs.out, by rw [HBb.out]; rfl⟩, HB3.out.alloc HB3.out.size _⟩
  | true =>
    obtain rfl : e = .returned (.tuple #[.agg #[.string (ruleS s T)], .nilIface]) := hR
    go_wp2_with fail
    refine (sheetString_calls _ _).mono ?_
    rintro e w4 ⟨rfl, hb⟩
    have HB4 := Lib.hid (below_then HB3.out HB3.out.size (below_own hb))
    clear hb
    go_wp2_with fail
    go_ret2
    exact ⟨⟨T, HT.out, HTs.out, by rw [HBb.out]; rfl⟩, HB4.out⟩

set_option maxHeartbeats 16000000 in
set_option maxRecDepth 100000 in
theorem fnRule_any (s : ByteArray) (l : List Pr) (A : Option Addr) (cap : Nat) (w : World) (hs : s.size ≤ maxLen) (hA : Hid (PairsAt w A l)) (hcap : l.length ≤ cap) :
    Calls Try.prog 14 #[.string s, .slice A l.length cap] w fun x w' => x = .returned (.bool true) ∧ Below w.heap.size w w' := by
  unfold maxLen at hs
  by_cases h1 : 2147483647 < s.size
  · have g1 : decide (2147483647 < (s.size : Int)) = true := decide_eq_true (by omega)
    have g2 : decide (2147483647 < s.size) = true := decide_eq_true (by omega)
    go_enter Try.func14, Try.ntmps14
    go_wp2_with fail
    go_ret
    exact ⟨rfl, Below.refl _ _⟩
  have g1 : decide (2147483647 < (s.size : Int)) = false := decide_eq_false (by omega)
  have g2 : decide (2147483647 < s.size) = false := decide_eq_false (by omega)
  cases hf : fitsB l with
  | false =>
    have HF := Lib.hid hf
    clear hf
    go_enter Try.func14, Try.ntmps14
    go_wp2_with fail
    refine (zzFits2_calls l A cap _ hA).mono ?_
    rw [HF.out]
    rintro e w1 ⟨rfl, hb⟩
    go_wp2_with fail
    go_ret
    exact ⟨rfl, hb⟩
  | true =>
    have HF := Lib.hid hf
    clear hf
    go_enter Try.func14, Try.ntmps14
    go_wp2_with fail
    refine (zzFits2_calls l A cap _ hA).mono ?_
    rw [HF.out]
    rintro e w1 ⟨rfl, hb⟩
    have HA1 := Lib.hid (hA.out.below hb)
    have HB1 := Lib.hid hb
    clear hb
    go_wp2_with fail
    refine (styled_calls l A cap _ HA1 HF.out hcap).mono ?_
    rintro e w2 ⟨⟨X, says, rfl, hs2⟩, hb⟩
    have HA2 := Lib.hid (HA1.out.below hb)
    have HB2 := Lib.hid (below_then HB1.out HB1.out.size hb)
    clear hb
    go_wp2_with fail
    refine (ascii_calls s _ (by omega)).mono ?_
    rintro e w3 ⟨rfl, rfl⟩
    cases ha : (asciiB s && smallB s) with
    | false =>
      go_wp2_with fail
      go_ret
      exact ⟨rfl, HB2.out⟩
    | true =>
      have hs200 : s.size ≤ 200 := by simp [smallB] at ha; exact ha.2
      clear ha
      cases says with
      | false =>
        clear hs2
        go_wp2_with fail
        go_ret
        exact ⟨rfl, HB2.out⟩
      | true =>
        obtain ⟨hok, hall, hkn, hX⟩ := hs2 rfl
        have HI := Lib.hid (fun w hA => implRule_calls s l A cap w hs200 hA hok (all_known hkn))
        have HX := Lib.hid (hX.trans (implT_eq l hall).symm)
        have HSp := Lib.hid (fun w => specRule_calls s w (by omega))
        clear hs2 hok hall hkn hX
        unfold RPost at HI
        obtain ⟨b, hb⟩ : ∃ b, ruleL [] s.data.toList = b := ⟨_, rfl⟩
        rw [hb] at HI HSp
        clear hb
        go_wp2_with fail
        refine (HI.out _ HA2).mono ?_
        rintro e w4 ⟨⟨T, hT, hTs, rfl⟩, hb⟩
        have HB4 := Lib.hid (below_then HB2.out HB2.out.size hb)
        obtain rfl : T = X := WideShapes.bytes_inj (hT.trans HX.out.symm)
        clear hb hT HX HI
        cases b with
        | false =>
          rw [if_neg (by simp)]
          go_wp2_with fail
          refine (HSp.out _).mono ?_
          rintro e w5 ⟨rfl, hb⟩
          have HB5 := Lib.hid (below_then HB4.out HB4.out.size hb)
          clear hb
          go_wp2_with fail
          refine (silent_calls _).mono ?_
          rintro e w6 ⟨rfl, hb⟩
          go_wp2_with fail
          go_ret
          exact ⟨rfl, below_then HB5.out HB5.out.size hb⟩
        | true =>
          have h1z : (ByteArray.mk #[123]).size = 1 := rfl
          have h2z : (ByteArray.mk #[125]).size = 1 := rfl
          have ha1 : s.size + (ByteArray.mk #[123]).size ≤ 9223372036854775807 := by rw [h1z]; omega
          have ha2 : (s ++ ByteArray.mk #[123]).size + T.size ≤ 9223372036854775807 := by rw [ByteArray.size_append, h1z]; omega
          have ha3 : (s ++ ByteArray.mk #[123] ++ T).size + (ByteArray.mk #[125]).size ≤ 9223372036854775807 := by rw [ByteArray.size_append, ByteArray.size_append, h1z, h2z]; omega
          clear h1z h2z
          rw [if_pos rfl]
          unfold ruleS
          go_wp2_with fail
          refine (HSp.out _).mono ?_
          rintro e w5 ⟨rfl, hb⟩
          have HB5 := Lib.hid (below_then HB4.out HB4.out.size hb)
          clear hb
          go_wp2_with fail
          refine (silent_calls _).mono ?_
          rintro e w6 ⟨rfl, hb⟩
          go_wp2_with fail
          go_ret
          exact ⟨rfl, below_then HB5.out HB5.out.size hb⟩
end Go.Proofs.Ytmgkolcpomaceaa
