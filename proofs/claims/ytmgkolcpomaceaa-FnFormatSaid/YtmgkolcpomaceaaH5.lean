/- What the pattern of prefixes accepts, in lower case, is what spec.Based accepts. -/
import Derived.Test.YtmgkolcpomaceaaH4
namespace Go.Proofs.Ytmgkolcpomaceaa
open Go.RowKit
set_option linter.unusedVariables false

theorem lowC_all (c : UInt8) : hostU (lowC c) = hostC c ∧ (lowC c == 47) = (c == 47) ∧ (lowC c == 92) = (c == 92) := by
  have : ∀ n : Fin 256, hostU (lowC (UInt8.ofNat n.val)) = hostC (UInt8.ofNat n.val) ∧ (lowC (UInt8.ofNat n.val) == 47) = (UInt8.ofNat n.val == 47) ∧ (lowC (UInt8.ofNat n.val) == 92) = (UInt8.ofNat n.val == 92) := by decide +kernel
  have h := this ⟨c.toNat, c.toNat_lt⟩
  simpa using h
theorem takeWhile_low (l : List UInt8) : ((lowL l).takeWhile hostU).length = (l.takeWhile hostC).length := by
  induction l with
  | nil => rfl
  | cons c l ih =>
    rw [lowL, List.map_cons, List.takeWhile_cons, List.takeWhile_cons, (lowC_all c).1]
    cases hostC c with
    | true => simpa [lowL] using ih
    | false => rfl
theorem head_low (l : List UInt8) : ((lowL l).head? == some 47) = (l.head? == some 47) := by
  cases l with
  | nil => rfl
  | cons c l => simpa [lowL] using (lowC_all c).2.1
theorem low_drop (l : List UInt8) (n : Nat) : (lowL l).drop n = lowL (l.drop n) := by simp [lowL, List.map_drop]
theorem origin_low (l : List UInt8) : originU (lowL l) = originL l := by
  rw [originU, originL, takeWhile_low, low_drop, head_low]
theorem slashes_low (l : List UInt8) : startsL (lowL l) [47, 47] = startsL l [47, 47] := by
  rcases l with _ | ⟨a, _ | ⟨b, l⟩⟩
  · rfl
  · simp [lowL, startsL, List.isPrefixOf]
  · have ha := (lowC_all a).2.1
    have hb := (lowC_all b).2.1
    have e : ∀ x y : UInt8, (x == y) = (y == x) := fun x y => BEq.comm
    simp [lowL, startsL, List.isPrefixOf, e 47, ha, hb]
theorem root_low (l : List UInt8) : rootU (lowL l) = (rootL l && !(startsL l [47, 47])) := by
  rcases l with _ | ⟨a, _ | ⟨b, l⟩⟩
  · rfl
  · simp [lowL, rootU, rootL]
  · have e : ∀ x y : UInt8, (x == y) = (y == x) := fun x y => BEq.comm
    have h1 : rootU (lowL (a :: b :: l)) = ((lowC a == 47) && (!(lowC b == 47) && !(lowC b == 92))) := by simp [rootU, lowL]
    have h2 : rootL (a :: b :: l) = ((a == 47) && !(b == 92)) := by simp [rootL]
    have h3 : startsL (a :: b :: l) [47, 47] = ((a == 47) && (b == 47)) := by simp [startsL, List.isPrefixOf, e 47]
    rw [h1, h2, h3, (lowC_all a).2.1, (lowC_all b).2.1, (lowC_all b).2.2]
    cases a == 47 <;> cases b == 47 <;> cases b == 92 <;> rfl
theorem https_split (l : List UInt8) : startsL l httpsL = (startsL l https6 && startsL (l.drop 6) [47, 47]) := by
  rcases l with _ | ⟨a, _ | ⟨b, _ | ⟨c, _ | ⟨d, _ | ⟨e, _ | ⟨f, l⟩⟩⟩⟩⟩⟩ <;> simp [startsL, httpsL, https6, List.isPrefixOf, Bool.and_assoc]
theorem https6_not (l : List UInt8) (h : startsL (lowL l) https6 = true) : startsL l [47, 47] = false ∧ rootL l = false := by
  rcases l with _ | ⟨a, l⟩
  · simp [startsL, lowL, https6] at h
  · have h1 : lowC a = 104 := by
      simp only [startsL, lowL, https6, List.map_cons, List.isPrefixOf, Bool.and_eq_true, beq_iff_eq] at h
      exact h.1.symm
    have h2 : (a == 47) = false := by rw [← (lowC_all a).2.1, h1]; rfl
    have e : ∀ x y : UInt8, (x == y) = (y == x) := fun x y => BEq.comm
    constructor
    · rcases l with _ | ⟨b, l⟩ <;> simp [startsL, List.isPrefixOf, e 47, h2]
    · have h3 : ¬ a = 47 := by simpa using h2
      simp [rootL, h3]
theorem pat_based (l : List UInt8) : patL (lowL l) = basedL l := by
  rw [patL, basedL, root_low, https_split]
  cases hA : startsL (lowL l) aboutL with
  | true => simp
  | false =>
    cases h6 : startsL (lowL l) https6 with
    | true =>
      obtain ⟨h7, h8⟩ := https6_not l h6
      simp only [h7, h8, Bool.false_and, Bool.or_self, Bool.true_and, if_true, Bool.false_eq_true, if_false]
      rw [low_drop]
      cases hS : startsL (lowL (l.drop 6)) [47, 47] with
      | true =>
        simp only [if_true]
        rw [low_drop, origin_low, List.drop_drop]
      | false => simp
    | false =>
      simp only [Bool.false_and, Bool.false_or, Bool.false_eq_true, if_false]
      rw [slashes_low]
      cases hS : startsL l [47, 47] with
      | true =>
        simp only [Bool.not_true, Bool.and_false, Bool.false_eq_true, if_false, if_true]
        rw [low_drop, origin_low]
      | false => 
        cases rootL l <;> simp
end Go.Proofs.Ytmgkolcpomaceaa
