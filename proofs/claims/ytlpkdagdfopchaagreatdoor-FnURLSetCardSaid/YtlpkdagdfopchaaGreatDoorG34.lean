/- A set of URLs, plainly; until and measure as they are used. -/
import Derived.Test.YtlpkdagdfopchaaGreatDoorG33
namespace Go.Proofs.YtlpkdagdfopchaaGreatDoor
open Go.RowKit
set_option linter.unusedVariables false
set_option linter.unusedSimpArgs false

def bl (l : List UInt8) : ByteArray := ⟨l.toArray⟩
theorem bl_data (s : ByteArray) : bl s.data.toList = s := by
  apply ByteArray.ext
  simp [bl]
def notSp (c : UInt8) : Bool := !spaceC c
def notMe (c : UInt8) : Bool := !metaC c
def uOf (l : List UInt8) : List UInt8 := (l.dropWhile spaceC).takeWhile notSp
def l2Of (l : List UInt8) : List UInt8 := ((l.dropWhile spaceC).dropWhile notSp).dropWhile spaceC
def mOf (l : List UInt8) : List UInt8 := (l2Of l).takeWhile notMe
def rOf (l : List UInt8) : List UInt8 := ((l2Of l).dropWhile notMe).dropWhile spaceC
def addL (o u m : List UInt8) : List UInt8 := (if o = [] then [] else o ++ [32, 44, 32]) ++ commaL u ++ (if m = [] then [] else [32] ++ m)
def nextL (l o : List UInt8) : List UInt8 := if uOf l ≠ [] ∧ (specSafe (bl (uOf l))).1 = true ∧ (measR (mOf l)).1 = true then addL o (uOf l) (mOf l) else o
def setL : Nat → List UInt8 → List UInt8 → List UInt8 × Bool
  | 0, _, o => (o, true)
  | n + 1, l, o => if (specSafe (bl (uOf l))).2 = true ∧ (measR (mOf l)).2 = true then
      (match rOf l with
        | [] => (nextL l o, true)
        | c :: t => if c.toNat = 44 then setL n t (nextL l o) else (nextL l o, true))
    else ([], false)
theorem setL_no {n : Nat} {l o : List UInt8} (h : ¬ ((specSafe (bl (uOf l))).2 = true ∧ (measR (mOf l)).2 = true)) : setL (n + 1) l o = ([], false) := by rw [setL, if_neg h]
theorem setL_end {n : Nat} {l o : List UInt8} (h : (specSafe (bl (uOf l))).2 = true ∧ (measR (mOf l)).2 = true) (hr : rOf l = []) : setL (n + 1) l o = (nextL l o, true) := by rw [setL, if_pos h, hr]
theorem setL_stop {n : Nat} {l o t : List UInt8} {c : UInt8} (h : (specSafe (bl (uOf l))).2 = true ∧ (measR (mOf l)).2 = true) (hr : rOf l = c :: t) (hc : c.toNat ≠ 44) : setL (n + 1) l o = (nextL l o, true) := by rw [setL, if_pos h, hr]; simp only []; rw [if_neg hc]
theorem setL_more {n : Nat} {l o t : List UInt8} {c : UInt8} (h : (specSafe (bl (uOf l))).2 = true ∧ (measR (mOf l)).2 = true) (hr : rOf l = c :: t) (hc : c.toNat = 44) : setL (n + 1) l o = setL n t (nextL l o) := by rw [setL, if_pos h, hr]; simp only []; rw [if_pos hc]
def finL (o : List UInt8) : List UInt8 := if o = [] then innoc.data.toList else o

/-- Where a run of bytes ends. -/
structure UntilAt (s : ByteArray) (a k : Nat) (q : UInt8 → Bool) : Prop where
  lo : a ≤ k
  hi : k ≤ s.size
  rest : s.data.toList.drop k = (s.data.toList.drop a).dropWhile q
  run : (s.extract a k).data.toList = (s.data.toList.drop a).takeWhile q
theorem until_at (s : ByteArray) (a : Nat) (ha : a ≤ s.size) (q : UInt8 → Bool) : UntilAt s a (a + ((s.data.toList.drop a).takeWhile q).length) q := by
  have hl := len_data s
  have h1 : ((s.data.toList.drop a).takeWhile q).length ≤ (s.data.toList.drop a).length := (List.takeWhile_sublist q).length_le
  rw [List.length_drop, hl] at h1
  have h2 : ∀ l : List UInt8, l.drop (l.takeWhile q).length = l.dropWhile q := fun l => by
    induction l with
    | nil => rfl
    | cons c t ih =>
      by_cases hq : q c = true
      · rw [List.takeWhile_cons_of_pos hq, List.dropWhile_cons_of_pos hq, List.length_cons, List.drop_succ_cons, ih]
      · rw [List.takeWhile_cons_of_neg hq, List.dropWhile_cons_of_neg hq]; rfl
  have h3 : ∀ l : List UInt8, l.take (l.takeWhile q).length = l.takeWhile q := fun l => by
    induction l with
    | nil => rfl
    | cons c t ih =>
      by_cases hq : q c = true
      · rw [List.takeWhile_cons_of_pos hq, List.length_cons, List.take_succ_cons, ih]
      · rw [List.takeWhile_cons_of_neg hq]; rfl
  refine ⟨by omega, by omega, ?_, ?_⟩
  · rw [← List.drop_drop, h2]
  · rw [ext_mid _ _ _ (by omega), List.drop_take, Nat.add_sub_cancel_left, h3]

set_option maxRecDepth 100000 in
theorem until2_calls (m : FuncId) (p q : UInt8 → Bool) (hq : ∀ c, q c = !p c) (hcf : Enters m)
    (hm : Hid (∀ (c : UInt8) (w : World), Calls Tryz.prog m #[.int .u8 (c.toNat : Int)] w fun e w' => e = .returned (.bool (p c)) ∧ Below w.heap.size w w'))
    (s : ByteArray) (a : Nat) (ha : a ≤ s.size) (w : World) (hs : s.size ≤ 2147483647) :
    Calls Tryz.prog 7 #[.string s, .int .i64 a, .func (.func m) #[] #[]] w fun e w' => (∃ k : Nat, e = .returned (.int .i64 (k : Int)) ∧ UntilAt s a k q) ∧ Below w.heap.size w w' := by
  refine (until_calls m p hcf hm s a ha w hs).mono fun e w' h => ?_
  have e2 : (fun c => !p c) = q := funext fun c => (hq c).symm
  rw [e2] at h
  exact ⟨⟨_, h.1, until_at s a ha q⟩, h.2⟩

set_option maxRecDepth 100000 in
theorem measR_calls (m : ByteArray) (w : World) (hs : m.size ≤ 2147483647) : Calls Tryz.prog 14 #[.string m] w (MeasPost (measR m.data.toList) w) := by
  rcases Nat.eq_zero_or_pos m.size with h | h
  · have hm : m.data.toList = [] := List.eq_nil_of_length_eq_zero (by rw [len_data]; exact h)
    have hM : Hid (measR m.data.toList = (true, true)) := Lib.hid (by rw [hm]; rfl)
    have he := toList_em h
    clear hm
    go_enter Tryz.func14, Tryz.ntmps14
    go_wp2_with fail
    go_ret2
    exact ⟨by rw [hM.out]; rfl, rfl⟩
  · rw [measR_pos h]
    exact measH_calls m w hs h _ rfl _ rfl

end Go.Proofs.YtlpkdagdfopchaaGreatDoor
