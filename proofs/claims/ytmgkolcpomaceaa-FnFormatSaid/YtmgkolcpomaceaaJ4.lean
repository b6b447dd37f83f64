/- A format's text, plainly; the value of a label (FnFormat$1). -/
import Derived.Test.YtmgkolcpomaceaaJ2
import Derived.Test.YtmgkolcpomaceaaJ3
import Derived.Test.YtmgkolcpomaceaaH2
namespace Go.Proofs.Ytmgkolcpomaceaa
open Go.RowKit
set_option linter.unusedVariables false
set_option linter.unusedSimpArgs false

def labelC (c : UInt8) : Bool := letterC c || digitC c || c == 95
/-- The label of a marker that a text begins with. -/
def markOf (l : List UInt8) : Option (List UInt8) :=
  if startsL l [37, 123] && decide (0 < ((l.drop 2).takeWhile labelC).length) && ((l.drop (2 + ((l.drop 2).takeWhile labelC).length)).head? == some 125) then some ((l.drop 2).takeWhile labelC) else none
def fmt (val : List UInt8 → Option (List UInt8)) (l : List UInt8) : Option (List UInt8) :=
  match l with
  | [] => some []
  | c :: r => match markOf (c :: r) with
    | some lab => match val lab with
      | some v => (fmt val (r.drop (lab.length + 2))).map (v ++ ·)
      | none => none
    | none => (fmt val r).map (c :: ·)
termination_by l.length
decreasing_by
  · simp; omega
  · simp
theorem fmt_nil (val : List UInt8 → Option (List UInt8)) : fmt val [] = some [] := by rw [fmt]
theorem fmt_plain {val : List UInt8 → Option (List UInt8)} {c : UInt8} {r : List UInt8} (h : markOf (c :: r) = none) : fmt val (c :: r) = (fmt val r).map (c :: ·) := by
  rw [fmt]; simp [h]
theorem fmt_val {val : List UInt8 → Option (List UInt8)} {l lab v : List UInt8} (h : markOf l = some lab) (hv : val lab = some v) : fmt val l = (fmt val (l.drop (lab.length + 3))).map (v ++ ·) := by
  cases l with
  | nil => simp [markOf, startsL] at h
  | cons c r => rw [fmt]; simp [h, hv]
theorem fmt_none {val : List UInt8 → Option (List UInt8)} {l lab : List UInt8} (h : markOf l = some lab) (hv : val lab = none) : fmt val l = none := by
  cases l with
  | nil => simp [markOf, startsL] at h
  | cons c r => rw [fmt]; simp [h, hv]
/-- What a label stands for. -/
def valOf (l : List Pr) (lab : List UInt8) : Option (List UInt8) := match findN l ⟨lab.toArray⟩ with
  | some q => if upwardsL q.2.data.toList = true then none else some (pctL q.2.data.toList)
  | none => none

theorem findN_none {l : List Pr} {n : ByteArray} (h : hasN l n = false) : findN l n = none := by
  rw [findN, List.find?_eq_none]
  intro q hq
  have := List.any_eq_false.1 h q hq
  simpa using this
theorem findN_at {l : List Pr} {n : ByteArray} (k : Nat) (hk : k < l.length) (h : hasN (l.take k) n = false) (hs : sameN l[k].1 n = true) : findN l n = some l[k] := by
  have e : l.take k ++ l[k] :: l.drop (k + 1) = l := by simp
  have h2 := findN_none h
  rw [findN] at h2
  have h3 : (l.take k ++ l[k] :: l.drop (k + 1)).find? (fun q => sameN q.1 n) = some l[k] := by
    have h4 : ∀ (x : Pr) (r : List Pr), sameN x.1 n = true → (x :: r).find? (fun q => sameN q.1 n) = some x := fun x r h => by simp [h]
    rw [List.find?_append, h2, h4 _ _ hs]; rfl
  rw [e] at h3
  exact h3
def nameV (o : Option Pr) : ByteArray := match o with | some q => q.2 | none => ⟨#[]⟩
theorem enters37 : Enters 37 := fun args w => by simp [go_sem, Try.func37]

set_option maxHeartbeats 4000000 in
set_option maxRecDepth 100000 in
theorem labelVal_calls (n : ByteArray) (l : List Pr) (A : Option Addr) (cap : Nat) (g : Nat) (w : World) (hg : w.cell? ⟨g, 0, none⟩ = some (.slice A l.length cap)) (hA : Hid (PairsAt w A l)) (hl : l.length ≤ 20) :
    Calls Try.prog 37 #[.string n, .pointer (some ⟨g, 0, none⟩)] w fun e w' => e = .returned (.tuple #[.string (nameV (findN l n)), .bool (findN l n).isSome]) ∧ Below w.heap.size w w' := by
  go_enter Try.func37, Try.ntmps37
  go_wp2_with fail
  go_loopg [9] l.length (fun gk i wr => ∃ k : Nat, gk = l.length - k ∧ k ≤ l.length ∧ i = .int .i64 k ∧ Hid (hasN (l.take k) n = false) ∧ Hid (Below w.heap.size w wr))
  case atStart => exact ⟨0, rfl, Nat.zero_le _, rfl, by simp [Hid, hasN], Below.refl _ _⟩
  case round =>
    obtain ⟨k, hgk, hk, rfl, ha, hB⟩ := hrel
    have HG := Lib.hid hgk
    clear hgk hg
    by_cases hlt : k < l.length
    · obtain ⟨ad, rfl, hblk, hc, hd⟩ := (hA.out.below hB.out) k hlt
      have HT := Lib.hid (take_snoc l k hlt)
      cases hs : sameN l[k].1 n with
      | true =>
        have HS := Lib.hid (findN_at k hlt ha.out hs)
        have hs' : (l[k].1.toList == n.toList) = true := hs
        clear hs
        go_wp2_with fail
        go_ret2
        exact ⟨by rw [HS.out]; rfl, hB.out.alloc hB.out.size _⟩
      | false =>
        have HS := Lib.hid hs
        have hs' : (l[k].1.toList == n.toList) = false := hs
        clear hs
        go_wp2_with fail
        go_roundg (l.length - (k + 1))
        case measure => rw [HG.out]; omega
        case rel => exact ⟨k + 1, rfl, by omega, by simp, by rw [Hid, HT.out, hasN, List.any_append]; have := ha.out; rw [hasN] at this; rw [this]; simp [HS.out], hB.out.alloc hB.out.size _⟩
    · have hkk : k = l.length := by omega
      have HS := Lib.hid (show findN l n = none from findN_none (by have := ha.out; rw [hkk, List.take_of_length_le (Nat.le_refl _)] at this; exact this))
      clear hkk HG
      go_wp2_with fail
      go_ret2
      exact ⟨by rw [HS.out]; rfl, hB.out⟩
end Go.Proofs.Ytmgkolcpomaceaa
