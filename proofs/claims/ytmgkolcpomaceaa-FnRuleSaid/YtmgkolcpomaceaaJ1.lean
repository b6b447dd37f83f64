/- pairsOk and what it calls. -/
import Derived.Test.YtmgkolcpomaceaaB3
import Derived.Test.YtmgkolcpomaceaaE3
import Derived.Deep.DeepCutAuto
namespace Go.Proofs.Ytmgkolcpomaceaa
open Go.RowKit
set_option linter.unusedVariables false
set_option linter.unusedSimpArgs false

/-- Two texts are the same. -/
def sameN (n m : ByteArray) : Bool := n.toList == m.toList
theorem sameN_iff {n m : ByteArray} : sameN n m = true ↔ n = m := by
  rw [sameN, beq_iff_eq, ByteArray.toList_eq, ByteArray.toList_eq]
  constructor
  · intro h
    exact WideShapes.bytes_inj h
  · rintro rfl; rfl
theorem Below.own (w : World) (o : Obj) : Below w.heap.size w (w.alloc o) := (Below.refl _ _).alloc (Nat.le_refl _) _
theorem enters78 : Enters 78 := fun args w => by simp [go_sem, Try.func78]

set_option maxRecDepth 100000 in
theorem sameName_calls (n v m : ByteArray) (g : Nat) (w : World) (hc : w.cell? ⟨g, 0, none⟩ = some (.string m)) :
    Calls Try.prog 78 #[.agg #[.string n, .string v], .pointer (some ⟨g, 0, none⟩)] w fun e w' => e = .returned (.bool (sameN n m)) ∧ Below w.heap.size w w' := by
  have hlt : g < w.heap.size := World.block_lt_of_cell? w _ hc
  go_enter Try.func78, Try.ntmps78
  go_wp2_with fail
  go_ret
  exact ⟨rfl, (Below.refl _ _).alloc (Nat.le_refl _) _⟩

set_option maxHeartbeats 400000 in
set_option maxRecDepth 100000 in
theorem indexPair_calls (m : FuncId) (c : Value) (p : Pr → Bool) (l : List Pr) (hcf : Enters m) (w : World)
    (hm : Hid (∀ q ∈ l, ∀ w' : World, Below w.heap.size w w' → Calls Try.prog m #[.agg #[.string q.1, .string q.2], c] w' fun e w'' => e = .returned (.bool (p q)) ∧ Below w'.heap.size w' w''))
    (A : Option Addr) (cap : Nat) (hA : Hid (PairsAt w A l)) (hl : l.length ≤ 2147483647) :
    Calls Try.prog 104 #[.slice A l.length cap, .func (.func m) #[] #[c]] w (IdxIs (l.any p) w) := by
  unfold Enters at hcf
  go_enter Try.func104, Try.ntmps104
  go_wp2
  go_loopg [8] l.length (fun gk i wr => ∃ k : Nat, gk = l.length - k ∧ k ≤ l.length ∧ i = .int .i64 k ∧ Hid ((l.take k).any p = false) ∧ Hid (Below w.heap.size w wr))
  case atStart => exact ⟨0, rfl, Nat.zero_le _, rfl, by simp [Hid], Below.refl _ _⟩
  case round =>
    obtain ⟨k, hgk, hk, rfl, ha, hB⟩ := hrel
    have HG := Lib.hid hgk
    clear hgk
    by_cases hlt : k < l.length
    · have H := Lib.hid (any_take_succ (p := p) l k hlt)
      obtain ⟨ad, rfl, hblk, hc, hd⟩ := (hA.out.below hB.out) k hlt
      cases hp : p l[k]
      · have HP := Lib.hid hp
        clear hp
        go_wp2_with fail
        refine (hm.out l[k] (List.getElem_mem _) _ hB.out).mono ?_
        rintro e w' ⟨rfl, hb⟩
        have hp := HP.out
        go_wp2
        go_roundg (l.length - (k + 1))
        case rel => exact ⟨k + 1, rfl, by omega, by go_num, by rw [Hid, H.out, ha.out, hp]; rfl, below_then hB.out hB.out.size hb⟩
        case measure => rw [HG.out]; omega
      · have HP := Lib.hid hp
        clear hp
        go_wp2_with fail
        refine (hm.out l[k] (List.getElem_mem _) _ hB.out).mono ?_
        rintro e w' ⟨rfl, hb⟩
        have hp := HP.out
        go_wp2
        go_ret
        exact ⟨k, rfl, by rw [any_true_of l k hlt hp]; simp, below_then hB.out hB.out.size hb⟩
    · go_wp2
      go_ret
      exact ⟨-1, rfl, by rw [any_of_take l k (by omega) ha.out]; rfl, hB.out⟩

set_option maxHeartbeats 400000 in
set_option maxRecDepth 100000 in
theorem containsPair_calls (m : FuncId) (c : Value) (p : Pr → Bool) (l : List Pr) (hcf : Enters m) (w : World)
    (hm : Hid (∀ q ∈ l, ∀ w' : World, Below w.heap.size w w' → Calls Try.prog m #[.agg #[.string q.1, .string q.2], c] w' fun e w'' => e = .returned (.bool (p q)) ∧ Below w'.heap.size w' w''))
    (A : Option Addr) (cap : Nat) (hA : Hid (PairsAt w A l)) (hl : l.length ≤ 2147483647) :
    Calls Try.prog 77 #[.slice A l.length cap, .func (.func m) #[] #[c]] w fun e w' => e = .returned (.bool (l.any p)) ∧ Below w.heap.size w w' := by
  go_enter Try.func77, Try.ntmps77
  go_wp2_with fail
  refine (indexPair_calls m c p l hcf _ hm A cap hA hl).mono ?_
  rintro e w' ⟨r, rfl, hr, hb⟩
  have HR := Lib.hid hr
  clear hr
  go_wp2
  go_ret
  exact ⟨ret_bool HR.out, hb⟩

def okP (p : Pr) : Bool := (asciiB p.1 && smallB p.1) && (asciiB p.2 && smallB p.2)
/-- Name k is none of those before. -/
def freshAt (l : List Pr) (k : Nat) : Bool := match l[k]? with
  | some p => okP p && !((l.take k).any fun q => sameN q.1 p.1)
  | none => true
def pairsOkB (l : List Pr) : Bool := decide (l.length ≤ 20) && (List.range l.length).all (freshAt l)
theorem freshAt_at (l : List Pr) (k : Nat) (h : k < l.length) : freshAt l k = (okP l[k] && !((l.take k).any fun q => sameN q.1 l[k].1)) := by
  rw [freshAt, List.getElem?_eq_getElem h]
theorem range_all_succ (f : Nat → Bool) (k : Nat) : (List.range (k + 1)).all f = ((List.range k).all f && f k) := by
  rw [List.range_succ, List.all_append]; simp
theorem range_all_false (f : Nat → Bool) (n k : Nat) (h : k < n) (hf : f k = false) : (List.range n).all f = false := by
  rw [Bool.eq_false_iff]
  intro h1
  have := List.all_eq_true.1 h1 k (by simpa using h)
  rw [hf] at this; cases this
theorem PairsAt.take {w : World} {A : Option Addr} {l : List Pr} (h : PairsAt w A l) (n : Nat) : PairsAt w A (l.take n) := fun k hk => by
  have h1 : k < l.length := by have := hk; simp at this; omega
  have e : (l.take n)[k] = l[k] := by simp
  rw [e]
  exact h k h1

set_option maxHeartbeats 4000000 in
set_option maxRecDepth 100000 in
theorem pairsOk_calls (l : List Pr) (A : Option Addr) (cap : Nat) (w : World) (hA : Hid (PairsAt w A l)) (hf : fitsB l = true) (hcap : l.length ≤ cap) :
    Calls Try.prog 35 #[.slice A l.length cap] w fun e w' => e = .returned (.bool (pairsOkB l)) ∧ Below w.heap.size w w' := by
  have hfl : l.length ≤ 2147483647 := by simp [fitsB] at hf; exact hf.1
  have HF := Lib.hid (show ∀ p ∈ l, p.1.size ≤ 2147483647 ∧ p.2.size ≤ 2147483647 by
    simp [fitsB, fitB] at hf
    exact fun p hp => hf.2 p.1 p.2 hp)
  clear hf
  have hmf : ∀ (fn : Fn) (first cap : Array Value) (w : World), (Instr.makeFunc fn first cap).run Try.prog w = .ok (.func fn first cap) w := fun _ _ _ _ => rfl
  by_cases h20 : 20 < l.length
  · have HL := Lib.hid (show pairsOkB l = false by rw [pairsOkB, decide_eq_false (by omega)]; rfl)
    have g1 : decide ((20:Int) < (l.length : Int)) = true := by simp; omega
    go_enter Try.func35, Try.ntmps35
    go_wp2_with fail
    go_ret
    exact ⟨ret_bool HL.out.symm, Below.refl _ _⟩
  · have HL := Lib.hid (show pairsOkB l = (List.range l.length).all (freshAt l) by rw [pairsOkB, decide_eq_true (by omega)]; rfl)
    have g1 : decide ((20:Int) < (l.length : Int)) = false := by simp; omega
    go_enter Try.func35, Try.ntmps35
    go_wp2_with fail
    go_loopg [10] l.length (fun gk i wr => ∃ k : Nat, gk = l.length - k ∧ k ≤ l.length ∧ i = .int .i64 k ∧ Hid ((List.range k).all (freshAt l) = true) ∧ Hid (Below w.heap.size w wr))
    case atStart => exact ⟨0, rfl, Nat.zero_le _, rfl, by simp [Hid], Below.refl _ _⟩
    case round =>
      obtain ⟨k, hgk, hk, rfl, ha, hB⟩ := hrel
      have HG := Lib.hid hgk
      clear hgk
      by_cases hlt : k < l.length
      · have H := Lib.hid (range_all_succ (freshAt l) k)
        have HFr := Lib.hid (freshAt_at l k hlt)
        have hpn : Hid (l[k].1.size ≤ 2147483647 ∧ l[k].2.size ≤ 2147483647) := HF.out _ (List.getElem_mem _)
        obtain ⟨ad, rfl, hblk, hc, hd⟩ := (hA.out.below hB.out) k hlt
        go_wp2_with fail
        refine (ascii_calls l[k].1 _ hpn.out.1).mono ?_
        rintro e w1 ⟨rfl, rfl⟩
        cases ho1 : (asciiB l[k].1 && smallB l[k].1) with
        | false =>
          have HO1 := Lib.hid ho1
          go_wp2_with fail
          go_ret
          exact ⟨ret_bool (by rw [HL.out, range_all_false (freshAt l) _ k hlt (by rw [HFr.out, okP, HO1.out]; rfl)]), hB.out.alloc hB.out.size _⟩
        | true =>
          have HO1 := Lib.hid ho1
          go_wp2_with fail
          refine (ascii_calls l[k].2 _ hpn.out.2).mono ?_
          rintro e w1 ⟨rfl, rfl⟩
          cases ho2 : (asciiB l[k].2 && smallB l[k].2) with
          | false =>
            have HO2 := Lib.hid ho2
            go_wp2_with fail
            go_ret
            exact ⟨ret_bool (by rw [HL.out, range_all_false (freshAt l) _ k hlt (by rw [HFr.out, okP, HO1.out, HO2.out]; rfl)]), hB.out.alloc hB.out.size _⟩
          | true =>
            have HO2 := Lib.hid ho2
            have hkl : (l.take k).length = k := by simp; omega
            have hkc : k ≤ cap := by omega
            have HA2 := Lib.hid (((hA.out.below hB.out).take k).below (Below.own wr (Obj.cells #[.string l[k].1, .string l[k].2] 25)))
            have HS := Lib.hid (fun (w' : World) (hw : Below (wr.alloc (Obj.cells #[.string l[k].1, .string l[k].2] 25)).heap.size (wr.alloc (Obj.cells #[.string l[k].1, .string l[k].2] 25)) w') (q : Pr) =>
              sameName_calls q.1 q.2 l[k].1 wr.heap.size w' (by rw [own_cell hw]; rfl))
            have HC := Lib.hid (containsPair_calls 78 (.pointer (some ⟨wr.heap.size, 0, none⟩)) (fun q => sameN q.1 l[k].1) (l.take k) enters78 _ (Lib.hid (fun q _ w' hw => HS.out w' hw q)) (some ad) cap HA2 (by omega))
            rw [hkl] at HC
            go_wp2_with fail
            refine HC.out.mono ?_
            rintro e w1 ⟨rfl, hb⟩
            have hb1 := Lib.hid (below_then hB.out hB.out.size (below_own hb))
            clear hb
            cases hany : ((l.take k).any fun q => sameN q.1 l[k].1) with
            | true =>
              have HN := Lib.hid hany
              go_wp2_with fail
              go_ret
              exact ⟨ret_bool (by rw [HL.out, range_all_false (freshAt l) _ k hlt (by rw [HFr.out, HN.out]; simp)]), hb1.out⟩
            | false =>
              have HN := Lib.hid hany
              go_wp2_with fail
              go_roundg (l.length - (k + 1))
              case measure => rw [HG.out]; omega
              case rel => exact ⟨k + 1, rfl, by omega, by simp, by rw [Hid, H.out, ha.out, HFr.out, okP, HO1.out, HO2.out, HN.out]; rfl, hb1.out⟩
      · have hkk : k = l.length := by omega
        have HT := Lib.hid (show (List.range l.length).all (freshAt l) = true by rw [← hkk]; exact ha.out)
        clear hkk HG
        go_wp2_with fail
        go_ret
        exact ⟨ret_bool (by rw [HL.out, HT.out]), hB.out⟩
end Go.Proofs.Ytmgkolcpomaceaa
