/- What impl tells of a style, plainly. -/
import Derived.Test.YtmgkolcpomaceaaK17
import Derived.Test.YtmgkolcpomaceaaK6
namespace Go.Proofs.Ytmgkolcpomaceaa
open Go.RowKit
set_option linter.unusedVariables false
set_option linter.unusedSimpArgs false

def regS (s : ByteArray) : ByteArray := if regL s.data.toList = true then s else wrongS
def lineI (fam : Bool) (x : ByteArray) : List UInt8 := if fam = true then (famS x).data.toList else [117, 114, 108, 40] ++ (quoS (urlS x)).data.toList ++ [41]
def joinI (fam : Bool) : List ByteArray → List UInt8
  | [] => []
  | x :: xs => lineI fam x ++ xs.flatMap fun y => [44, 32] ++ lineI fam y
theorem joinI_snoc (fam : Bool) (l : List ByteArray) (x : ByteArray) : joinI fam (l ++ [x]) = (if l = [] then [] else joinI fam l ++ [44, 32]) ++ lineI fam x := by
  cases l with
  | nil => simp [joinI]
  | cons y l => simp [joinI]
def implV (n s : ByteArray) : List UInt8 :=
  if (n.toList == [68, 105, 115, 112, 108, 97, 121]) = true then (shownS s).data.toList else if (n.toList == [70, 111, 110, 116, 70, 97, 109, 105, 108, 121]) = true then joinI true (linesB s) else if (n.toList == [66, 97, 99, 107, 103, 114, 111, 117, 110, 100, 73, 109, 97, 103, 101, 85, 82, 76, 115]) = true then joinI false (linesB s) else (regS s).data.toList
theorem lineI_eq (fam : Bool) (x : ByteArray) (h : fam = false → (specSafe x).2 = true) : lineI fam x = lineT fam x := by
  cases fam with
  | true => rfl
  | false =>
    have h1 := h rfl
    have h2 : safeB x = (specSafe x).1 := safe_sides x (specSafe x).1 (by rw [← h1])
    unfold lineI lineT sanS urlS
    rw [h2]
theorem joinI_eq (fam : Bool) (ls : List ByteArray) (h : fam = false → ∀ x ∈ ls, (specSafe x).2 = true) : joinI fam ls = joinD fam ls := by
  induction ls using revInd with
  | nil => rfl
  | snoc l x ih =>
    rw [joinI_snoc, joinD_snoc, lineI_eq fam x (fun hf => h hf x (by simp)), ih (fun hf y hy => h hf y (by simp [hy]))]
theorem mkB_list (x : List UInt8) : (mkB x).data.toList = x := rfl
theorem implV_eq (n s : ByteArray) (h : declB n s = true) : implV n s = (declS n s).data.toList := by
  unfold declB at h
  unfold implV declS
  cases h0 : (n.toList == [68, 105, 115, 112, 108, 97, 121]) with
  | true => rfl
  | false =>
    rw [h0] at h
    cases h1 : (n.toList == [70, 111, 110, 116, 70, 97, 109, 105, 108, 121]) with
    | true =>
      show joinI true (linesB s) = (mkB (joinD true (linesB s))).data.toList
      rw [mkB_list]; exact joinI_eq true _ (fun e => by cases e)
    | false =>
      rw [h1] at h
      cases h2 : (n.toList == [66, 97, 99, 107, 103, 114, 111, 117, 110, 100, 73, 109, 97, 103, 101, 85, 82, 76, 115]) with
      | true =>
        rw [h2] at h
        show joinI false (linesB s) = (mkB (joinD false (linesB s))).data.toList
        rw [mkB_list]
        exact joinI_eq false _ (fun _ x hx => List.all_eq_true.1 h x hx)
      | false =>
        rw [h2] at h
        show (regS s).data.toList = (valueS s).data.toList
        rw [regS, valueS, reg_value _ h]
def itemI (f p : Pr) : List UInt8 := if toldB f p = true then f.2.data.toList ++ [58] ++ implV f.1 p.2 ++ [59] else []
def rowI (l : List Pr) (f : Pr) : List UInt8 := l.flatMap (itemI f)
def implT (l : List Pr) : List UInt8 := fieldsL.flatMap (rowI l)
theorem item_eq (f p : Pr) (h : itemOk f p = true) : itemI f p = itemT f p := by
  unfold itemOk at h
  unfold itemI itemT
  cases ht : toldB f p with
  | false => rfl
  | true =>
    rw [ht] at h
    simp only [if_true]
    rw [implV_eq f.1 p.2 (by simpa using h)]
theorem flatMap_congr' {α β : Type} {f g : α → List β} : ∀ l : List α, (∀ x ∈ l, f x = g x) → l.flatMap f = l.flatMap g
  | [], _ => rfl
  | x :: xs, h => by rw [List.flatMap_cons, List.flatMap_cons, h x (by simp), flatMap_congr' xs (fun y hy => h y (by simp [hy]))]
theorem implT_eq (l : List Pr) (h : ∀ f ∈ fieldsL, ∀ p ∈ l, itemOk f p = true) : implT l = styleT l :=
  flatMap_congr' _ fun f hf => flatMap_congr' _ fun p hp => item_eq f p (h f hf p hp)
theorem fresh_snoc {l : List Pr} {p : Pr} (h : Fresh (l ++ [p])) : Fresh l ∧ hasN l p.1 = false := by
  refine ⟨fun k hk => ?_, ?_⟩
  · have := h k (by simp; omega)
    rw [List.take_append_of_le_length (by omega), List.getElem_append_left hk] at this
    exact this
  · have := h l.length (by simp)
    simpa using this
theorem rowI_find (l : List Pr) (hf : Fresh l) (f : Pr) : rowI l f = match findN l f.1 with | some p => itemI f p | none => [] := by
  induction l using revInd with
  | nil => rfl
  | snoc l p ih =>
    obtain ⟨h1, h2⟩ := fresh_snoc hf
    have e : rowI (l ++ [p]) f = rowI l f ++ itemI f p := by simp [rowI]
    rw [e, ih h1]
    cases hh : hitB f p with
    | true =>
      have hn : p.1 = f.1 := sameN_iff.1 hh
      have h3 : findN l f.1 = none := by
        rw [findN, List.find?_eq_none]
        intro q hq
        rw [hasN, hn] at h2
        have := List.any_eq_false.1 h2 q hq
        simpa using this
      have h4 : findN (l ++ [p]) f.1 = some p := by
        rw [findN, List.find?_append]
        rw [findN] at h3
        rw [h3]
        have : sameN p.1 f.1 = true := hh
        simp [this]
      rw [h3, h4]
      simp
    | false =>
      have h5 : itemI f p = [] := by
        unfold itemI toldB
        rw [hh]
        rfl
      have h4 : findN (l ++ [p]) f.1 = findN l f.1 := by
        rw [findN, List.find?_append]
        have : sameN p.1 f.1 = false := hh
        simp [this, findN]
      rw [h5, h4, List.append_nil]
def inFields (p : Pr) : Bool := fieldsL.any fun f => hitB f p
theorem sum_swap {α β : Type} (r : α → β → Bool) (fs : List α) (l : List β) : (fs.map fun f => l.countP (r f)).sum = (l.map fun p => fs.countP fun f => r f p).sum := by
  induction fs with
  | nil => induction l with
    | nil => rfl
    | cons p l ih => simpa using ih
  | cons f fs ih =>
    rw [List.map_cons, List.sum_cons, ih]
    clear ih
    induction l with
    | nil => simp
    | cons p l ih2 =>
      simp only [List.map_cons, List.sum_cons, List.countP_cons] at ih2 ⊢
      omega
def fieldNames : List ByteArray := fieldsL.map (·.1)
theorem names_distinct : fieldNames.Pairwise (fun a b => sameN a b = false) := by
  have h : fieldNames.Pairwise (fun a b => a ≠ b) := by decide
  refine h.imp ?_
  intro a b hab
  rw [Bool.eq_false_iff]
  intro h2
  exact hab (sameN_iff.1 h2)
theorem countP_le_one (n : ByteArray) : ∀ ns : List ByteArray, ns.Pairwise (fun a b => sameN a b = false) → ns.countP (fun a => sameN n a) ≤ 1
  | [], _ => by simp
  | a :: ns, h => by
    rw [List.pairwise_cons] at h
    have ih := countP_le_one n ns h.2
    rw [List.countP_cons]
    cases ha : sameN n a with
    | false => simpa using ih
    | true =>
      have hz : ns.countP (fun a => sameN n a) = 0 := by
        rw [List.countP_eq_zero]
        intro b hb hnb
        have e1 := sameN_iff.1 ha
        have e2 := sameN_iff.1 hnb
        have := h.1 b hb
        rw [← e1, ← e2, sameN_iff.2 rfl] at this
        cases this
      rw [hz]; simp
theorem hits_le_one (p : Pr) : fieldsL.countP (fun f => hitB f p) ≤ 1 := by
  have h := countP_le_one p.1 fieldNames names_distinct
  rw [fieldNames, List.countP_map] at h
  exact h
theorem all_known_aux (g : Pr → Nat) (hg : ∀ p, g p ≤ 1) : ∀ l : List Pr, (l.map g).sum ≤ l.length ∧ ((l.map g).sum = l.length → ∀ p ∈ l, g p = 1)
  | [] => by simp
  | p :: l => by
    obtain ⟨h1, h2⟩ := all_known_aux g hg l
    have h3 := hg p
    simp only [List.map_cons, List.sum_cons, List.length_cons, List.mem_cons]
    refine ⟨by omega, fun h q hq => ?_⟩
    rcases hq with rfl | hq
    · omega
    · exact h2 (by omega) q hq
theorem all_known {l : List Pr} (h : knownN l fieldsL = l.length) : l.all inFields = true := by
  rw [List.all_eq_true]
  intro p hp
  have e : knownN l fieldsL = (l.map fun p => fieldsL.countP fun f => hitB f p).sum := sum_swap hitB fieldsL l
  rw [e] at h
  have := (all_known_aux _ hits_le_one l).2 h p hp
  rw [inFields, List.any_eq_true]
  have h4 : 0 < fieldsL.countP (fun f => hitB f p) := by omega
  rw [List.countP_pos_iff] at h4
  exact h4
end Go.Proofs.Ytmgkolcpomaceaa
