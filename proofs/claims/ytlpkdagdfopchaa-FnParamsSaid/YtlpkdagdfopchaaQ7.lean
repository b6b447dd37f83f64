/- Parameters, plainly; zzJoin. -/
import Derived.Test.YtlpkdagdfopchaaQ6
import Derived.Test.YtlpkdagdfopchaaQ5
import Derived.Sort.OwnSorted
import Derived.Maps.RangeWalk
import Derived.Maps.StringElems
namespace Go.Proofs.Ytlpkdagdfopchaa
open Go.RowKit Go.Maps
set_option linter.unusedVariables false
set_option linter.unusedSimpArgs false

def mkB (x : List UInt8) : ByteArray := ⟨x.toArray⟩
theorem mkB_data (x : List UInt8) : (mkB x).data.toList = x := rfl
theorem mkB_back (x : ByteArray) : mkB x.data.toList = x := WideShapes.bytes_inj rfl
theorem mkB_size (x : List UInt8) : (mkB x).size = x.length := by show x.toArray.size = _; simp
def txtL (p : Pr) : List UInt8 := pctL p.1.data.toList ++ [61] ++ pctL p.2.data.toList
def goodP (p : Pr) : Bool := !(p.1.toList == []) && !(p.2.toList == [])
def textsL (l : List Pr) : List (List UInt8) := (l.filter goodP).map txtL
def joinA : List (List UInt8) → List UInt8
  | [] => []
  | x :: xs => x ++ xs.flatMap fun y => [38] ++ y
theorem joinA_snoc (l : List (List UInt8)) (x : List UInt8) : joinA (l ++ [x]) = (if l = [] then [] else joinA l ++ [38]) ++ x := by
  cases l with
  | nil => simp [joinA]
  | cons y l => simp [joinA]
def sepL (a n : Nat) : List UInt8 := if a = n then [63] else if a + 1 = n then [] else [38]
theorem stepH_first (a : Nat) (h t : List UInt8) : stepH a h t = h ++ sepL a h.length ++ t := by
  unfold stepH sepL
  split
  · rfl
  · split <;> simp
theorem stepH_next (a : Nat) (h t : List UInt8) (hl : a + 2 ≤ h.length) : stepH a h t = h ++ [38] ++ t := by
  rw [stepH_first, sepL, if_neg (by omega), if_neg (by omega)]
theorem fold_next (a : Nat) : ∀ (ts : List (List UInt8)) (h : List UInt8), a + 2 ≤ h.length → ts.foldl (stepH a) h = h ++ ts.flatMap fun y => [38] ++ y
  | [], h, _ => by simp
  | t :: ts, h, hl => by
    rw [List.foldl_cons, stepH_next a h t hl, fold_next a ts _ (by simp; omega)]
    simp
theorem fold_all (a : Nat) (h : List UInt8) (ha : a ≤ h.length) (ts : List (List UInt8)) (hne : ∀ t ∈ ts, t ≠ []) : ts.foldl (stepH a) h = h ++ (if ts = [] then [] else sepL a h.length ++ joinA ts) := by
  cases ts with
  | nil => simp
  | cons t ts =>
    have ht : 1 ≤ t.length := by
      have := hne t (by simp)
      cases t with
      | nil => exact absurd rfl this
      | cons c r => simp
    rw [List.foldl_cons, stepH_first, fold_next]
    · simp [joinA]
    · simp only [List.length_append]
      unfold sepL
      split
      · simp; omega
      · split
        · simp; omega
        · simp; omega

set_option maxHeartbeats 16000000 in
set_option maxRecDepth 100000 in
theorem zzJoin_calls (L : List ByteArray) (A : Option Addr) (cap : Nat) (w : World) (hA : Hid (StrsAt w A L)) (hL : L.length ≤ 20) (hLs : Hid (∀ t ∈ L, t.size ≤ 2000)) :
    Calls Try.prog 29 #[.slice A L.length cap, .string ⟨#[38]⟩] w fun e w' => (∃ X : ByteArray, e = .returned (.string X) ∧ X.data.toList = joinA (L.map fun t => t.data.toList) ∧ X.size ≤ 2001 * L.length) ∧ w = w' := by
  go_enter Try.func29, Try.ntmps29
  go_wp2_with fail
  go_loop [5, 10] (fun v i => ∃ (k : Nat) (T : ByteArray), k ≤ L.length ∧ i = .int .i64 k ∧ v = .string T ∧ T.size ≤ 2001 * k ∧ Hid (T.data.toList = joinA ((L.take k).map fun t => t.data.toList))) (fun _ i => L.length - (intOf i).toNat)
  case atStart => exact ⟨0, ⟨#[]⟩, Nat.zero_le _, rfl, rfl, Nat.le_refl _, rfl⟩
  case round =>
    obtain ⟨k, T, hk, rfl, rfl, hTs, hT⟩ := hrel
    by_cases hlt : k < L.length
    · obtain ⟨ad, rfl, hblk, hc⟩ := hA.out k hlt
      have hxs := hLs.out _ (List.getElem_mem hlt)
      have HTk := Lib.hid (show (L.take (k + 1)).map (fun t => t.data.toList) = (L.take k).map (fun t => t.data.toList) ++ [L[k].data.toList] by rw [List.take_succ_eq_append_getElem hlt, List.map_append]; rfl)
      generalize L[k] = x at hc hxs HTk
      have h38 : (ByteArray.mk #[38]).size = 1 := rfl
      by_cases hk0 : 0 < k
      · have g0 : decide ((0:Int) < (k : Int)) = true := by simp; omega
        have HJ := Lib.hid (show (T ++ ByteArray.mk #[38] ++ x).data.toList = joinA ((L.take (k + 1)).map fun t => t.data.toList) by
          have hlk : ((L.take k).map fun t => t.data.toList).length = k := by simp; omega
          have hne : (L.take k).map (fun t => t.data.toList) ≠ [] := by intro h; rw [h] at hlk; simp at hlk; omega
          rw [HTk.out, joinA_snoc, if_neg hne, bytes_append, bytes_append, hT.out])
        have ha1 : T.size + (ByteArray.mk #[38]).size ≤ 9223372036854775807 := by rw [h38]; omega
        have ha2 : (T ++ ByteArray.mk #[38]).size + x.size ≤ 9223372036854775807 := by rw [ByteArray.size_append, h38]; omega
        have hsz : (T ++ ByteArray.mk #[38] ++ x).size ≤ 2001 * (k + 1) := by rw [ByteArray.size_append, ByteArray.size_append, h38]; omega
        clear h38
        go_wp2_with fail
        go_round
        case rel => exact ⟨k + 1, _, by omega, by simp, rfl, hsz, HJ⟩
        case measure => simp [intOf]; omega
      · have g0 : decide ((0:Int) < (k : Int)) = false := by simp; omega
        have HJ := Lib.hid (show (T ++ x).data.toList = joinA ((L.take (k + 1)).map fun t => t.data.toList) by
          have hz : (L.take k).map (fun t => t.data.toList) = [] := by rw [show k = 0 by omega]; rfl
          rw [HTk.out, joinA_snoc, if_pos hz, bytes_append, hT.out, hz]; rfl)
        have ha2 : T.size + x.size ≤ 9223372036854775807 := by omega
        have hsz : (T ++ x).size ≤ 2001 * (k + 1) := by rw [ByteArray.size_append]; omega
        go_wp2_with fail
        go_round
        case rel => exact ⟨k + 1, _, by omega, by simp, rfl, hsz, HJ⟩
        case measure => simp [intOf]; omega
    · have hks : k = L.length := by omega
      have HE := Lib.hid (show T.data.toList = joinA (L.map fun t => t.data.toList) by
        have := hT.out
        rwa [hks, List.take_of_length_le (Nat.le_refl _)] at this)
      have hsz : T.size ≤ 2001 * L.length := by omega
      clear hks
      go_wp2_with fail
      go_ret
      exact ⟨⟨T, rfl, HE.out, hsz⟩, rfl⟩

/- The texts by the names of the map. -/
def txtOf (l : List Pr) (x : List UInt8) : Option (List UInt8) := match findN l (mkB x) with
  | some p => if goodP p = true then some (txtL p) else none
  | none => none
def namesL (l : List Pr) : List (List UInt8) := l.map fun p => p.1.data.toList
theorem names_nodup {l : List Pr} (h : Fresh l) : (namesL l).Nodup := by
  rw [namesL, List.Nodup, List.pairwise_map, List.pairwise_iff_getElem]
  intro i j hi hj hij e
  have h1 := h j hj
  rw [hasN] at h1
  have h2 := List.any_eq_false.1 h1 l[i] (by
    rw [List.mem_iff_getElem]
    exact ⟨i, by simp; omega, by simp⟩)
  rw [WideShapes.bytes_inj e] at h2
  exact h2 (sameN_iff.2 rfl)
theorem mem_names {l : List Pr} {x : List UInt8} : x ∈ namesL l ↔ hasN l (mkB x) = true := by
  rw [namesL, List.mem_map, hasN, List.any_eq_true]
  constructor
  · rintro ⟨p, hp, rfl⟩
    exact ⟨p, hp, sameN_iff.2 (mkB_back _).symm⟩
  · rintro ⟨p, hp, h⟩
    exact ⟨p, hp, by rw [sameN_iff.1 h]; rfl⟩
theorem find_name {l : List Pr} {n : ByteArray} {p : Pr} (h : findN l n = some p) : sameN p.1 n = true := by
  have := List.find?_some h
  exact this
theorem find_self {l : List Pr} (h : Fresh l) {p : Pr} (hp : p ∈ l) : findN l p.1 = some p := by
  obtain ⟨k, hk, rfl⟩ := List.mem_iff_getElem.1 hp
  cases hf : findN l l[k].1 with
  | none =>
    rw [findN, List.find?_eq_none] at hf
    exact absurd (sameN_iff.2 rfl) (hf _ hp)
  | some q =>
    have hq := List.mem_of_find?_eq_some hf
    obtain ⟨i, hi, rfl⟩ := List.mem_iff_getElem.1 hq
    have hs : sameN l[i].1 l[k].1 = true := find_name hf
    have nd := names_nodup h
    rw [namesL, List.Nodup, List.pairwise_map, List.pairwise_iff_getElem] at nd
    have e : l[i].1.data.toList = l[k].1.data.toList := by rw [sameN_iff.1 hs]
    rcases Nat.lt_trichotomy i k with h1 | h1 | h1
    · exact absurd e (nd i k hi hk h1)
    · subst h1; rfl
    · exact absurd e.symm (nd k i hk hi h1)
theorem texts_names {l : List Pr} (h : Fresh l) : (namesL l).filterMap (txtOf l) = textsL l := by
  have e : ∀ m : List Pr, (∀ p ∈ m, p ∈ l) → (m.map fun p => p.1.data.toList).filterMap (txtOf l) = (m.filter goodP).map txtL := by
    intro m
    induction m with
    | nil => intro _; rfl
    | cons p m ih =>
      intro hm
      have hp : txtOf l p.1.data.toList = if goodP p = true then some (txtL p) else none := by
        rw [txtOf, mkB_back, find_self h (hm p (by simp))]
      rw [List.map_cons, List.filterMap_cons, hp, ih (fun q hq => hm q (by simp [hq])), List.filter_cons]
      cases goodP p <;> simp
  exact e l (fun p hp => hp)
theorem met_perm {l : List Pr} (h : Fresh l) {left : Lit → Bool} {ss : List (List UInt8)} (hC : Collected (dOf l) left ss) (hl : ∀ kl, left kl = false) : (ss.filterMap (txtOf l)).Perm (textsL l) := by
  rw [← texts_names h]
  refine List.Perm.filterMap _ ((List.perm_ext_iff_of_nodup hC.1 (names_nodup h)).2 fun x => ?_)
  rw [hC.2 x, hl, mem_names]
  have e : has (dOf l) (.string x) = hasN l (mkB x) := has_dOf l (mkB x)
  rw [e]; simp
theorem entry_pair {l : List Pr} (h : Fresh l) {x : List UInt8} {y : DataW Unit} (hat : ∀ zd, (dOf l).atKey (.string x) zd = y) : ∃ p ∈ l, findN l (mkB x) = some p ∧ p.1 = mkB x ∧ y = .lit (.string p.2.data.toList) := by
  have e : ∀ zd, valD (findN l (mkB x)) zd = y := fun zd => by rw [← at_dOf l h (mkB x) zd]; exact hat zd
  cases hf : findN l (mkB x) with
  | none =>
    rw [hf] at e
    have h1 : (DataW.nil : DataW Unit) = y := e _
    have h2 : (DataW.map [] : DataW Unit) = y := e _
    rw [← h1] at h2
    cases h2
  | some p =>
    rw [hf] at e
    exact ⟨p, List.mem_of_find?_eq_some hf, rfl, sameN_iff.1 (find_name hf), (e .nil).symm⟩
end Go.Proofs.Ytlpkdagdfopchaa
