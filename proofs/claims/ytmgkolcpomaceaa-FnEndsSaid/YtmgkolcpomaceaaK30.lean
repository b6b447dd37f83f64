/- FnEnds: the walk. -/
import Derived.Test.YtmgkolcpomaceaaK28
namespace Go.Proofs.Ytmgkolcpomaceaa
open Go.RowKit
set_option linter.unusedVariables false
set_option linter.unusedSimpArgs false

/-- One byte more: whether it stands in quotes, and how many ends there were. -/
def stepE (st : Bool × Nat) (b : UInt8) : Bool × Nat := if b == 34 then (!st.1, st.2) else if b == 59 && !st.1 then (st.1, st.2 + 1) else st
def noLt (L : List UInt8) : Bool := L.all fun b => b != 60
def Chunk (L : List UInt8) (m : Nat) : Prop := noLt L = true ∧ ∀ n, L.foldl stepE (false, n) = (false, n + m)
theorem Chunk.nil : Chunk [] 0 := ⟨rfl, fun n => rfl⟩
theorem Chunk.append {L L' : List UInt8} {m m' : Nat} (h : Chunk L m) (h' : Chunk L' m') : Chunk (L ++ L') (m + m') :=
  ⟨by rw [noLt, List.all_append, ← noLt, ← noLt, h.1, h'.1]; rfl, fun n => by rw [List.foldl_append, h.2, h'.2, Nat.add_assoc]⟩
def plainE (b : UInt8) : Bool := b != 34 && b != 59 && b != 60
def insideE (b : UInt8) : Bool := b != 34 && b != 60
theorem Chunk.plain {L : List UInt8} (h : L.all plainE = true) : Chunk L 0 := by
  induction L with
  | nil => exact Chunk.nil
  | cons b L ih =>
    rw [List.all_cons, Bool.and_eq_true] at h
    obtain ⟨h1, h2⟩ := ih h.2
    have hb := h.1
    simp only [plainE, Bool.and_eq_true, bne_iff_ne, ne_eq] at hb
    refine ⟨by rw [noLt, List.all_cons, ← noLt, h1]; simp [hb.2], fun n => ?_⟩
    rw [List.foldl_cons, show stepE (false, n) b = (false, n) by simp [stepE, hb], h2]
theorem inside_fold {L : List UInt8} (h : L.all insideE = true) (n : Nat) : L.foldl stepE (true, n) = (true, n) := by
  induction L with
  | nil => rfl
  | cons b L ih =>
    rw [List.all_cons, Bool.and_eq_true] at h
    have hb := h.1
    simp only [insideE, Bool.and_eq_true, bne_iff_ne, ne_eq] at hb
    rw [List.foldl_cons, show stepE (true, n) b = (true, n) by simp [stepE, hb], ih h.2]
theorem Chunk.quote {L : List UInt8} (h : L.all insideE = true) : Chunk (34 :: (L ++ [34])) 0 := by
  have h1 : noLt L = true := by
    rw [noLt, List.all_eq_true]
    rw [List.all_eq_true] at h
    intro b hb
    have := h b hb
    simp only [insideE, Bool.and_eq_true] at this
    exact this.2
  refine ⟨?_, fun n => ?_⟩
  · rw [noLt, List.all_cons, List.all_append, ← noLt, h1]; rfl
  · rw [List.foldl_cons, show stepE (false, n) 34 = (true, n) from rfl, List.foldl_append, inside_fold h]; rfl
theorem Chunk.close : Chunk [59] 1 := ⟨rfl, fun n => rfl⟩
theorem byte_all {p : UInt8 → Bool} (h : ∀ n : Fin 256, p (UInt8.ofNat n.val) = true) (b : UInt8) : p b = true := by
  have := h ⟨b.toNat, b.toNat_lt⟩
  simpa using this
theorem quoC_inside (c : UInt8) : (quoC c).all insideE = true :=
  byte_all (p := fun c => (quoC c).all insideE) (by decide +kernel) c
theorem quoL_inside (l : List UInt8) : (quoL l).all insideE = true := by
  rw [quoL, List.all_flatMap, List.all_eq_true]
  exact fun c _ => quoC_inside c
theorem quoS_chunk (s : ByteArray) : Chunk (quoS s).data.toList 0 := by
  show Chunk (34 :: (quoL s.data.toList ++ [34])) 0
  exact Chunk.quote (quoL_inside _)
theorem dash_plain (c : UInt8) : (!(dashC c) || plainE c) = true := byte_all (p := fun c => !(dashC c) || plainE c) (by decide +kernel) c
theorem pat_plain (c : UInt8) : (!(patC c || starC c) || plainE c) = true := byte_all (p := fun c => !(patC c || starC c) || plainE c) (by decide +kernel) c
theorem all_plain {p : UInt8 → Bool} (hp : ∀ c, (!(p c) || plainE c) = true) {l : List UInt8} (h : l.all p = true) : l.all plainE = true := by
  rw [List.all_eq_true] at *
  intro c hc
  have h1 := h c hc
  have h2 := hp c
  rw [h1] at h2
  simpa using h2
theorem wrong_plain : wrongS.data.toList.all plainE = true := by decide
theorem shownS_chunk (s : ByteArray) : Chunk (shownS s).data.toList 0 := by
  unfold shownS
  split
  · rename_i h; exact Chunk.plain (all_plain dash_plain h)
  · exact Chunk.plain wrong_plain
theorem regL_all : ∀ l : List UInt8, regL l = true → l.all (fun c => patC c || starC c) = true
  | [], _ => rfl
  | [c], h => by
    rw [regL] at h
    simp only [List.all_cons, List.all_nil, Bool.and_true]
    cases hs : starC c with
    | true => simp
    | false => rw [hs] at h; simpa using h
  | c :: d :: r, h => by
    cases hs : starC c with
    | true =>
      rw [regL_star hs, Bool.and_eq_true] at h
      have ih := regL_all r h.2
      rw [List.all_cons, List.all_cons, ih, hs, h.1]
      simp
    | false =>
      rw [regL_plain hs, Bool.and_eq_true] at h
      have ih := regL_all (d :: r) h.2
      rw [List.all_cons, ih, hs, h.1]
      simp
theorem regS_chunk (s : ByteArray) : Chunk (regS s).data.toList 0 := by
  unfold regS
  split
  · rename_i h; exact Chunk.plain (all_plain pat_plain (regL_all _ h))
  · exact Chunk.plain wrong_plain
theorem famS_chunk (s : ByteArray) : Chunk (famS s).data.toList 0 := by
  unfold famS
  split
  · rename_i h
    simp only [famOk, Bool.and_eq_true] at h
    exact Chunk.plain (all_plain dash_plain h.2)
  · exact quoS_chunk _
theorem lineI_chunk (fam : Bool) (x : ByteArray) : Chunk (lineI fam x) 0 := by
  unfold lineI
  split
  · exact famS_chunk x
  · exact ((Chunk.plain (by decide)).append (quoS_chunk _)).append (Chunk.plain (by decide))
theorem joinI_chunk (fam : Bool) (ls : List ByteArray) : Chunk (joinI fam ls) 0 := by
  induction ls using revInd with
  | nil => exact Chunk.nil
  | snoc l x ih =>
    rw [joinI_snoc]
    refine Chunk.append (m := 0) (m' := 0) ?_ (lineI_chunk fam x)
    split
    · exact Chunk.nil
    · exact ih.append (Chunk.plain (by decide))
theorem implV_chunk (n s : ByteArray) : Chunk (implV n s) 0 := by
  unfold implV
  split
  · exact shownS_chunk s
  · split
    · exact joinI_chunk true _
    · split
      · exact joinI_chunk false _
      · exact regS_chunk s
theorem names_plain : ∀ f ∈ fieldsL, f.2.data.toList.all plainE = true := by decide
theorem item_chunk (f : Pr) (hf : f ∈ fieldsL) (p : Pr) : Chunk (itemI f p) (if toldB f p = true then 1 else 0) := by
  unfold itemI
  split
  · exact (((Chunk.plain (names_plain f hf)).append (Chunk.plain (by decide))).append (implV_chunk _ _)).append Chunk.close
  · exact Chunk.nil
theorem row_chunk (f : Pr) (hf : f ∈ fieldsL) : ∀ l : List Pr, Chunk (rowI l f) (l.countP (toldB f))
  | [] => Chunk.nil
  | p :: l => by
    have h := (item_chunk f hf p).append (row_chunk f hf l)
    rw [List.countP_cons, Nat.add_comm]
    exact h
theorem impl_chunk_aux (l : List Pr) : ∀ fs : List Pr, (∀ f ∈ fs, f ∈ fieldsL) → Chunk (fs.flatMap (rowI l)) ((fs.map fun f => l.countP (toldB f)).sum)
  | [], _ => Chunk.nil
  | f :: fs, h => (row_chunk f (h f (by simp)) l).append (impl_chunk_aux l fs (fun g hg => h g (by simp [hg])))
/-- A property with a value, or a list. -/
def fullB (p : Pr) : Bool := !(p.2.toList == []) || listB p.1
theorem told_full (f p : Pr) : toldB f p = (hitB f p && fullB p) := by
  unfold toldB blankB
  cases h : hitB f p with
  | false => rfl
  | true =>
    have : p.1 = f.1 := sameN_iff.1 h
    rw [fullB, this, emp_iff]
    cases (p.2.toList == []) <;> cases (listB f.1) <;> rfl
theorem count_full (p : Pr) (h : inFields p = true) : (fieldsL.countP fun f => toldB f p) = if fullB p = true then 1 else 0 := by
  have h1 := hits_le_one p
  have h2 : 0 < fieldsL.countP (fun f => hitB f p) := by
    rw [List.countP_pos_iff]
    rw [inFields, List.any_eq_true] at h
    exact h
  have e : (fun f => toldB f p) = fun f => (hitB f p && fullB p) := funext fun f => told_full f p
  rw [e]
  cases hf : fullB p with
  | true => simp only [Bool.and_true, if_true]; omega
  | false => simp
theorem sum_count : ∀ l : List Pr, l.all inFields = true → (l.map fun p => fieldsL.countP fun f => toldB f p).sum = l.countP fullB
  | [], _ => rfl
  | p :: l, h => by
    rw [List.all_cons, Bool.and_eq_true] at h
    rw [List.map_cons, List.sum_cons, sum_count l h.2, List.countP_cons, count_full p h.1]
    omega
theorem impl_chunk (l : List Pr) (h : l.all inFields = true) : Chunk (implT l) (l.countP fullB) := by
  have h1 := impl_chunk_aux l fieldsL (fun f hf => hf)
  have e : (fieldsL.map fun f => l.countP (toldB f)).sum = (l.map fun p => fieldsL.countP fun f => toldB f p).sum := sum_swap toldB fieldsL l
  rw [e, sum_count l h] at h1
  exact h1
theorem fold_count_le (L : List UInt8) (st : Bool × Nat) : (L.foldl stepE st).2 ≤ st.2 + L.length := by
  induction L generalizing st with
  | nil => exact Nat.le_refl _
  | cons b L ih =>
    rw [List.foldl_cons, List.length_cons]
    have h1 := ih (stepE st b)
    have h2 : (stepE st b).2 ≤ st.2 + 1 := by
      unfold stepE
      split
      · exact Nat.le_succ _
      · split
        · exact Nat.le_refl _
        · exact Nat.le_succ _
    omega
end Go.Proofs.Ytmgkolcpomaceaa
namespace Go.Proofs.Ytmgkolcpomaceaa
open Go.RowKit Go.Maps
set_option linter.unusedVariables false
set_option linter.unusedSimpArgs false

theorem enters41 : Enters 41 := fun args w => by simp [go_sem, Try.func41]
set_option maxRecDepth 100000 in
theorem fieldName_calls (n v m : ByteArray) (g : Nat) (w : World) (hc : w.cell? ⟨g, 0, none⟩ = some (.string m)) :
    Calls Try.prog 41 #[.agg #[.string n, .string v], .pointer (some ⟨g, 0, none⟩)] w fun e w' => e = .returned (.bool (sameN n m)) ∧ Below w.heap.size w w' := by
  have hlt : g < w.heap.size := World.block_lt_of_cell? w _ hc
  go_enter Try.func41, Try.ntmps41
  go_wp2_with fail
  go_ret
  exact ⟨rfl, (Below.refl _ _).alloc (Nat.le_refl _) _⟩
set_option maxHeartbeats 400000 in
set_option maxRecDepth 100000 in
theorem indexField_calls (m : FuncId) (c : Value) (p : Pr → Bool) (l : List Pr) (hcf : Enters m) (w : World)
    (hm : Hid (∀ q ∈ l, ∀ w' : World, Below w.heap.size w w' → Calls Try.prog m #[.agg #[.string q.1, .string q.2], c] w' fun e w'' => e = .returned (.bool (p q)) ∧ Below w'.heap.size w' w''))
    (A : Option Addr) (cap : Nat) (hA : Hid (PairsAt w A l)) (hl : l.length ≤ 2147483647) :
    Calls Try.prog 84 #[.slice A l.length cap, .func (.func m) #[] #[c]] w (IdxIs (l.any p) w) := by
  unfold Enters at hcf
  go_enter Try.func84, Try.ntmps84
  go_wp2
  go_loopg [8] l.length (fun gk i wr => ∃ k : Nat, gk = l.length - k ∧ k ≤ l.length ∧ i = .int .i64 k ∧ Hid ((l.take k).any p = false) ∧ Hid (Below w.heap.size w wr))
  case atStart => exact ⟨0, rfl, Nat.zero_le _, rfl, by simp [Hid], Below.refl _ _⟩
  case round =>
    obtain ⟨k, hgk, hk, rfl, ha, hB⟩ := hrel
    have HG := Lib.hid hgk
    clear hgk
    by_cases hlt : k < l.length
    · have H := Lib.hid (any_take_succ (p := p) l k hlt)
      obtain ⟨ad, rfl, hblk, hc, hd⟩ := (hA.out.below hB.out) k hlt
      cases hp : p l[k]
      · have HP := Lib.hid hp
        clear hp
        go_wp2_with fail
        refine (hm.out l[k] (List.getElem_mem _) _ hB.out).mono ?_
        rintro e w' ⟨rfl, hb⟩
        have hp := HP.out
        go_wp2
        go_roundg (l.length - (k + 1))
        case rel => exact ⟨k + 1, rfl, by omega, by go_num, by rw [Hid, H.out, ha.out, hp]; rfl, below_then hB.out hB.out.size hb⟩
        case measure => rw [HG.out]; omega
      · have HP := Lib.hid hp
        clear hp
        go_wp2_with fail
        refine (hm.out l[k] (List.getElem_mem _) _ hB.out).mono ?_
        rintro e w' ⟨rfl, hb⟩
        have hp := HP.out
        go_wp2
        go_ret
        exact ⟨k, rfl, by rw [any_true_of l k hlt hp]; simp, below_then hB.out hB.out.size hb⟩
    · go_wp2
      go_ret
      exact ⟨-1, rfl, by rw [any_of_take l k (by omega) ha.out]; rfl, hB.out⟩

set_option maxHeartbeats 400000 in
set_option maxRecDepth 100000 in
theorem containsField_calls (m : FuncId) (c : Value) (p : Pr → Bool) (l : List Pr) (hcf : Enters m) (w : World)
    (hm : Hid (∀ q ∈ l, ∀ w' : World, Below w.heap.size w w' → Calls Try.prog m #[.agg #[.string q.1, .string q.2], c] w' fun e w'' => e = .returned (.bool (p q)) ∧ Below w'.heap.size w' w''))
    (A : Option Addr) (cap : Nat) (hA : Hid (PairsAt w A l)) (hl : l.length ≤ 2147483647) :
    Calls Try.prog 39 #[.slice A l.length cap, .func (.func m) #[] #[c]] w fun e w' => e = .returned (.bool (l.any p)) ∧ Below w.heap.size w w' := by
  go_enter Try.func39, Try.ntmps39
  go_wp2_with fail
  refine (indexField_calls m c p l hcf _ hm A cap hA hl).mono ?_
  rintro e w' ⟨r, rfl, hr, hb⟩
  have HR := Lib.hid hr
  clear hr
  go_wp2
  go_ret
  exact ⟨ret_bool HR.out, hb⟩


theorem sameN_comm (a b : ByteArray) : sameN a b = sameN b a := by
  rw [Bool.eq_iff_iff, sameN_iff, sameN_iff]; exact eq_comm
theorem inFields_eq (p : Pr) : (fieldsL.any fun f => sameN f.1 p.1) = inFields p := by
  rw [inFields]; congr 1; funext f; exact sameN_comm _ _

set_option maxHeartbeats 16000000 in
set_option maxRecDepth 100000 in
theorem fnEnds_any (l : List Pr) (A : Option Addr) (cap : Nat) (w : World) (hA : Hid (PairsAt w A l)) (hcap : l.length ≤ cap) :
    Calls Try.prog 12 #[.slice A l.length cap] w fun x w' => x = .returned (.bool true) ∧ Below w.heap.size w w' := by
  have hmf : ∀ (fn : Fn) (first cap : Array Value) (w : World), (Instr.makeFunc fn first cap).run Try.prog w = .ok (.func fn first cap) w := fun _ _ _ _ => rfl
  cases hf : fitsB l with
  | false =>
    have HF := Lib.hid hf
    clear hf
    go_enter Try.func12, Try.ntmps12
    go_wp2_with fail
    refine (zzFits2_calls l A cap _ hA).mono ?_
    rw [HF.out]
    rintro e w1 ⟨rfl, hb⟩
    go_wp2_with fail
    go_ret
    exact ⟨rfl, hb⟩
  | true =>
    have HF := Lib.hid hf
    clear hf
    cases hok : pairsOkB l with
    | false =>
      have HOK := Lib.hid hok
      clear hok
      go_enter Try.func12, Try.ntmps12
      go_wp2_with fail
      refine (zzFits2_calls l A cap _ hA).mono ?_
      rw [HF.out]
      rintro e w1 ⟨rfl, hb⟩
      have HA1 := Lib.hid (hA.out.below hb)
      have HB1 := Lib.hid hb
      clear hb
      go_wp2_with fail
      refine (pairsOk_calls l A cap _ HA1 HF.out hcap).mono ?_
      rw [HOK.out]
      rintro e w2 ⟨rfl, hb⟩
      go_wp2_with fail
      go_ret
      exact ⟨rfl, below_then HB1.out HB1.out.size hb⟩
    | true =>
      have HOK := Lib.hid hok
      have hl20 := len_of_ok hok
      clear hok
      go_enter Try.func12, Try.ntmps12
      go_wp2_with fail
      refine (zzFits2_calls l A cap _ hA).mono ?_
      rw [HF.out]
      rintro e w1 ⟨rfl, hb⟩
      have HA1 := Lib.hid (hA.out.below hb)
      have HB1 := Lib.hid hb
      clear hb
      go_wp2_with fail
      refine (pairsOk_calls l A cap _ HA1 HF.out hcap).mono ?_
      rw [HOK.out]
      rintro e w2 ⟨rfl, hb⟩
      have HA2 := Lib.hid (HA1.out.below hb)
      have HB2 := Lib.hid (below_then HB1.out HB1.out.size hb)
      clear hb
      go_wp2_with fail
      go_loopg [3, 17] l.length (fun gk c i wr => ∃ k m : Nat, gk = l.length - k ∧ k ≤ l.length ∧ i = .int .i64 k ∧ c = .int .i64 m ∧ m ≤ k ∧ Hid (m = (l.take k).countP fullB) ∧ Hid ((l.take k).all inFields = true) ∧ Hid (Below w2.heap.size w2 wr) ∧ Hid (Below w.heap.size w wr))
      case atStart => exact ⟨0, 0, rfl, Nat.zero_le _, rfl, rfl, Nat.le_refl _, rfl, rfl, Below.refl _ _, HB2⟩
      case round =>
        obtain ⟨k, m, hgk, hk, rfl, rfl, hmk, hm, hin, hBa, hB⟩ := hrel
        have HG := Lib.hid hgk
        clear hgk
        by_cases hlt : k < l.length
        · have HTk := Lib.hid (take_snoc1 l k hlt)
          obtain ⟨ad, rfl, hblk, hc, hd⟩ := (HA2.out.below hBa.out) k hlt
          generalize l[k] = p at HTk hc hd
          have HCa := Lib.hid (show (l.take (k + 1)).all inFields = ((l.take k).all inFields && inFields p) by rw [HTk.out, List.all_append]; simp)
          have HCn := Lib.hid (show (l.take (k + 1)).countP fullB = (l.take k).countP fullB + (if fullB p = true then 1 else 0) by rw [HTk.out, List.countP_append, List.countP_cons, List.countP_nil]; simp)
          go_wp2_with fail
          refine (fields_calls _).mono ?_
          rintro e w3 ⟨g, rfl, hF, hb⟩
          have hq1 := own_cell hb 0
          have hq2 := own_cell hb 1
          simp at hq1 hq2
          have hqlt := own_lt hb
          have HBa3 := Lib.hid (below_then hBa.out hBa.out.size (below_own hb))
          have HB3 := Lib.hid (below_then hB.out hB.out.size (below_own hb))
          have HC := Lib.hid (containsField_calls 41 (.pointer (some ⟨wr.heap.size, 0, none⟩)) (fun f => sameN f.1 p.1) fieldsL enters41 w3
            (Lib.hid (fun q _ w' hw => fieldName_calls q.1 q.2 p.1 wr.heap.size w' ((hw.cell (p := ⟨wr.heap.size, 0, none⟩) hqlt).trans hq1))) (some ⟨g, 0, none⟩) 17 (Lib.hid hF) (by decide))
          rw [inFields_eq p, show fieldsL.length = 17 from rfl] at HC
          clear hb hF
          go_wp2_with fail
          refine HC.out.mono ?_
          rintro e w4 ⟨rfl, hb⟩
          have hr1 := (hb.cell (p := ⟨wr.heap.size, 0, none⟩) hqlt).trans hq1
          have hr2 := (hb.cell (p := ⟨wr.heap.size, 1, none⟩) hqlt).trans hq2
          have HBa4 := Lib.hid (below_then HBa3.out HBa3.out.size hb)
          have HB4 := Lib.hid (below_then HB3.out HB3.out.size hb)
          clear hb hq1 hq2 HC
          cases hip : inFields p with
          | false =>
            go_wp2_with fail
            go_ret
            exact ⟨rfl, HB4.out⟩
          | true =>
            have HIP := Lib.hid hip
            clear hip
            cases hv : (p.2.toList == []) with
            | false =>
              have HV := Lib.hid (show fullB p = true by rw [fullB, hv]; rfl)
              go_wp2_with fail
              go_roundg (l.length - (k + 1))
              case measure => rw [HG.out]; omega
              case rel => exact ⟨k + 1, m + 1, rfl, by omega, by simp, by simp, by omega, by rw [Hid, HCn.out, HV.out, hm.out]; rfl, by rw [Hid, HCa.out, hin.out, HIP.out]; rfl, HBa4, HB4⟩
            | true =>
              cases hli : listB p.1 with
              | false =>
                have HLi := Lib.hid hli
                have HV := Lib.hid (show fullB p = false by rw [fullB, hv, hli]; rfl)
                clear hli
                go_wp2_with fail
                refine (list_calls p.1 _).mono ?_
                rw [HLi.out]
                rintro e w5 ⟨rfl, rfl⟩
                go_wp2_with fail
                go_roundg (l.length - (k + 1))
                case measure => rw [HG.out]; omega
                case rel => exact ⟨k + 1, m, rfl, by omega, by simp, rfl, by omega, by rw [Hid, HCn.out, HV.out, hm.out]; rfl, by rw [Hid, HCa.out, hin.out, HIP.out]; rfl, HBa4, HB4⟩
              | true =>
                have HLi := Lib.hid hli
                have HV := Lib.hid (show fullB p = true by rw [fullB, hv, hli]; rfl)
                clear hli
                go_wp2_with fail
                refine (list_calls p.1 _).mono ?_
                rw [HLi.out]
                rintro e w5 ⟨rfl, rfl⟩
                go_wp2_with fail
                go_roundg (l.length - (k + 1))
                case measure => rw [HG.out]; omega
                case rel => exact ⟨k + 1, m + 1, rfl, by omega, by simp, by simp, by omega, by rw [Hid, HCn.out, HV.out, hm.out]; rfl, by rw [Hid, HCa.out, hin.out, HIP.out]; rfl, HBa4, HB4⟩
        · have hks : k = l.length := by omega
          have hml : m ≤ 20 := by omega
          have HMN := Lib.hid (show m = l.countP fullB by have := hm.out; rwa [hks, List.take_of_length_le (Nat.le_refl _)] at this)
          have hina : l.all inFields = true := by have := hin.out; rwa [hks, List.take_of_length_le (Nat.le_refl _)] at this
          have HCh := Lib.hid (impl_chunk l hina)
          have HSt := Lib.hid (fun w hA => implStyle_calls l A cap w hA HOK.out hina)
          have HA3 := Lib.hid (HA2.out.below hBa.out)
          clear hks hm hin hina HG hmf
          go_wp2_with fail
          refine (HSt.out _ HA3).mono ?_
          rintro e w3 ⟨T, rfl, hT, hTs, hb⟩
          have HB3 := Lib.hid (below_then hB.out hB.out.size hb)
          have HT := Lib.hid (show Chunk T.data.toList m by rw [hT, HMN.out]; exact HCh.out)
          clear hb hT HCh HSt
          have hcv := fun w => Lib.run_convert_string_bytes (P := Try.prog) w 9 47 5 T Try.underlying9 Try.underlying47 Try.underlying5
          have HB5 := Lib.hid (below_then HB3.out HB3.out.size (bytesWorld_below w3 5 T))
          go_wp2_with fail
          go_loop [3, 6, 40] (fun c q i => ∃ (k j : Nat) (b : Bool), k ≤ T.size ∧ i = .int .i64 k ∧ q = .bool b ∧ c = .int .i64 ((m : Int) - (j : Int)) ∧ j ≤ k ∧ Hid ((T.data.toList.take k).foldl stepE (false, 0) = (b, j))) (fun _ _ i => T.size - (intOf i).toNat)
          case atStart => exact ⟨0, 0, false, Nat.zero_le _, rfl, rfl, by simp, Nat.le_refl _, by simp [Hid]⟩
          case round =>
            clear hcv
            obtain ⟨k, j, b, hk, rfl, rfl, rfl, hj, hfold⟩ := hrel
            by_cases hkt : k < T.size
            · have HS := Lib.hid (show (T.data.toList.take (k + 1)).foldl stepE (false, 0) = stepE (b, j) T[k] by rw [take_succ_byte T k hkt, List.foldl_append, hfold.out]; rfl)
              have hc := bytesWorld_cell' w3 5 T k hkt
              have h256 := toNat_lt_256 T[k]
              have hn60 : T[k].toNat ≠ 60 := by
                intro h
                have h1 := List.all_eq_true.1 HT.out.1 T[k] (getElem_mem_data T k hkt)
                have h2 : T[k] = 60 := UInt8.toNat.inj h
                rw [h2] at h1
                cases h1
              have g60 : ((T[k].toNat : Int) == 60) = false := by simp; omega
              by_cases h34 : T[k].toNat = 34
              · have g34 : ((T[k].toNat : Int) == 34) = true := by simp; omega
                have e34 : T[k] = 34 := UInt8.toNat.inj h34
                have HS2 := Lib.hid (show (T.data.toList.take (k + 1)).foldl stepE (false, 0) = (!b, j) by rw [HS.out, e34]; rfl)
                clear e34
                go_wp2_with fail
                go_round
                case rel => exact ⟨k + 1, j, !b, by omega, by go_num, rfl, rfl, by omega, HS2⟩
                case measure => simp [intOf]; omega
              · have g34 : ((T[k].toNat : Int) == 34) = false := by simp; omega
                by_cases h59 : T[k].toNat = 59
                · have g59 : ((T[k].toNat : Int) == 59) = true := by simp; omega
                  have e59 : T[k] = 59 := UInt8.toNat.inj h59
                  cases b with
                  | true =>
                    have HS2 := Lib.hid (show (T.data.toList.take (k + 1)).foldl stepE (false, 0) = (true, j) by rw [HS.out, e59]; rfl)
                    clear e59
                    go_wp2_with fail
                    go_round
                    case rel => exact ⟨k + 1, j, true, by omega, by go_num, rfl, rfl, by omega, HS2⟩
                    case measure => simp [intOf]; omega
                  | false =>
                    have HS2 := Lib.hid (show (T.data.toList.take (k + 1)).foldl stepE (false, 0) = (false, j + 1) by rw [HS.out, e59]; rfl)
                    clear e59
                    go_wp2_with fail
                    go_round
                    case rel => exact ⟨k + 1, j + 1, false, by omega, by go_num, rfl, by simp; omega, by omega, HS2⟩
                    case measure => simp [intOf]; omega
                · have g59 : ((T[k].toNat : Int) == 59) = false := by simp; omega
                  have HS2 := Lib.hid (show (T.data.toList.take (k + 1)).foldl stepE (false, 0) = (b, j) by
                    rw [HS.out]
                    have n34 : (T[k] == 34) = false := by rw [beq_eq_false_iff_ne]; intro h; exact h34 (by rw [h]; rfl)
                    have n59 : (T[k] == 59) = false := by rw [beq_eq_false_iff_ne]; intro h; exact h59 (by rw [h]; rfl)
                    rw [stepE, n34, n59]; rfl)
                  go_wp2_with fail
                  go_round
                  case rel => exact ⟨k + 1, j, b, by omega, by go_num, rfl, rfl, by omega, HS2⟩
                  case measure => simp [intOf]; omega
            · have h1 := hfold.out
              rw [List.take_of_length_le (by simp; omega), HT.out.2 0] at h1
              obtain ⟨rfl, h2⟩ := Prod.mk.inj h1
              have hj0 : (m : Int) - (j : Int) = 0 := by omega
              rw [hj0]
              clear h1 h2 hj0
              go_wp2_with fail
              refine (silent_calls _).mono ?_
              rintro e w6 ⟨rfl, hb⟩
              go_wp2_with fail
              go_ret
              exact ⟨rfl, below_then HB5.out HB5.out.size hb⟩
end Go.Proofs.Ytmgkolcpomaceaa
