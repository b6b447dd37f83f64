/- FnConcat. -/
import Derived.Test.YtmgkolcpomaceaaB9
import Derived.Test.YtmgkolcpomaceaaD7
import Derived.Test.YtmgkolcpomaceaaE3
namespace Go.Proofs.Ytmgkolcpomaceaa
open Go.RowKit
set_option linter.unusedVariables false
set_option linter.unusedSimpArgs false

def fitS (s : ByteArray) : Bool := decide (s.size ≤ 2147483647)
def fitsS (l : List ByteArray) : Bool := decide (l.length ≤ 2147483647) && l.all fitS
set_option maxHeartbeats 400000 in
set_option maxRecDepth 100000 in
theorem zzFits1_calls (l : List ByteArray) (A : Option Addr) (cap : Nat) (w : World) (hA : Hid (StrsAt w A l)) :
    Calls Try.prog 30 #[.slice A l.length cap] w fun e w' => e = .returned (.bool (fitsS l)) ∧ w = w' := by
  by_cases h1 : 2147483647 < l.length
  · have g1 : decide (2147483647 < (l.length : Int)) = true := decide_eq_true (by omega)
    have g2 : decide (2147483647 < l.length) = true := decide_eq_true (by omega)
    have HF := Lib.hid (show fitsS l = false by rw [fitsS, decide_eq_false (by omega)]; rfl)
    go_enter Try.func30, Try.ntmps30
    go_wp2
    go_ret
    exact ⟨ret_bool HF.out.symm, rfl⟩
  · have g1 : decide (2147483647 < (l.length : Int)) = false := decide_eq_false (by omega)
    have g2 : decide (2147483647 < l.length) = false := decide_eq_false (by omega)
    have HL := Lib.hid (show decide (l.length ≤ 2147483647) = true from decide_eq_true (by omega))
    go_enter Try.func30, Try.ntmps30
    go_wp2
    go_loop [10] (fun i => ∃ k : Nat, k ≤ l.length ∧ i = .int .i64 k ∧ Hid ((l.take k).all fitS = true)) (fun i => l.length - (intOf i).toNat)
    case atStart => exact ⟨0, Nat.zero_le _, rfl, by simp [Hid]⟩
    case round =>
      obtain ⟨k, hk, rfl, ha⟩ := hrel
      by_cases hlt : k < l.length
      · have H := Lib.hid (lall_take_succ (p := fitS) l k hlt)
        obtain ⟨ad, rfl, hblk, hc⟩ := hA.out k hlt
        by_cases h3 : 2147483647 < l[k].size
        · have g3 : decide (2147483647 < (l[k].size : Int)) = true := decide_eq_true (by omega)
          have g4 : decide (2147483647 < l[k].size) = true := decide_eq_true (by omega)
          go_wp2
          go_ret
          exact ⟨ret_bool (by rw [fitsS, lall_false_of l k hlt (by simp [fitS]; omega)]; simp), rfl⟩
        · have g3 : decide (2147483647 < (l[k].size : Int)) = false := decide_eq_false (by omega)
          have g4 : decide (2147483647 < l[k].size) = false := decide_eq_false (by omega)
          go_wp2
          go_round
          case rel => exact ⟨k + 1, by omega, by go_num, by rw [Hid, H.out, ha.out]; simp [fitS]; omega⟩
          case measure => simp [intOf]; omega
      · go_wp2
        go_ret
        exact ⟨ret_bool (by rw [fitsS, lall_of_take l k (by omega) ha.out, HL.out]; rfl), rfl⟩

/-- Texts, one behind the other. -/
def catS (l : List ByteArray) : ByteArray := l.foldl (· ++ ·) ⟨#[]⟩
theorem catS_snoc (l : List ByteArray) (x : ByteArray) : catS (l ++ [x]) = catS l ++ x := by rw [catS, List.foldl_append]; rfl
theorem catS_take_succ (l : List ByteArray) (k : Nat) (h : k < l.length) : catS (l.take (k + 1)) = catS (l.take k) ++ l[k] := by
  rw [List.take_succ_eq_append_getElem h, catS_snoc]
theorem catS_size (n : Nat) : ∀ l : List ByteArray, (∀ s ∈ l, s.size ≤ n) → (catS l).size ≤ n * l.length := by
  intro l
  induction l using revInd with
  | nil => intro _; exact Nat.zero_le _
  | snoc l a ih =>
    intro h
    have h1 := ih (fun s hs => h s (by simp [hs]))
    have h2 := h a (by simp)
    rw [catS_snoc, ByteArray.size_append, List.length_append, Nat.mul_add]
    simp only [List.length_cons, List.length_nil]
    omega

set_option maxHeartbeats 1000000 in
set_option maxRecDepth 100000 in
theorem htmlConcat_calls (l : List ByteArray) (A : Option Addr) (cap : Nat) (w : World) (hA : Hid (StrsAt w A l)) (hl : l.length ≤ 20) (hs : Hid (∀ s ∈ l, s.size ≤ 1000)) :
    Calls Try.prog 70 #[.slice A l.length cap] w fun e w' => e = .returned (.agg #[.string (catS l)]) ∧ Below w.heap.size w w' := by
  go_enter Try.func70, Try.ntmps70
  go_wp2
  go_loopw [3, 8] (fun t i wr => ∃ k : Nat, k ≤ l.length ∧ i = .int .i64 k ∧ t = .string (catS (l.take k)) ∧ Hid (Below (w.alloc (.cells #[.string ⟨#[]⟩] 57)).heap.size (w.alloc (.cells #[.string ⟨#[]⟩] 57)) wr)) (fun _ i _ => l.length - (intOf i).toNat)
  case atStart => exact ⟨0, Nat.zero_le _, rfl, rfl, Below.refl _ _⟩
  case round =>
    obtain ⟨k, hk, rfl, rfl, hB⟩ := hrel
    have hsz := catS_size 1000 (l.take k) (fun s h => hs.out s (List.mem_of_mem_take h))
    have hlk : (l.take k).length ≤ 20 := by rw [List.length_take]; omega
    have hsz2 : (catS (l.take k)).size ≤ 20000 := by omega
    clear hsz hlk
    by_cases hlt : k < l.length
    · have HT := Lib.hid (catS_take_succ l k hlt)
      have h1000 := hs.out l[k] (List.getElem_mem _)
      obtain ⟨ad, rfl, hblk, hc⟩ := (hA.out.below (below_own hB.out)) k hlt
      go_wp2_with fail
      refine (htmlString_calls l[k] _).mono ?_
      rintro e w1 ⟨rfl, hb1⟩
      have HB1 := Lib.hid (hB.out.trans ((below_own hb1).mono hB.out.size))
      clear hb1
      go_wp2
      go_roundw
      case rel => exact ⟨k + 1, by omega, by go_num, by rw [HT.out], HB1⟩
      case measure => simp [intOf]; omega
    · have htake : l.take k = l := List.take_of_length_le (by omega)
      rw [htake]
      have hc := own_cell hB.out 0
      have hf := own_free hB.out 0
      simp at hc
      clear htake
      go_wp2
      refine bodyPost_ret (v := .agg #[.string (catS l)]) (by simp [results, Try.results70, go_sem, hc]) rfl ⟨rfl, ?_⟩
      exact (below_own hB.out).setCell (Nat.le_refl _) _

set_option maxHeartbeats 1000000 in
set_option maxRecDepth 100000 in
theorem implConcat_calls (l : List ByteArray) (A : Option Addr) (cap : Nat) (w : World) (hA : Hid (StrsAt w A l)) (hl : l.length ≤ 20) (hs : Hid (l.all smallB = true)) :
    Calls Try.prog 31 #[.slice A l.length cap] w fun e w' => e = .returned (.string (catS (l.map htmlS))) ∧ Below w.heap.size w w' := by
  have HSh := Lib.hid (show shortB l = true by rw [shortB, hs.out]; simp [hl])
  go_enter Try.func31, Try.ntmps31
  go_wp2_with fail
  refine (isShort_calls l A cap _ hA (by omega)).mono ?_
  rw [HSh.out]
  rintro e w' ⟨rfl, rfl⟩
  go_wp2
  go_loopw [3, 11] (fun v i wr => ∃ k : Nat, k ≤ l.length ∧ i = .int .i64 k ∧ Hid (SBuf wr w.heap.size 57 v ((l.map htmlS).take k)) ∧ Hid (Below w.heap.size w wr)) (fun _ i _ => l.length - (intOf i).toNat)
  case atStart => exact ⟨0, Nat.zero_le _, rfl, SBuf.nil _ _ _, Below.refl _ _⟩
  case round =>
    obtain ⟨k, hk, rfl, hbuf, hB⟩ := hrel
    by_cases hlt : k < l.length
    · have HT := Lib.hid (show (l.map htmlS).take (k + 1) = (l.map htmlS).take k ++ [htmlS l[k]] by rw [List.take_succ_eq_append_getElem (by simpa using hlt)]; simp)
      have h200 : l[k].size ≤ 200 := by have := hs.out; rw [List.all_eq_true] at this; simpa [smallB] using this l[k] (List.getElem_mem _)
      obtain ⟨ad, rfl, hblk, hc⟩ := (hA.out.below hB.out) k hlt
      go_wp2_with fail
      refine (htmlEscaped_calls l[k] _ h200).mono ?_
      rintro e w1 ⟨rfl, hb1⟩
      have HU := Lib.hid ((hbuf.out.below hb1).alloc (.cells #[.string (htmlS l[k])] 57))
      have HB1 := Lib.hid ((below_then hB.out hB.out.size hb1).alloc (Nat.le_trans hB.out.size hb1.size) (.cells #[.string (htmlS l[k])] 57))
      have HM := Lib.hid (show (w1.alloc (.cells #[.string (htmlS l[k])] 57)).cell? ⟨w1.heap.size, 0, none⟩ = some (.string (htmlS l[k])) by simp [go_sem])
      have hlen : ((l.map htmlS).take k).length ≤ 2147483647 := by simp; omega
      clear hb1
      go_wp2_with (at_builtin; refine sbuf_append 67 57 (.agg #[.string ⟨#[]⟩]) Try.underlying67 info57 rfl rfl _ _ rfl w.heap.size _ _ rfl HU.out _ _ rfl (htmlS l[k]) HM.out hlen HB1.out.size ?_; intro v' w' hb' hg' hbel')
      go_roundw
      case rel => exact ⟨k + 1, by omega, by go_num, by rw [Hid, HT.out]; exact hb', HB1.out.trans hbel'⟩
      case measure => simp [intOf]; omega
    · have htake : (l.map htmlS).take k = l.map htmlS := List.take_of_length_le (by simp; omega)
      rw [htake] at hbuf
      clear htake
      obtain ⟨A', cap', rfl, hA'⟩ := hbuf.out.form
      have HA' := Lib.hid hA'
      clear hA'
      have HLen := Lib.hid (show (l.map htmlS).length ≤ 20 by simp; omega)
      have HSz := Lib.hid (show ∀ s ∈ l.map htmlS, s.size ≤ 1000 by
        intro s h
        rw [List.mem_map] at h
        obtain ⟨x, hx, rfl⟩ := h
        have h1 := htmlS_size x
        have h2 := hs.out
        rw [List.all_eq_true] at h2
        have h3 : x.size ≤ 200 := by simpa [smallB] using h2 x hx
        omega)
      obtain ⟨l', hl'⟩ : ∃ l', l' = l.map htmlS := ⟨_, rfl⟩
      rw [← hl'] at HA' HLen HSz ⊢
      have HE := Lib.hid hl'
      clear hl' hbuf
      go_wp2_with fail
      refine (htmlConcat_calls l' A' cap' _ HA' HLen.out HSz).mono ?_
      rintro e w1 ⟨rfl, hb1⟩
      have HB1 := Lib.hid (below_then hB.out hB.out.size hb1)
      clear hb1
      go_wp2_with fail
      refine (htmlString_calls _ _).mono ?_
      rintro e w2 ⟨rfl, hb2⟩
      go_wp2
      go_ret
      exact ⟨by rw [HE.out]; rfl, below_then HB1.out HB1.out.size hb2⟩

set_option maxHeartbeats 2000000 in
set_option maxRecDepth 100000 in
theorem fnConcat_any (l : List ByteArray) (A : Option Addr) (cap : Nat) (w : World) (hA0 : StrsAt w A l) :
    Calls Try.prog 9 #[.slice A l.length cap] w fun x w' => x = .returned (.bool true) ∧ Below w.heap.size w w' := by
  have hA := Lib.hid hA0
  clear hA0
  cases hf : fitsS l
  · have HF := Lib.hid hf
    clear hf
    go_enter Try.func9, Try.ntmps9
    go_wp2_with fail
    refine (zzFits1_calls l A cap _ hA).mono ?_
    rw [HF.out]
    rintro e w' ⟨rfl, rfl⟩
    go_wp2
    go_ret
    exact ⟨rfl, Below.refl _ _⟩
  · have hlen : l.length ≤ 2147483647 := by rw [fitsS, Bool.and_eq_true] at hf; simpa using hf.1
    have HF := Lib.hid hf
    clear hf
    by_cases h20 : 20 < l.length
    · have g1 : decide (20 < (l.length : Int)) = true := decide_eq_true (by omega)
      have g2 : decide (20 < l.length) = true := decide_eq_true (by omega)
      go_enter Try.func9, Try.ntmps9
      go_wp2_with fail
      refine (zzFits1_calls l A cap _ hA).mono ?_
      rw [HF.out]
      rintro e w' ⟨rfl, rfl⟩
      go_wp2
      go_ret
      exact ⟨rfl, Below.refl _ _⟩
    · have g1 : decide (20 < (l.length : Int)) = false := decide_eq_false (by omega)
      have g2 : decide (20 < l.length) = false := decide_eq_false (by omega)
      go_enter Try.func9, Try.ntmps9
      go_wp2_with fail
      refine (zzFits1_calls l A cap _ hA).mono ?_
      rw [HF.out]
      rintro e w' ⟨rfl, rfl⟩
      go_wp2
      go_loopw [3, 14] (fun t i wr => ∃ k : Nat, k ≤ l.length ∧ i = .int .i64 k ∧ t = .string (catS ((l.map htmlS).take k)) ∧ Hid ((l.take k).all smallB = true) ∧ Hid (Below w.heap.size w wr)) (fun _ i _ => l.length - (intOf i).toNat)
      case atStart => exact ⟨0, Nat.zero_le _, rfl, rfl, by simp [Hid], Below.refl _ _⟩
      case round =>
        obtain ⟨k, hk, rfl, rfl, ha, hB⟩ := hrel
        have HSz := Lib.hid (show ∀ s ∈ (l.map htmlS).take k, s.size ≤ 1000 by
          intro s h
          rw [← List.map_take, List.mem_map] at h
          obtain ⟨x, hx, rfl⟩ := h
          have h1 := htmlS_size x
          have h2 := ha.out
          rw [List.all_eq_true] at h2
          have h3 : x.size ≤ 200 := by simpa [smallB] using h2 x hx
          omega)
        have hsz2 : (catS ((l.map htmlS).take k)).size ≤ 20000 := by
          have h1 := catS_size 1000 _ HSz.out
          rw [List.length_take, List.length_map] at h1
          omega
        by_cases hlt : k < l.length
        · have HL := Lib.hid (lall_take_succ (p := smallB) l k hlt)
          have HT := Lib.hid (show catS ((l.map htmlS).take (k + 1)) = catS ((l.map htmlS).take k) ++ htmlS l[k] by
            rw [catS_take_succ _ k (by simpa using hlt)]; simp)
          obtain ⟨ad, rfl, hblk, hc⟩ := (hA.out.below hB.out) k hlt
          by_cases h3 : 200 < l[k].size
          · have g3 : decide (200 < (l[k].size : Int)) = true := decide_eq_true (by omega)
            have g4 : decide (200 < l[k].size) = true := decide_eq_true (by omega)
            go_wp2
            go_ret
            exact ⟨rfl, hB.out⟩
          · have g3 : decide (200 < (l[k].size : Int)) = false := decide_eq_false (by omega)
            have g4 : decide (200 < l[k].size) = false := decide_eq_false (by omega)
            have hh := htmlS_size l[k]
            go_wp2_with fail
            refine (specEscaped_html l[k] _ (by omega)).mono ?_
            rintro e w1 ⟨rfl, hb1⟩
            have HB1 := Lib.hid (below_then hB.out hB.out.size hb1)
            clear hb1
            go_wp2
            go_roundw
            case rel => exact ⟨k + 1, by omega, by go_num, by rw [HT.out], by rw [Hid, HL.out, ha.out]; simp [smallB]; omega, HB1⟩
            case measure => simp [intOf]; omega
        · have htake : l.take k = l := List.take_of_length_le (by omega)
          have htake2 : (l.map htmlS).take k = l.map htmlS := List.take_of_length_le (by simp; omega)
          rw [htake] at ha
          rw [htake2] at hsz2 ⊢
          clear htake htake2 HSz
          have HC := Lib.hid (implConcat_calls l A cap)
          have HA := Lib.hid (hA.out.below hB.out)
          generalize catS (l.map htmlS) = t at hsz2 HC ⊢
          go_wp2_with fail
          refine (HC.out _ HA (by omega) ha).mono ?_
          rintro e w1 ⟨rfl, hb1⟩
          go_wp2_with fail
          refine (silent_calls _).mono ?_
          rintro e w2 ⟨rfl, hb2⟩
          go_wp2
          go_ret
          exact ⟨rfl, below_then hB.out hB.out.size (below_then hb1 hb1.size hb2)⟩
end Go.Proofs.Ytmgkolcpomaceaa
