/- urlProcessor (no normalizing): all but letters, figures and - . _ ~ by their numbers. -/
import Derived.Test.YtmgkolcpomaceaaB8
import Derived.Test.YtmgkolcpomaceaaD1
import Derived.Test.YtmgkolcpomaceaaB10
import Derived.Deep.DeepCutAuto
import Derived.Deep.CutBlock
namespace Go.Proofs.Ytmgkolcpomaceaa
open Go.RowKit
set_option linter.unusedVariables false
set_option linter.unusedSimpArgs false

def unresC (c : UInt8) : Bool := letterC c || digitC c || c == 45 || c == 46 || c == 95 || c == 126
def hexDs : List UInt8 := [48, 49, 50, 51, 52, 53, 54, 55, 56, 57, 97, 98, 99, 100, 101, 102]
def pctX (c : UInt8) : List UInt8 := [37, hexDs.getD (c.toNat / 16) 0, hexDs.getD (c.toNat % 16) 0]
def pctC (c : UInt8) : List UInt8 := if unresC c then [c] else pctX c
def pctL (l : List UInt8) : List UInt8 := l.flatMap pctC
theorem pctL_snoc (l : List UInt8) (c : UInt8) : pctL (l ++ [c]) = pctL l ++ pctC c := by simp [pctL]
theorem pctC_un {c : UInt8} (h : unresC c = true) : pctC c = [c] := by rw [pctC, if_pos h]
theorem pctC_re {c : UInt8} (h : unresC c = false) : pctC c = pctX c := by rw [pctC, if_neg (by rw [h]; simp)]
theorem pctC_len (c : UInt8) : (pctC c).length ≤ 3 := by unfold pctC; split <;> simp [pctX]
theorem pctL_len (l : List UInt8) : (pctL l).length ≤ 3 * l.length := by
  induction l with
  | nil => simp [pctL]
  | cons c l ih => have := pctC_len c; simp only [pctL, List.flatMap_cons, List.length_append, List.length_cons] at ih ⊢; omega
theorem and15 (c : UInt8) : bits .and .u8 (c.toNat : Int) 15 = ((c.toNat % 16 : Nat) : Int) := by
  have : ∀ n : Fin 256, bits .and .u8 ((n.val : Nat) : Int) 15 = ((n.val % 16 : Nat) : Int) := by decide +kernel
  exact this ⟨c.toNat, c.toNat_lt⟩
theorem hexAt (n : Nat) (h : n < 16) : ∃ hb : n < (ByteArray.mk #[48, 49, 50, 51, 52, 53, 54, 55, 56, 57, 97, 98, 99, 100, 101, 102]).size, (ByteArray.mk #[48, 49, 50, 51, 52, 53, 54, 55, 56, 57, 97, 98, 99, 100, 101, 102])[n] = hexDs.getD n 0 := by
  have : ∀ n : Fin 16, ∃ hb : n.val < (ByteArray.mk #[48, 49, 50, 51, 52, 53, 54, 55, 56, 57, 97, 98, 99, 100, 101, 102]).size, (ByteArray.mk #[48, 49, 50, 51, 52, 53, 54, 55, 56, 57, 97, 98, 99, 100, 101, 102])[n.val] = hexDs.getD n.val 0 := by decide
  exact this ⟨n, h⟩


theorem drop_take_succ (s : ByteArray) (m k : Nat) (hm : m ≤ k) (hk : k < s.size) : (s.data.toList.drop m).take (k + 1 - m) = (s.data.toList.drop m).take (k - m) ++ [s[k]] := by
  have e : k + 1 - m = (k - m) + 1 := by omega
  have hl : k - m < (s.data.toList.drop m).length := by simp; omega
  rw [e, List.take_succ_eq_append_getElem hl]
  congr 1
  simp only [List.getElem_drop]
  have : m + (k - m) = k := by omega
  simp only [this]
  rfl

theorem unres_true {c : UInt8} : unresC c = true ↔ (97 ≤ c.toNat ∧ c.toNat ≤ 122) ∨ (65 ≤ c.toNat ∧ c.toNat ≤ 90) ∨ (48 ≤ c.toNat ∧ c.toNat ≤ 57) ∨ c.toNat = 45 ∨ c.toNat = 46 ∨ c.toNat = 95 ∨ c.toNat = 126 := by
  simp [unresC, letterC, digitC, ← UInt8.toNat_inj, or_assoc]
theorem unres_false {c : UInt8} (h : ¬ ((97 ≤ c.toNat ∧ c.toNat ≤ 122) ∨ (65 ≤ c.toNat ∧ c.toNat ≤ 90) ∨ (48 ≤ c.toNat ∧ c.toNat ≤ 57) ∨ c.toNat = 45 ∨ c.toNat = 46 ∨ c.toNat = 95 ∨ c.toNat = 126)) : unresC c = false := by
  cases hc : unresC c with
  | false => rfl
  | true => exact absurd (unres_true.1 hc) h

theorem hex_div (c : UInt8) (hb : ((c.toNat:Int)/16).toNat < (ByteArray.mk #[48, 49, 50, 51, 52, 53, 54, 55, 56, 57, 97, 98, 99, 100, 101, 102]).size) : (ByteArray.mk #[48, 49, 50, 51, 52, 53, 54, 55, 56, 57, 97, 98, 99, 100, 101, 102])[((c.toNat:Int)/16).toNat]'hb = hexDs.getD (c.toNat/16) 0 := by
  have e : ((c.toNat:Int)/16).toNat = c.toNat / 16 := by omega
  have := toNat_lt_256 c
  simp only [e]
  exact (hexAt (c.toNat/16) (by omega)).2
theorem hex_mod (c : UInt8) (hb : ((c.toNat:Int)%16).toNat < (ByteArray.mk #[48, 49, 50, 51, 52, 53, 54, 55, 56, 57, 97, 98, 99, 100, 101, 102]).size) : (ByteArray.mk #[48, 49, 50, 51, 52, 53, 54, 55, 56, 57, 97, 98, 99, 100, 101, 102])[((c.toNat:Int)%16).toNat]'hb = hexDs.getD (c.toNat%16) 0 := by
  have e : ((c.toNat:Int)%16).toNat = c.toNat % 16 := by omega
  simp only [e]
  exact (hexAt (c.toNat%16) (by omega)).2
theorem pct_cells (w : World) (c x y : UInt8) (hx : x = hexDs.getD (c.toNat/16) 0) (hy : y = hexDs.getD (c.toNat%16) 0) (j : Nat) (hj : j < (pctX c).length) :
    (w.alloc (Obj.cells #[.int .u8 37, .int .u8 (x.toNat : Int), .int .u8 (y.toNat : Int)] 5)).drew.cell? ⟨w.heap.size, j, none⟩ = some (byteV (pctX c)[j]) := by
  subst hx; subst hy
  have hj3 : j < 3 := hj
  have e : (w.alloc (Obj.cells #[.int .u8 37, .int .u8 ((hexDs.getD (c.toNat/16) 0).toNat : Int), .int .u8 ((hexDs.getD (c.toNat%16) 0).toNat : Int)] 5)).drew.cell? ⟨w.heap.size, j, none⟩ = (w.alloc (Obj.cells #[.int .u8 37, .int .u8 ((hexDs.getD (c.toNat/16) 0).toNat : Int), .int .u8 ((hexDs.getD (c.toNat%16) 0).toNat : Int)] 5)).cell? ⟨w.heap.size, j, none⟩ := rfl
  rw [e, World.cell?_alloc_new]
  rcases j with _ | _ | _ | j
  · rfl
  · rfl
  · rfl
  · omega
theorem size_pct {B : Nat} {w : World} (h : B ≤ w.heap.size) (o : Obj) : B ≤ (w.alloc o).drew.heap.size := by
  have : (w.alloc o).drew.heap.size = w.heap.size + 1 := Array.size_push _
  omega
theorem buf_pct {w : World} {B : Nat} {v : Value} {l : List UInt8} (h : Buf w B v l) (o : Obj) : Buf (w.alloc o).drew B v l := (h.alloc o).moved fun _ _ => rfl

set_option maxHeartbeats 16000000 in
set_option maxRecDepth 100000 in
theorem urlProc_calls (s : ByteArray) (w : World) (hs : s.size ≤ 2147483647) :
    Calls Try.prog 130 #[.bool false, .string s] w fun e w' => e = .returned (.string ⟨(pctL s.data.toList).toArray⟩) ∧ Below w.heap.size w w' := by
  go_enter Try.func130, Try.ntmps130
  go_wp2
  go_loopg [5, 6, 7] s.size (fun gk v n i wr => ∃ (m k : Nat) (L : List UInt8), gk = s.size - k ∧ m ≤ k ∧ k ≤ s.size ∧ i = .int .i64 k ∧ n = .int .i64 m ∧ Hid (Buf wr w.heap.size v L) ∧ Hid (L ++ (s.data.toList.drop m).take (k - m) = pctL (s.data.toList.take k)) ∧ Hid (m = 0 → L = []) ∧ Hid (Below w.heap.size w wr))
  case atStart => exact ⟨0, 0, [], rfl, Nat.le_refl _, Nat.zero_le _, rfl, rfl, Buf.nil _ _, by simp [Hid, pctL], fun _ => rfl, Below.refl _ _⟩
  case round =>
    obtain ⟨m, k, L, hgk, hmk, hk, rfl, rfl, hbuf, hL, h0, hB⟩ := hrel
    by_cases hlt : k < s.size
    · have HT := Lib.hid (take_succ_byte s k hlt)
      have HD := Lib.hid (drop_take_succ s m k hmk hlt)
      have h256 := toNat_lt_256 s[k]
      have hsz := hB.out.size
      have HP := Lib.hid (pctL_len (s.data.toList.take k))
      have HLn : L.length + (s.extract m k).size ≤ 140737488355328 := by
        have h1 := congrArg List.length hL.out
        have h2 := HP.out
        simp at h1 h2
        simp [ByteArray.size_extract]
        omega
      have hgk' := Lib.hid hgk
      clear hgk
      go_upto_block 2 with fail
      go_cut [9] (fun s9 wx => wx = wr ∧ s9 = .int .u8 s[k].toNat ∧ Hid (unresC s[k] = false))
      case first =>
        go_wp2_with fail
        all_goals (first
          | (go_meet; refine ⟨rfl, rfl, Lib.hid (unres_false ?_)⟩; (try simp only [beq_iff_eq, beq_eq_false_iff_ne] at *); omega)
          | (have hU : unresC s[k] = true := unres_true.2 (by (try simp only [beq_iff_eq, beq_eq_false_iff_ne] at *); omega)
             go_roundg (s.size - (k + 1))
             case measure => rw [hgk'.out]; omega
             case rel => exact ⟨m, k + 1, L, rfl, by omega, by omega, by simp, rfl, hbuf, by rw [Hid, HT.out, pctL_snoc, pctC_un hU, ← hL.out, HD.out, List.append_assoc], h0, hB⟩)
          | (trace_state; fail))
      case rest =>
        obtain ⟨rfl, rfl, hU⟩ := hcut
        go_wp2_with (at_builtin; refine buf_append_str rfl _ _ rfl w.heap.size _ _ rfl hbuf.out _ rfl HLn hsz ?_; intro v' w' hb' hg' hbel')
        have HA15 := and15 s[k]
        have hi1 : (0:Int) ≤ ((s[k].toNat / 16 : Nat) : Int) ∧ ((s[k].toNat / 16 : Nat) : Int) < 16 := by omega
        have hi2 : (0:Int) ≤ ((s[k].toNat % 16 : Nat) : Int) ∧ ((s[k].toNat % 16 : Nat) : Int) < 16 := by omega
        have hi3 : (0:Int) ≤ (s[k].toNat : Int) / 16 ∧ (s[k].toNat : Int) / 16 < 16 := by omega
        have hi4 : (0:Int) ≤ (s[k].toNat : Int) % 16 ∧ (s[k].toNat : Int) % 16 < 16 := by omega
        have HL2 : (L ++ (s.extract m k).data.toList).length + 3 ≤ 140737488355328 := by
          have h1 := congrArg List.length hL.out
          have h2 := HP.out
          simp at h1 h2
          simp [ByteArray.size_extract]
          omega
        have hszw := hbel'.size
        go_region_law (refine step_buf_bytes rfl _ _ rfl w.heap.size _ _ rfl (buf_pct hb' _) _ _ _ rfl (pctX s[k]) rfl (pct_cells w' _ _ _ (hex_div _ _) (hex_mod _ _)) HL2 (size_pct (Nat.le_trans hsz hszw) _) ?_; intro v2 w2 hb2 hg2 hbel2)
        all_goals
          clear hg' hg2
          go_wp2_with fail
          go_roundg (s.size - (k + 1))
          case measure => rw [hgk'.out]; omega
          case rel =>
            refine ⟨k + 1, k + 1, L ++ (s.extract m k).data.toList ++ pctX s[k], rfl, by omega, by omega, by simp, by simp, hb2, ?_, fun h => absurd h (by omega), ?_⟩
            · rw [Hid, HT.out, pctL_snoc, pctC_re hU.out, ← hL.out, Lib.extract_data, Nat.sub_self, List.take_zero, List.append_nil]
            · exact ((hB.out.trans hbel').alloc (Nat.le_trans hsz hszw) _).drew.trans hbel2
    · have hks : k = s.size := by omega
      have hsz := hB.out.size
      by_cases hm0 : m = 0
      · have hmz := Lib.hid hm0
        have gz : ((m : Int) == 0) = true := by simp [hm0]
        have hLe := Lib.hid (h0.out hm0)
        have hks' := Lib.hid hks
        clear hks hm0
        go_wp2_with fail
        go_ret
        have h1 := hL.out
        rw [hLe.out, hmz.out, hks'.out, List.take_of_length_le (l := s.data.toList) (by simp)] at h1
        simp at h1
        exact ⟨ret_string (by rw [← h1, List.take_of_length_le (by simp)]), hB.out⟩
      · have gz : ((m : Int) == 0) = false := by simp; omega
        have hks' := Lib.hid hks
        have HP := Lib.hid (pctL_len s.data.toList)
        have hL2 : Hid (L ++ (s.extract m s.size).data.toList = pctL s.data.toList) := by
          have h1 := hL.out
          rw [hks] at h1
          rw [Hid, Lib.extract_data, h1, List.take_of_length_le (by simp)]
        have HLn : L.length + (s.extract m s.size).size ≤ 140737488355328 := by
          have h1 := congrArg List.length hL2.out
          have h2 := HP.out
          simp at h1 h2
          simp [ByteArray.size_extract]
          omega
        clear hks
        go_wp2_with (at_builtin; refine buf_append_str rfl _ _ rfl w.heap.size _ _ rfl hbuf.out _ rfl HLn hsz ?_; intro v' w' hb' hg' hbel'; have HC := buf_string hb')
        go_ret
        exact ⟨ret_string (by rw [← hL2.out, Lib.extract_data]), hB.out.trans hbel'⟩

set_option maxHeartbeats 16000000 in
set_option maxRecDepth 100000 in
theorem queryEscape_calls (s : ByteArray) (w : World) (hs : s.size ≤ 2147483647) :
    Calls Try.prog 101 #[.string s] w fun e w' => e = .returned (.string ⟨(pctL s.data.toList).toArray⟩) ∧ Below w.heap.size w w' := by
  go_enter Try.func101, Try.ntmps101
  go_wp2_with fail
  refine (urlProc_calls s _ hs).mono ?_
  rintro e w1 ⟨rfl, hb⟩
  go_wp2_with fail
  go_ret
  exact ⟨rfl, hb⟩
end Go.Proofs.Ytmgkolcpomaceaa
