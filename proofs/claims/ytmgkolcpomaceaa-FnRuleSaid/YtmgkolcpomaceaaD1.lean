/- zzEscape. -/
import Derived.Test.YtmgkolcpomaceaaB4
namespace Go.Proofs.Ytmgkolcpomaceaa
open Go.RowKit

def escC (c : UInt8) : List UInt8 :=
  if c = 38 then [38, 97, 109, 112, 59] else if c = 39 then [38, 35, 51, 57, 59] else if c = 60 then [38, 108, 116, 59] else if c = 62 then [38, 103, 116, 59]
  else if c = 34 then [38, 35, 51, 52, 59] else [c]
def escL (l : List UInt8) : List UInt8 := l.flatMap escC
theorem escC_other {c : UInt8} (h1 : ¬ c = 38) (h2 : ¬ c = 39) (h3 : ¬ c = 60) (h4 : ¬ c = 62) (h5 : ¬ c = 34) : escC c = [c] := by
  rw [escC, if_neg h1, if_neg h2, if_neg h3, if_neg h4, if_neg h5]
theorem escL_snoc (l : List UInt8) (c : UInt8) : escL (l ++ [c]) = escL l ++ escC c := by simp [escL]
theorem escC_len (c : UInt8) : (escC c).length ≤ 5 := by unfold escC; repeat' split
                                                         all_goals simp
theorem escL_len (l : List UInt8) : (escL l).length ≤ 5 * l.length := by
  induction l with
  | nil => simp [escL]
  | cons c l ih => have := escC_len c; simp only [escL, List.flatMap_cons, List.length_append, List.length_cons] at ih ⊢; omega
theorem eq_u8 (c d : UInt8) (h : c = d) : ((c.toNat : Int) == (d.toNat : Int)) = true := by subst h; simp
theorem ne_u8 (c d : UInt8) (h : ¬ c = d) : ((c.toNat : Int) == (d.toNat : Int)) = false := by
  rw [beq_eq_false_iff_ne]; intro e; exact h (UInt8.toNat_inj.1 (by omega))

set_option maxHeartbeats 1000000 in
set_option maxRecDepth 100000 in
theorem zzEscape_calls (s : ByteArray) (w : World) (hs : s.size ≤ 2147483647) :
    Calls Try.prog 121 #[.string s] w fun e w' => e = .returned (.string ⟨(escL s.data.toList).toArray⟩) ∧ Below w.heap.size w w' := by
  go_enter Try.func121, Try.ntmps121
  go_wp2
  go_loopw [3, 4] (fun v i wr => ∃ k : Nat, k ≤ s.size ∧ i = .int .i64 k ∧ Hid (Buf wr w.heap.size v (escL (s.data.toList.take k))) ∧ Hid (Below w.heap.size w wr)) (fun _ i _ => s.size - (intOf i).toNat)
  case atStart => exact ⟨0, Nat.zero_le _, rfl, Buf.nil _ _, Below.refl _ _⟩
  case round =>
    obtain ⟨k, hk, rfl, hbuf, hB⟩ := hrel
    by_cases hlt : k < s.size
    · have H := Lib.hid (take_succ_byte s k hlt)
      have hlen := escL_len (s.data.toList.take k)
      have hlen2 : (s.data.toList.take k).length ≤ k := List.length_take_le _ _
      have hsz := hB.out.size
      have hsz1 : w.heap.size ≤ (wr.alloc (.cells #[.int .u8 (s[k].toNat : Int)] 5)).heap.size := by simp; omega
      have hl5 : (escL (s.data.toList.take k)).length + 5 ≤ 140737488355328 := by omega
      have hl4 : (escL (s.data.toList.take k)).length + 4 ≤ 140737488355328 := by omega
      have hl1 : (escL (s.data.toList.take k)).length + 1 ≤ 140737488355328 := by omega
      have hm1 : ∀ j (hj : j < [s[k]].length), (wr.alloc (.cells #[.int .u8 (s[k].toNat : Int)] 5)).cell? ⟨wr.heap.size, j, none⟩ = some (byteV [s[k]][j]) := by
        intro j hj; simp at hj; subst hj; simp [go_sem, byteV]
      have HS1 := Lib.hid hsz1
      have HM1 := Lib.hid hm1
      clear hsz1 hm1
      have h256 := toNat_lt_256 s[k]
      by_cases h38 : s[k] = 38
      · have g38 : ((s[k].toNat : Int) == 38) = true := eq_u8 _ _ h38
        have HE := Lib.hid h38
        clear h38
        go_wp2_with (at_builtin; refine buf_append_str rfl _ _ rfl w.heap.size _ _ rfl hbuf.out _ rfl hl5 hsz ?_; intro v' w' hb' hg' hbel')
        go_roundw
        case rel => exact ⟨k + 1, by omega, by go_num, by rw [Hid, H.out, escL_snoc, HE.out]; exact hb', hB.out.trans hbel'⟩
        case measure => simp [intOf]; omega
      · have g38 : ((s[k].toNat : Int) == 38) = false := ne_u8 _ _ h38
        have H38 := Lib.hid h38
        clear h38
        by_cases h39 : s[k] = 39
        · have g39 : ((s[k].toNat : Int) == 39) = true := eq_u8 _ _ h39
          have HE := Lib.hid h39
          clear h39
          go_wp2_with (at_builtin; refine buf_append_str rfl _ _ rfl w.heap.size _ _ rfl hbuf.out _ rfl hl5 hsz ?_; intro v' w' hb' hg' hbel')
          go_roundw
          case rel => exact ⟨k + 1, by omega, by go_num, by rw [Hid, H.out, escL_snoc, HE.out]; exact hb', hB.out.trans hbel'⟩
          case measure => simp [intOf]; omega
        · have g39 : ((s[k].toNat : Int) == 39) = false := ne_u8 _ _ h39
          have H39 := Lib.hid h39
          clear h39
          by_cases h60 : s[k] = 60
          · have g60 : ((s[k].toNat : Int) == 60) = true := eq_u8 _ _ h60
            have HE := Lib.hid h60
            clear h60
            go_wp2_with (at_builtin; refine buf_append_str rfl _ _ rfl w.heap.size _ _ rfl hbuf.out _ rfl hl4 hsz ?_; intro v' w' hb' hg' hbel')
            go_roundw
            case rel => exact ⟨k + 1, by omega, by go_num, by rw [Hid, H.out, escL_snoc, HE.out]; exact hb', hB.out.trans hbel'⟩
            case measure => simp [intOf]; omega
          · have g60 : ((s[k].toNat : Int) == 60) = false := ne_u8 _ _ h60
            have H60 := Lib.hid h60
            clear h60
            by_cases h62 : s[k] = 62
            · have g62 : ((s[k].toNat : Int) == 62) = true := eq_u8 _ _ h62
              have HE := Lib.hid h62
              clear h62
              go_wp2_with (at_builtin; refine buf_append_str rfl _ _ rfl w.heap.size _ _ rfl hbuf.out _ rfl hl4 hsz ?_; intro v' w' hb' hg' hbel')
              go_roundw
              case rel => exact ⟨k + 1, by omega, by go_num, by rw [Hid, H.out, escL_snoc, HE.out]; exact hb', hB.out.trans hbel'⟩
              case measure => simp [intOf]; omega
            · have g62 : ((s[k].toNat : Int) == 62) = false := ne_u8 _ _ h62
              have H62 := Lib.hid h62
              clear h62
              by_cases h34 : s[k] = 34
              · have g34 : ((s[k].toNat : Int) == 34) = true := eq_u8 _ _ h34
                have HE := Lib.hid h34
                clear h34
                go_wp2_with (at_builtin; refine buf_append_str rfl _ _ rfl w.heap.size _ _ rfl hbuf.out _ rfl hl5 hsz ?_; intro v' w' hb' hg' hbel')
                go_roundw
                case rel => exact ⟨k + 1, by omega, by go_num, by rw [Hid, H.out, escL_snoc, HE.out]; exact hb', hB.out.trans hbel'⟩
                case measure => simp [intOf]; omega
              · have g34 : ((s[k].toNat : Int) == 34) = false := ne_u8 _ _ h34
                have H34 := Lib.hid h34
                clear h34
                go_wp2_with (at_builtin; refine buf_append_byte rfl _ _ rfl w.heap.size _ _ rfl (hbuf.out.alloc _) _ _ _ rfl [s[k]] rfl HM1.out hl1 HS1.out ?_; intro v' w' hb' hg' hbel')
                go_roundw
                case rel => exact ⟨k + 1, by omega, by go_num, by rw [Hid, H.out, escL_snoc, escC_other H38.out H39.out H60.out H62.out H34.out]; exact hb', (hB.out.alloc hsz _).trans hbel'⟩
                case measure => simp [intOf]; omega
    · have hcv := buf_string hbuf.out
      go_wp2
      go_ret
      exact ⟨ret_string (by rw [List.take_of_length_le (by simp; omega)]), hB.out⟩
end Go.Proofs.Ytmgkolcpomaceaa
