/- spec.Escaped. -/
import Derived.Test.YtmgkolcpomaceaaD3
namespace Go.Proofs.Ytmgkolcpomaceaa
open Go.RowKit

def pieceR (r : Int) : List UInt8 :=
  if r = 38 then [38, 97, 109, 112, 59] else if r = 39 then [38, 35, 51, 57, 59] else if r = 60 then [38, 108, 116, 59] else if r = 62 then [38, 103, 116, 59]
  else if r = 34 then [38, 35, 51, 52, 59] else if badR r then [239, 191, 189] else (Utf8.encode r).data.toList
theorem pieceR_bad {r : Int} (h1 : ¬ r = 38) (h2 : ¬ r = 39) (h3 : ¬ r = 60) (h4 : ¬ r = 62) (h5 : ¬ r = 34) (h : badR r = true) : pieceR r = [239, 191, 189] := by
  rw [pieceR, if_neg h1, if_neg h2, if_neg h3, if_neg h4, if_neg h5, if_pos h]
theorem pieceR_other {r : Int} (h1 : ¬ r = 38) (h2 : ¬ r = 39) (h3 : ¬ r = 60) (h4 : ¬ r = 62) (h5 : ¬ r = 34) (h : badR r = false) : pieceR r = (Utf8.encode r).data.toList := by
  rw [pieceR, if_neg h1, if_neg h2, if_neg h3, if_neg h4, if_neg h5, if_neg (by rw [h]; simp)]
theorem pieceR_len (r : Int) : (pieceR r).length ≤ 5 := by
  have := encode_size_le r
  have e : (Utf8.encode r).data.toList.length = (Utf8.encode r).size := by simp
  unfold pieceR
  repeat' split
  all_goals first | (simp; done) | omega
theorem pieces_len (l : List Int) : (l.flatMap pieceR).length ≤ 5 * l.length := by
  induction l with
  | nil => simp
  | cons c l ih => have := pieceR_len c; simp only [List.flatMap_cons, List.length_append, List.length_cons] at ih ⊢; omega

set_option maxHeartbeats 4000000 in
set_option maxRecDepth 100000 in
theorem specEscaped_calls (s : ByteArray) (w : World) (hs : s.size ≤ 2147483647) :
    Calls Try.prog 19 #[.string s] w fun e w' => e = .returned (.string ⟨((runesAt s 0).flatMap pieceR).toArray⟩) ∧ Below w.heap.size w w' := by
  go_enter Try.func19, Try.ntmps19
  go_wp2_with fail
  have HB1 := Lib.hid (show Below w.heap.size w ((w.alloc (.cells #[] 5)).iter s 0) from ((Below.refl _ _).alloc (Nat.le_refl _) _).alloc (by simp) _)
  have HU1 := Lib.hid (show Buf ((w.alloc (.cells #[] 5)).iter s 0) w.heap.size (.slice (some ⟨w.heap.size, 0, none⟩) 0 0) [] from (buf_made w _ (Nat.le_refl _)).alloc _)
  have HI1 := Lib.hid (show ((w.alloc (.cells #[] 5)).iter s 0).heap[w.heap.size + 1]? = some (.stringIter s 0) by have := World.iter_heap (w.alloc (.cells #[] 5)) s 0; simpa using this)
  go_loopg [3] s.size (fun g v wr => ∃ (pos : Nat) (l : List Int), g = s.size - pos ∧ wr.heap[w.heap.size + 1]? = some (.stringIter s pos) ∧ Hid (Buf wr w.heap.size v (l.flatMap pieceR)) ∧ Hid (l ++ runesAt s pos = runesAt s 0) ∧ Hid (Below w.heap.size w wr))
  case atStart => exact ⟨0, [], by simp, HI1, HU1, by simp [Hid], HB1⟩
  case round =>
    obtain ⟨pos, l, rfl, hk, hbuf, hl, hB⟩ := hrel
    by_cases hlt : pos < s.size
    · obtain ⟨wi, r, pos', hnx, hr0, hpos, hrs, hki, hsz, hbel, hbufs⟩ := next_step wr _ s pos hk hlt
      have HK := Lib.hid hki
      have HU := Lib.hid (hbufs _ _ _ hbuf.out)
      have HB := Lib.hid (hB.out.trans (hbel _ (by omega)))
      have HS := Lib.hid (show w.heap.size ≤ wi.heap.size by rw [hsz]; exact hB.out.size)
      have HN := Lib.hid (show (l ++ [r]) ++ runesAt s pos' = runesAt s 0 by rw [← hl.out, hrs]; simp)
      have HF := Lib.hid (show (l ++ [r]).flatMap pieceR = l.flatMap pieceR ++ pieceR r by simp)
      have hlen : (l.flatMap pieceR).length ≤ 5 * 2147483647 := by
        have h1 := runesAt_len s s.size 0 (by simp)
        have h2 : (l ++ runesAt s pos).length = (runesAt s 0).length := by rw [hl.out]
        have h3 := pieces_len l
        rw [List.length_append] at h2
        omega
      have hl5 : (l.flatMap pieceR).length + 5 ≤ 140737488355328 := by omega
      have hl4 : (l.flatMap pieceR).length + 4 ≤ 140737488355328 := by omega
      have hl3 : (l.flatMap pieceR).length + 3 ≤ 140737488355328 := by omega
      have hle : (l.flatMap pieceR).length + (Utf8.encode r).size ≤ 140737488355328 := by have := encode_size_le r; omega
      have HLE := Lib.hid hle
      clear hki hbufs hbel hsz hrs hlen hle
      by_cases h38 : r = 38
      · have g38 : (r == 38) = true := by rw [h38]; rfl
        have HE := Lib.hid (show pieceR r = pieceR 38 by rw [h38])
        clear h38
        go_wp2_with (at_builtin; refine buf_append_str rfl _ _ rfl w.heap.size _ _ rfl HU.out _ rfl hl5 HS.out ?_; intro v' w' hb' hg' hbel')
        go_roundg (s.size - pos')
        case measure => omega
        case rel => exact ⟨pos', l ++ [r], rfl, iter_keep HU.out HK.out hg', by rw [Hid, HF.out, HE.out]; exact hb', HN.out, HB.out.trans hbel'⟩
      have g38 : (r == 38) = false := by rw [beq_eq_false_iff_ne]; exact h38
      have H38 := Lib.hid h38
      clear h38
      by_cases h39 : r = 39
      · have g39 : (r == 39) = true := by rw [h39]; rfl
        have HE := Lib.hid (show pieceR r = pieceR 39 by rw [h39])
        clear h39
        go_wp2_with (at_builtin; refine buf_append_str rfl _ _ rfl w.heap.size _ _ rfl HU.out _ rfl hl5 HS.out ?_; intro v' w' hb' hg' hbel')
        go_roundg (s.size - pos')
        case measure => omega
        case rel => exact ⟨pos', l ++ [r], rfl, iter_keep HU.out HK.out hg', by rw [Hid, HF.out, HE.out]; exact hb', HN.out, HB.out.trans hbel'⟩
      have g39 : (r == 39) = false := by rw [beq_eq_false_iff_ne]; exact h39
      have H39 := Lib.hid h39
      clear h39
      by_cases h60 : r = 60
      · have g60 : (r == 60) = true := by rw [h60]; rfl
        have HE := Lib.hid (show pieceR r = pieceR 60 by rw [h60])
        clear h60
        go_wp2_with (at_builtin; refine buf_append_str rfl _ _ rfl w.heap.size _ _ rfl HU.out _ rfl hl4 HS.out ?_; intro v' w' hb' hg' hbel')
        go_roundg (s.size - pos')
        case measure => omega
        case rel => exact ⟨pos', l ++ [r], rfl, iter_keep HU.out HK.out hg', by rw [Hid, HF.out, HE.out]; exact hb', HN.out, HB.out.trans hbel'⟩
      have g60 : (r == 60) = false := by rw [beq_eq_false_iff_ne]; exact h60
      have H60 := Lib.hid h60
      clear h60
      by_cases h62 : r = 62
      · have g62 : (r == 62) = true := by rw [h62]; rfl
        have HE := Lib.hid (show pieceR r = pieceR 62 by rw [h62])
        clear h62
        go_wp2_with (at_builtin; refine buf_append_str rfl _ _ rfl w.heap.size _ _ rfl HU.out _ rfl hl4 HS.out ?_; intro v' w' hb' hg' hbel')
        go_roundg (s.size - pos')
        case measure => omega
        case rel => exact ⟨pos', l ++ [r], rfl, iter_keep HU.out HK.out hg', by rw [Hid, HF.out, HE.out]; exact hb', HN.out, HB.out.trans hbel'⟩
      have g62 : (r == 62) = false := by rw [beq_eq_false_iff_ne]; exact h62
      have H62 := Lib.hid h62
      clear h62
      by_cases h34 : r = 34
      · have g34 : (r == 34) = true := by rw [h34]; rfl
        have HE := Lib.hid (show pieceR r = pieceR 34 by rw [h34])
        clear h34
        go_wp2_with (at_builtin; refine buf_append_str rfl _ _ rfl w.heap.size _ _ rfl HU.out _ rfl hl5 HS.out ?_; intro v' w' hb' hg' hbel')
        go_roundg (s.size - pos')
        case measure => omega
        case rel => exact ⟨pos', l ++ [r], rfl, iter_keep HU.out HK.out hg', by rw [Hid, HF.out, HE.out]; exact hb', HN.out, HB.out.trans hbel'⟩
      have g34 : (r == 34) = false := by rw [beq_eq_false_iff_ne]; exact h34
      have H34 := Lib.hid h34
      clear h34
      by_cases a0 : r < 9
      · have HP := Lib.hid (pieceR_bad H38.out H39.out H60.out H62.out H34.out (show badR r = true by simp [badR, ctrlR]; omega))
        go_wp2_with (at_builtin; refine buf_append_str rfl _ _ rfl w.heap.size _ _ rfl HU.out _ rfl hl3 HS.out ?_; intro v' w' hb' hg' hbel')
        go_roundg (s.size - pos')
        case measure => omega
        case rel => exact ⟨pos', l ++ [r], rfl, iter_keep HU.out HK.out hg', by rw [Hid, HF.out, HP.out]; exact hb', HN.out, HB.out.trans hbel'⟩
      by_cases a1 : r = 11
      · have b1 : (r == 11) = true := by rw [a1]; rfl
        have HP := Lib.hid (pieceR_bad H38.out H39.out H60.out H62.out H34.out (show badR r = true by rw [a1]; decide))
        clear a1
        go_wp2_with (at_builtin; refine buf_append_str rfl _ _ rfl w.heap.size _ _ rfl HU.out _ rfl hl3 HS.out ?_; intro v' w' hb' hg' hbel')
        go_roundg (s.size - pos')
        case measure => omega
        case rel => exact ⟨pos', l ++ [r], rfl, iter_keep HU.out HK.out hg', by rw [Hid, HF.out, HP.out]; exact hb', HN.out, HB.out.trans hbel'⟩
      have b1 : (r == 11) = false := by rw [beq_eq_false_iff_ne]; exact a1
      by_cases a2 : r < 14
      · cases hn : nonR r
        · have hn' : (bits .and .i32 r 65534 == 65534) = false := hn
          have HP := Lib.hid (pieceR_other H38.out H39.out H60.out H62.out H34.out (show badR r = false by rw [badR, hn]; simp [ctrlR]; omega))
          clear hn
          go_wp2_with (at_builtin; refine buf_append_str rfl _ _ rfl w.heap.size _ _ rfl HU.out _ rfl HLE.out HS.out ?_; intro v' w' hb' hg' hbel')
          go_roundg (s.size - pos')
          case measure => omega
          case rel => exact ⟨pos', l ++ [r], rfl, iter_keep HU.out HK.out hg', by rw [Hid, HF.out, HP.out]; exact hb', HN.out, HB.out.trans hbel'⟩
        · have hn' : (bits .and .i32 r 65534 == 65534) = true := hn
          have HP := Lib.hid (pieceR_bad H38.out H39.out H60.out H62.out H34.out (show badR r = true by rw [badR, hn]; simp))
          clear hn
          go_wp2_with (at_builtin; refine buf_append_str rfl _ _ rfl w.heap.size _ _ rfl HU.out _ rfl hl3 HS.out ?_; intro v' w' hb' hg' hbel')
          go_roundg (s.size - pos')
          case measure => omega
          case rel => exact ⟨pos', l ++ [r], rfl, iter_keep HU.out HK.out hg', by rw [Hid, HF.out, HP.out]; exact hb', HN.out, HB.out.trans hbel'⟩
      by_cases a3 : r < 32
      · have HP := Lib.hid (pieceR_bad H38.out H39.out H60.out H62.out H34.out (show badR r = true by simp [badR, ctrlR]; omega))
        go_wp2_with (at_builtin; refine buf_append_str rfl _ _ rfl w.heap.size _ _ rfl HU.out _ rfl hl3 HS.out ?_; intro v' w' hb' hg' hbel')
        go_roundg (s.size - pos')
        case measure => omega
        case rel => exact ⟨pos', l ++ [r], rfl, iter_keep HU.out HK.out hg', by rw [Hid, HF.out, HP.out]; exact hb', HN.out, HB.out.trans hbel'⟩
      by_cases a4 : r < 127
      · cases hn : nonR r
        · have hn' : (bits .and .i32 r 65534 == 65534) = false := hn
          have HP := Lib.hid (pieceR_other H38.out H39.out H60.out H62.out H34.out (show badR r = false by rw [badR, hn]; simp [ctrlR]; omega))
          clear hn
          go_wp2_with (at_builtin; refine buf_append_str rfl _ _ rfl w.heap.size _ _ rfl HU.out _ rfl HLE.out HS.out ?_; intro v' w' hb' hg' hbel')
          go_roundg (s.size - pos')
          case measure => omega
          case rel => exact ⟨pos', l ++ [r], rfl, iter_keep HU.out HK.out hg', by rw [Hid, HF.out, HP.out]; exact hb', HN.out, HB.out.trans hbel'⟩
        · have hn' : (bits .and .i32 r 65534 == 65534) = true := hn
          have HP := Lib.hid (pieceR_bad H38.out H39.out H60.out H62.out H34.out (show badR r = true by rw [badR, hn]; simp))
          clear hn
          go_wp2_with (at_builtin; refine buf_append_str rfl _ _ rfl w.heap.size _ _ rfl HU.out _ rfl hl3 HS.out ?_; intro v' w' hb' hg' hbel')
          go_roundg (s.size - pos')
          case measure => omega
          case rel => exact ⟨pos', l ++ [r], rfl, iter_keep HU.out HK.out hg', by rw [Hid, HF.out, HP.out]; exact hb', HN.out, HB.out.trans hbel'⟩
      by_cases a5 : r < 160
      · have HP := Lib.hid (pieceR_bad H38.out H39.out H60.out H62.out H34.out (show badR r = true by simp [badR, ctrlR]; omega))
        go_wp2_with (at_builtin; refine buf_append_str rfl _ _ rfl w.heap.size _ _ rfl HU.out _ rfl hl3 HS.out ?_; intro v' w' hb' hg' hbel')
        go_roundg (s.size - pos')
        case measure => omega
        case rel => exact ⟨pos', l ++ [r], rfl, iter_keep HU.out HK.out hg', by rw [Hid, HF.out, HP.out]; exact hb', HN.out, HB.out.trans hbel'⟩
      by_cases a6 : r < 64976
      · cases hn : nonR r
        · have hn' : (bits .and .i32 r 65534 == 65534) = false := hn
          have HP := Lib.hid (pieceR_other H38.out H39.out H60.out H62.out H34.out (show badR r = false by rw [badR, hn]; simp [ctrlR]; omega))
          clear hn
          go_wp2_with (at_builtin; refine buf_append_str rfl _ _ rfl w.heap.size _ _ rfl HU.out _ rfl HLE.out HS.out ?_; intro v' w' hb' hg' hbel')
          go_roundg (s.size - pos')
          case measure => omega
          case rel => exact ⟨pos', l ++ [r], rfl, iter_keep HU.out HK.out hg', by rw [Hid, HF.out, HP.out]; exact hb', HN.out, HB.out.trans hbel'⟩
        · have hn' : (bits .and .i32 r 65534 == 65534) = true := hn
          have HP := Lib.hid (pieceR_bad H38.out H39.out H60.out H62.out H34.out (show badR r = true by rw [badR, hn]; simp))
          clear hn
          go_wp2_with (at_builtin; refine buf_append_str rfl _ _ rfl w.heap.size _ _ rfl HU.out _ rfl hl3 HS.out ?_; intro v' w' hb' hg' hbel')
          go_roundg (s.size - pos')
          case measure => omega
          case rel => exact ⟨pos', l ++ [r], rfl, iter_keep HU.out HK.out hg', by rw [Hid, HF.out, HP.out]; exact hb', HN.out, HB.out.trans hbel'⟩
      by_cases a7 : r ≤ 65007
      · have HP := Lib.hid (pieceR_bad H38.out H39.out H60.out H62.out H34.out (show badR r = true by simp [badR, ctrlR]; omega))
        go_wp2_with (at_builtin; refine buf_append_str rfl _ _ rfl w.heap.size _ _ rfl HU.out _ rfl hl3 HS.out ?_; intro v' w' hb' hg' hbel')
        go_roundg (s.size - pos')
        case measure => omega
        case rel => exact ⟨pos', l ++ [r], rfl, iter_keep HU.out HK.out hg', by rw [Hid, HF.out, HP.out]; exact hb', HN.out, HB.out.trans hbel'⟩
      cases hn : nonR r
      · have hn' : (bits .and .i32 r 65534 == 65534) = false := hn
        have HP := Lib.hid (pieceR_other H38.out H39.out H60.out H62.out H34.out (show badR r = false by rw [badR, hn]; simp [ctrlR]; omega))
        clear hn
        go_wp2_with (at_builtin; refine buf_append_str rfl _ _ rfl w.heap.size _ _ rfl HU.out _ rfl HLE.out HS.out ?_; intro v' w' hb' hg' hbel')
        go_roundg (s.size - pos')
        case measure => omega
        case rel => exact ⟨pos', l ++ [r], rfl, iter_keep HU.out HK.out hg', by rw [Hid, HF.out, HP.out]; exact hb', HN.out, HB.out.trans hbel'⟩
      · have hn' : (bits .and .i32 r 65534 == 65534) = true := hn
        have HP := Lib.hid (pieceR_bad H38.out H39.out H60.out H62.out H34.out (show badR r = true by rw [badR, hn]; simp))
        clear hn
        go_wp2_with (at_builtin; refine buf_append_str rfl _ _ rfl w.heap.size _ _ rfl HU.out _ rfl hl3 HS.out ?_; intro v' w' hb' hg' hbel')
        go_roundg (s.size - pos')
        case measure => omega
        case rel => exact ⟨pos', l ++ [r], rfl, iter_keep HU.out HK.out hg', by rw [Hid, HF.out, HP.out]; exact hb', HN.out, HB.out.trans hbel'⟩
    · have hnx := fun ty => Lib.run_next_end_at (P := Try.prog) wr (w.heap.size + 1) s pos ty hk hlt
      have hcv := buf_string hbuf.out
      have HL := Lib.hid (show l = runesAt s 0 by have := hl.out; rw [runesAt_end s pos hlt] at this; simpa using this)
      go_wp2
      go_ret
      exact ⟨ret_string (by rw [HL.out]), hB.out⟩
end Go.Proofs.Ytmgkolcpomaceaa
