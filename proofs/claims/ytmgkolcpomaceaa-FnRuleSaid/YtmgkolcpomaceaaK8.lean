/- cssEscapeString of a text of ASCII. -/
import Derived.Test.YtmgkolcpomaceaaK7
import Derived.Test.YtmgkolcpomaceaaJ2
namespace Go.Proofs.Ytmgkolcpomaceaa
open Go.RowKit
set_option linter.unusedVariables false
set_option linter.unusedSimpArgs false

theorem next_byte (w : World) (k : Nat) (s : ByteArray) (pos : Nat) (hk : w.heap[k]? = some (.stringIter s pos)) (h : pos < s.size) (ha : s[pos].toNat < 128) :
    ∃ (wi : World), (∀ ty, (Instr.next (.pointer (some ⟨k, 0, none⟩)) true ty).run Try.prog w = .ok (.tuple #[.bool true, .int .i64 pos, .int .i32 (s[pos].toNat : Int)]) wi) ∧
      wi.heap[k]? = some (.stringIter s (pos + 1)) ∧ wi.heap.size = w.heap.size ∧ (∀ B, B ≤ k → Below B w wi) ∧ (∀ B v l, Buf w B v l → Buf wi B v l) := by
  have hd := decode_ascii s pos h ha
  have h1 := Lib.run_next_any_at (P := Try.prog) w k s pos
  rw [hd] at h1
  exact ⟨w.iterAt k s (pos + 1), fun ty => h1 ty hk h, Lib.iterAt_heap w k s pos _ hk, Lib.iterAt_size w k s _, fun B hB => Lib.below_iterAt (Below.refl _ _) hB s _, fun B v l hb => hb.iterAt hk _⟩
theorem enc_ascii (c : UInt8) (h : c.toNat < 128) : (Utf8.encode (c.toNat : Int)) = ⟨#[c]⟩ := by
  have h1 : ∀ n : Fin 128, Utf8.encode ((n.val : Nat) : Int) = ⟨#[UInt8.ofNat n.val]⟩ := by decide +kernel
  have h2 := h1 ⟨c.toNat, h⟩
  simpa using h2
theorem ascii_at (s : ByteArray) (h : asciiB s = true) (i : Nat) (hi : i < s.size) : s[i].toNat < 128 := by
  have h2 := List.all_eq_true.1 h _ (getElem_mem_data s i hi)
  simp [asciiC] at h2
  omega

set_option maxHeartbeats 16000000 in
set_option maxRecDepth 100000 in
theorem cssEscape_calls (s : ByteArray) (w : World) (hs : s.size ≤ 2147483647) (hasc : Hid (asciiB s = true)) :
    Calls Try.prog 132 #[.string s] w fun e w' => e = .returned (.string ⟨(quoL s.data.toList).toArray⟩) ∧ Below w.heap.size w w' := by
  have HA := Lib.hid (ascii_at s hasc.out)
  go_enter Try.func132, Try.ntmps132
  go_wp2_with fail
  have HI1 := Lib.hid (World.iter_heap w s 0)
  have HB1 := Lib.hid (show Below w.heap.size w (w.iter s 0) from Below.own w _)
  go_loopg [3] s.size (fun gk v wr => ∃ k : Nat, gk = s.size - k ∧ k ≤ s.size ∧ Hid (wr.heap[w.heap.size]? = some (.stringIter s k)) ∧ Hid (Buf wr w.heap.size v (quoL (s.data.toList.take k))) ∧ Hid (Below w.heap.size w wr))
  case atStart => exact ⟨0, rfl, Nat.zero_le _, HI1, Buf.nil _ _, HB1⟩
  case round =>
    obtain ⟨k, hgk, hk, hit, hbuf, hB⟩ := hrel
    have HG := Lib.hid hgk
    clear hgk
    by_cases hlt : k < s.size
    · obtain ⟨wi, hnx, hki, hsz, hbel, hbufs⟩ := next_byte wr _ s k hit.out hlt (HA.out k hlt)
      have HK := Lib.hid hki
      have HU := Lib.hid (hbufs _ _ _ hbuf.out)
      have HBi := Lib.hid (hB.out.trans (hbel _ (Nat.le_refl _)))
      have HS := Lib.hid (show w.heap.size ≤ wi.heap.size by rw [hsz]; exact hB.out.size)
      clear hki hbel hsz hbufs
      have HT := Lib.hid (show quoL (s.data.toList.take (k + 1)) = quoL (s.data.toList.take k) ++ quoC s[k] by rw [take_succ_byte s k hlt, quoL_snoc])
      have hlen : (quoL (s.data.toList.take k)).length + 7 ≤ 140737488355328 := by
        have h2 := quoL_len (s.data.toList.take k)
        simp at h2
        omega
      have h128 := HA.out k hlt
      have HEnc := Lib.hid (enc_ascii s[k] h128)
      rcases (show (0 ≤ s[k].toNat ∧ s[k].toNat ≤ 0) ∨ (1 ≤ s[k].toNat ∧ s[k].toNat ≤ 31) ∨ (32 ≤ s[k].toNat ∧ s[k].toNat ≤ 33) ∨ (34 ≤ s[k].toNat ∧ s[k].toNat ≤ 34) ∨ (35 ≤ s[k].toNat ∧ s[k].toNat ≤ 59) ∨ (60 ≤ s[k].toNat ∧ s[k].toNat ≤ 60) ∨ (61 ≤ s[k].toNat ∧ s[k].toNat ≤ 91) ∨ (92 ≤ s[k].toNat ∧ s[k].toNat ≤ 92) ∨ (93 ≤ s[k].toNat ∧ s[k].toNat ≤ 126) ∨ (127 ≤ s[k].toNat ∧ s[k].toNat ≤ 127) by omega) with h | h | h | h | h | h | h | h | h | h
      · have H := Lib.hid h
        have e0 : ((s[k].toNat : Int) == 0) = true := by simp; omega
        have e60 : ((s[k].toNat : Int) == 60) = false := by simp; omega
        have e34 : ((s[k].toNat : Int) == 34) = false := by simp; omega
        have e92 : ((s[k].toNat : Int) == 92) = false := by simp; omega
        have e127 : ((s[k].toNat : Int) == 127) = false := by simp; omega
        have e8232 : ((s[k].toNat : Int) == 8232) = false := by simp; omega
        have e8233 : ((s[k].toNat : Int) == 8233) = false := by simp; omega
        have g31 : decide ((s[k].toNat : Int) ≤ 31) = true := by simp; omega
        have g128 : decide (128 ≤ (s[k].toNat : Int)) = false := by simp; omega
        have HQ := Lib.hid (show quoC s[k] = [239, 191, 189] by rw [quoC, if_pos (by rw [beq_iff_eq, ← UInt8.toNat_inj]; exact (by omega : s[k].toNat = 0))])
        have hl3 : (quoL (s.data.toList.take k)).length + 3 ≤ 140737488355328 := by omega
        clear h
        go_wp2_with (at_builtin; refine buf_append_str rfl _ _ rfl w.heap.size _ _ rfl HU.out _ rfl hl3 HS.out ?_; intro v' w' hb' hg' hbel')
        go_roundg (s.size - (k + 1))
        case measure => rw [HG.out]; omega
        case rel => exact ⟨k + 1, rfl, by omega, iter_keep HU.out HK.out hg', by rw [Hid, HT.out, HQ.out]; exact hb', HBi.out.trans hbel'⟩
      · have H := Lib.hid h
        have e0 : ((s[k].toNat : Int) == 0) = false := by simp; omega
        have e60 : ((s[k].toNat : Int) == 60) = false := by simp; omega
        have e34 : ((s[k].toNat : Int) == 34) = false := by simp; omega
        have e92 : ((s[k].toNat : Int) == 92) = false := by simp; omega
        have e127 : ((s[k].toNat : Int) == 127) = false := by simp; omega
        have e8232 : ((s[k].toNat : Int) == 8232) = false := by simp; omega
        have e8233 : ((s[k].toNat : Int) == 8233) = false := by simp; omega
        have g31 : decide ((s[k].toNat : Int) ≤ 31) = true := by simp; omega
        have g128 : decide (128 ≤ (s[k].toNat : Int)) = false := by simp; omega
        have HQ := Lib.hid (show quoC s[k] = cssL s[k].toNat by
          have h0 : (s[k] == 0) = false := by rw [beq_eq_false_iff_ne, ne_eq, ← UInt8.toNat_inj]; exact (by omega : ¬ s[k].toNat = 0)
          have h1 : ctlC s[k] = true := by simp [ctlC, ← UInt8.toNat_inj]; omega
          rw [cssL_eq s[k] h128, quoC, h0, h1]; rfl)
        have hl7 : (quoL (s.data.toList.take k)).length + (ByteArray.mk (cssL s[k].toNat).toArray).size ≤ 140737488355328 := by rw [show (ByteArray.mk (cssL s[k].toNat).toArray).size = 7 from rfl]; omega
        clear h
        go_wp2_with fail
        refine (zzCSS_calls s[k].toNat h128 _).mono ?_
        rintro e w1 ⟨rfl, hb⟩
        have HU1 := Lib.hid (HU.out.below hb)
        have HK1 := Lib.hid ((hb.block w.heap.size (by have := (Array.getElem?_eq_some_iff.1 HK.out).1; exact this)).trans HK.out)
        have HB2 := Lib.hid (below_then HBi.out HBi.out.size hb)
        have HS1 := Lib.hid (Nat.le_trans HS.out hb.size)
        clear hb
        go_wp2_with (at_builtin; refine buf_append_str rfl _ _ rfl w.heap.size _ _ rfl HU1.out _ rfl hl7 HS1.out ?_; intro v' w' hb' hg' hbel')
        go_roundg (s.size - (k + 1))
        case measure => rw [HG.out]; omega
        case rel => exact ⟨k + 1, rfl, by omega, iter_keep HU1.out HK1.out hg', by rw [Hid, HT.out, HQ.out]; exact hb', HB2.out.trans hbel'⟩
      · have H := Lib.hid h
        have e0 : ((s[k].toNat : Int) == 0) = false := by simp; omega
        have e60 : ((s[k].toNat : Int) == 60) = false := by simp; omega
        have e34 : ((s[k].toNat : Int) == 34) = false := by simp; omega
        have e92 : ((s[k].toNat : Int) == 92) = false := by simp; omega
        have e127 : ((s[k].toNat : Int) == 127) = false := by simp; omega
        have e8232 : ((s[k].toNat : Int) == 8232) = false := by simp; omega
        have e8233 : ((s[k].toNat : Int) == 8233) = false := by simp; omega
        have g31 : decide ((s[k].toNat : Int) ≤ 31) = false := by simp; omega
        have g128 : decide (128 ≤ (s[k].toNat : Int)) = false := by simp; omega
        have HQ := Lib.hid (show quoC s[k] = [s[k]] by
          have h0 : (s[k] == 0) = false := by rw [beq_eq_false_iff_ne, ne_eq, ← UInt8.toNat_inj]; exact (by omega : ¬ s[k].toNat = 0)
          have h1 : ctlC s[k] = false := by simp [ctlC, ← UInt8.toNat_inj]; omega
          rw [quoC, h0, h1]; rfl)
        have hl1 : (quoL (s.data.toList.take k)).length + (ByteArray.mk #[s[k]]).size ≤ 140737488355328 := by rw [show (ByteArray.mk #[s[k]]).size = 1 from rfl]; omega
        have henc := HEnc.out
        clear h
        go_wp2_with (at_builtin; refine buf_append_str rfl _ _ rfl w.heap.size _ _ rfl HU.out (ByteArray.mk #[s[k]]) (by first | rfl | (simp [henc])) hl1 HS.out ?_; intro v' w' hb' hg' hbel')
        go_roundg (s.size - (k + 1))
        case measure => rw [HG.out]; omega
        case rel => exact ⟨k + 1, rfl, by omega, iter_keep HU.out HK.out hg', by rw [Hid, HT.out, HQ.out]; exact hb', HBi.out.trans hbel'⟩
      · have H := Lib.hid h
        have e0 : ((s[k].toNat : Int) == 0) = false := by simp; omega
        have e60 : ((s[k].toNat : Int) == 60) = false := by simp; omega
        have e34 : ((s[k].toNat : Int) == 34) = true := by simp; omega
        have e92 : ((s[k].toNat : Int) == 92) = false := by simp; omega
        have e127 : ((s[k].toNat : Int) == 127) = false := by simp; omega
        have e8232 : ((s[k].toNat : Int) == 8232) = false := by simp; omega
        have e8233 : ((s[k].toNat : Int) == 8233) = false := by simp; omega
        have g31 : decide ((s[k].toNat : Int) ≤ 31) = false := by simp; omega
        have g128 : decide (128 ≤ (s[k].toNat : Int)) = false := by simp; omega
        have HQ := Lib.hid (show quoC s[k] = cssL s[k].toNat by
          have h0 : (s[k] == 0) = false := by rw [beq_eq_false_iff_ne, ne_eq, ← UInt8.toNat_inj]; exact (by omega : ¬ s[k].toNat = 0)
          have h1 : ctlC s[k] = true := by simp [ctlC, ← UInt8.toNat_inj]; omega
          rw [cssL_eq s[k] h128, quoC, h0, h1]; rfl)
        have hl7 : (quoL (s.data.toList.take k)).length + (ByteArray.mk (cssL s[k].toNat).toArray).size ≤ 140737488355328 := by rw [show (ByteArray.mk (cssL s[k].toNat).toArray).size = 7 from rfl]; omega
        clear h
        go_wp2_with fail
        refine (zzCSS_calls s[k].toNat h128 _).mono ?_
        rintro e w1 ⟨rfl, hb⟩
        have HU1 := Lib.hid (HU.out.below hb)
        have HK1 := Lib.hid ((hb.block w.heap.size (by have := (Array.getElem?_eq_some_iff.1 HK.out).1; exact this)).trans HK.out)
        have HB2 := Lib.hid (below_then HBi.out HBi.out.size hb)
        have HS1 := Lib.hid (Nat.le_trans HS.out hb.size)
        clear hb
        go_wp2_with (at_builtin; refine buf_append_str rfl _ _ rfl w.heap.size _ _ rfl HU1.out _ rfl hl7 HS1.out ?_; intro v' w' hb' hg' hbel')
        go_roundg (s.size - (k + 1))
        case measure => rw [HG.out]; omega
        case rel => exact ⟨k + 1, rfl, by omega, iter_keep HU1.out HK1.out hg', by rw [Hid, HT.out, HQ.out]; exact hb', HB2.out.trans hbel'⟩
      · have H := Lib.hid h
        have e0 : ((s[k].toNat : Int) == 0) = false := by simp; omega
        have e60 : ((s[k].toNat : Int) == 60) = false := by simp; omega
        have e34 : ((s[k].toNat : Int) == 34) = false := by simp; omega
        have e92 : ((s[k].toNat : Int) == 92) = false := by simp; omega
        have e127 : ((s[k].toNat : Int) == 127) = false := by simp; omega
        have e8232 : ((s[k].toNat : Int) == 8232) = false := by simp; omega
        have e8233 : ((s[k].toNat : Int) == 8233) = false := by simp; omega
        have g31 : decide ((s[k].toNat : Int) ≤ 31) = false := by simp; omega
        have g128 : decide (128 ≤ (s[k].toNat : Int)) = false := by simp; omega
        have HQ := Lib.hid (show quoC s[k] = [s[k]] by
          have h0 : (s[k] == 0) = false := by rw [beq_eq_false_iff_ne, ne_eq, ← UInt8.toNat_inj]; exact (by omega : ¬ s[k].toNat = 0)
          have h1 : ctlC s[k] = false := by simp [ctlC, ← UInt8.toNat_inj]; omega
          rw [quoC, h0, h1]; rfl)
        have hl1 : (quoL (s.data.toList.take k)).length + (ByteArray.mk #[s[k]]).size ≤ 140737488355328 := by rw [show (ByteArray.mk #[s[k]]).size = 1 from rfl]; omega
        have henc := HEnc.out
        clear h
        go_wp2_with (at_builtin; refine buf_append_str rfl _ _ rfl w.heap.size _ _ rfl HU.out (ByteArray.mk #[s[k]]) (by first | rfl | (simp [henc])) hl1 HS.out ?_; intro v' w' hb' hg' hbel')
        go_roundg (s.size - (k + 1))
        case measure => rw [HG.out]; omega
        case rel => exact ⟨k + 1, rfl, by omega, iter_keep HU.out HK.out hg', by rw [Hid, HT.out, HQ.out]; exact hb', HBi.out.trans hbel'⟩
      · have H := Lib.hid h
        have e0 : ((s[k].toNat : Int) == 0) = false := by simp; omega
        have e60 : ((s[k].toNat : Int) == 60) = true := by simp; omega
        have e34 : ((s[k].toNat : Int) == 34) = false := by simp; omega
        have e92 : ((s[k].toNat : Int) == 92) = false := by simp; omega
        have e127 : ((s[k].toNat : Int) == 127) = false := by simp; omega
        have e8232 : ((s[k].toNat : Int) == 8232) = false := by simp; omega
        have e8233 : ((s[k].toNat : Int) == 8233) = false := by simp; omega
        have g31 : decide ((s[k].toNat : Int) ≤ 31) = false := by simp; omega
        have g128 : decide (128 ≤ (s[k].toNat : Int)) = false := by simp; omega
        have HQ := Lib.hid (show quoC s[k] = cssL s[k].toNat by
          have h0 : (s[k] == 0) = false := by rw [beq_eq_false_iff_ne, ne_eq, ← UInt8.toNat_inj]; exact (by omega : ¬ s[k].toNat = 0)
          have h1 : ctlC s[k] = true := by simp [ctlC, ← UInt8.toNat_inj]; omega
          rw [cssL_eq s[k] h128, quoC, h0, h1]; rfl)
        have hl7 : (quoL (s.data.toList.take k)).length + (ByteArray.mk (cssL s[k].toNat).toArray).size ≤ 140737488355328 := by rw [show (ByteArray.mk (cssL s[k].toNat).toArray).size = 7 from rfl]; omega
        clear h
        go_wp2_with fail
        refine (zzCSS_calls s[k].toNat h128 _).mono ?_
        rintro e w1 ⟨rfl, hb⟩
        have HU1 := Lib.hid (HU.out.below hb)
        have HK1 := Lib.hid ((hb.block w.heap.size (by have := (Array.getElem?_eq_some_iff.1 HK.out).1; exact this)).trans HK.out)
        have HB2 := Lib.hid (below_then HBi.out HBi.out.size hb)
        have HS1 := Lib.hid (Nat.le_trans HS.out hb.size)
        clear hb
        go_wp2_with (at_builtin; refine buf_append_str rfl _ _ rfl w.heap.size _ _ rfl HU1.out _ rfl hl7 HS1.out ?_; intro v' w' hb' hg' hbel')
        go_roundg (s.size - (k + 1))
        case measure => rw [HG.out]; omega
        case rel => exact ⟨k + 1, rfl, by omega, iter_keep HU1.out HK1.out hg', by rw [Hid, HT.out, HQ.out]; exact hb', HB2.out.trans hbel'⟩
      · have H := Lib.hid h
        have e0 : ((s[k].toNat : Int) == 0) = false := by simp; omega
        have e60 : ((s[k].toNat : Int) == 60) = false := by simp; omega
        have e34 : ((s[k].toNat : Int) == 34) = false := by simp; omega
        have e92 : ((s[k].toNat : Int) == 92) = false := by simp; omega
        have e127 : ((s[k].toNat : Int) == 127) = false := by simp; omega
        have e8232 : ((s[k].toNat : Int) == 8232) = false := by simp; omega
        have e8233 : ((s[k].toNat : Int) == 8233) = false := by simp; omega
        have g31 : decide ((s[k].toNat : Int) ≤ 31) = false := by simp; omega
        have g128 : decide (128 ≤ (s[k].toNat : Int)) = false := by simp; omega
        have HQ := Lib.hid (show quoC s[k] = [s[k]] by
          have h0 : (s[k] == 0) = false := by rw [beq_eq_false_iff_ne, ne_eq, ← UInt8.toNat_inj]; exact (by omega : ¬ s[k].toNat = 0)
          have h1 : ctlC s[k] = false := by simp [ctlC, ← UInt8.toNat_inj]; omega
          rw [quoC, h0, h1]; rfl)
        have hl1 : (quoL (s.data.toList.take k)).length + (ByteArray.mk #[s[k]]).size ≤ 140737488355328 := by rw [show (ByteArray.mk #[s[k]]).size = 1 from rfl]; omega
        have henc := HEnc.out
        clear h
        go_wp2_with (at_builtin; refine buf_append_str rfl _ _ rfl w.heap.size _ _ rfl HU.out (ByteArray.mk #[s[k]]) (by first | rfl | (simp [henc])) hl1 HS.out ?_; intro v' w' hb' hg' hbel')
        go_roundg (s.size - (k + 1))
        case measure => rw [HG.out]; omega
        case rel => exact ⟨k + 1, rfl, by omega, iter_keep HU.out HK.out hg', by rw [Hid, HT.out, HQ.out]; exact hb', HBi.out.trans hbel'⟩
      · have H := Lib.hid h
        have e0 : ((s[k].toNat : Int) == 0) = false := by simp; omega
        have e60 : ((s[k].toNat : Int) == 60) = false := by simp; omega
        have e34 : ((s[k].toNat : Int) == 34) = false := by simp; omega
        have e92 : ((s[k].toNat : Int) == 92) = true := by simp; omega
        have e127 : ((s[k].toNat : Int) == 127) = false := by simp; omega
        have e8232 : ((s[k].toNat : Int) == 8232) = false := by simp; omega
        have e8233 : ((s[k].toNat : Int) == 8233) = false := by simp; omega
        have g31 : decide ((s[k].toNat : Int) ≤ 31) = false := by simp; omega
        have g128 : decide (128 ≤ (s[k].toNat : Int)) = false := by simp; omega
        have HQ := Lib.hid (show quoC s[k] = cssL s[k].toNat by
          have h0 : (s[k] == 0) = false := by rw [beq_eq_false_iff_ne, ne_eq, ← UInt8.toNat_inj]; exact (by omega : ¬ s[k].toNat = 0)
          have h1 : ctlC s[k] = true := by simp [ctlC, ← UInt8.toNat_inj]; omega
          rw [cssL_eq s[k] h128, quoC, h0, h1]; rfl)
        have hl7 : (quoL (s.data.toList.take k)).length + (ByteArray.mk (cssL s[k].toNat).toArray).size ≤ 140737488355328 := by rw [show (ByteArray.mk (cssL s[k].toNat).toArray).size = 7 from rfl]; omega
        clear h
        go_wp2_with fail
        refine (zzCSS_calls s[k].toNat h128 _).mono ?_
        rintro e w1 ⟨rfl, hb⟩
        have HU1 := Lib.hid (HU.out.below hb)
        have HK1 := Lib.hid ((hb.block w.heap.size (by have := (Array.getElem?_eq_some_iff.1 HK.out).1; exact this)).trans HK.out)
        have HB2 := Lib.hid (below_then HBi.out HBi.out.size hb)
        have HS1 := Lib.hid (Nat.le_trans HS.out hb.size)
        clear hb
        go_wp2_with (at_builtin; refine buf_append_str rfl _ _ rfl w.heap.size _ _ rfl HU1.out _ rfl hl7 HS1.out ?_; intro v' w' hb' hg' hbel')
        go_roundg (s.size - (k + 1))
        case measure => rw [HG.out]; omega
        case rel => exact ⟨k + 1, rfl, by omega, iter_keep HU1.out HK1.out hg', by rw [Hid, HT.out, HQ.out]; exact hb', HB2.out.trans hbel'⟩
      · have H := Lib.hid h
        have e0 : ((s[k].toNat : Int) == 0) = false := by simp; omega
        have e60 : ((s[k].toNat : Int) == 60) = false := by simp; omega
        have e34 : ((s[k].toNat : Int) == 34) = false := by simp; omega
        have e92 : ((s[k].toNat : Int) == 92) = false := by simp; omega
        have e127 : ((s[k].toNat : Int) == 127) = false := by simp; omega
        have e8232 : ((s[k].toNat : Int) == 8232) = false := by simp; omega
        have e8233 : ((s[k].toNat : Int) == 8233) = false := by simp; omega
        have g31 : decide ((s[k].toNat : Int) ≤ 31) = false := by simp; omega
        have g128 : decide (128 ≤ (s[k].toNat : Int)) = false := by simp; omega
        have HQ := Lib.hid (show quoC s[k] = [s[k]] by
          have h0 : (s[k] == 0) = false := by rw [beq_eq_false_iff_ne, ne_eq, ← UInt8.toNat_inj]; exact (by omega : ¬ s[k].toNat = 0)
          have h1 : ctlC s[k] = false := by simp [ctlC, ← UInt8.toNat_inj]; omega
          rw [quoC, h0, h1]; rfl)
        have hl1 : (quoL (s.data.toList.take k)).length + (ByteArray.mk #[s[k]]).size ≤ 140737488355328 := by rw [show (ByteArray.mk #[s[k]]).size = 1 from rfl]; omega
        have henc := HEnc.out
        clear h
        go_wp2_with (at_builtin; refine buf_append_str rfl _ _ rfl w.heap.size _ _ rfl HU.out (ByteArray.mk #[s[k]]) (by first | rfl | (simp [henc])) hl1 HS.out ?_; intro v' w' hb' hg' hbel')
        go_roundg (s.size - (k + 1))
        case measure => rw [HG.out]; omega
        case rel => exact ⟨k + 1, rfl, by omega, iter_keep HU.out HK.out hg', by rw [Hid, HT.out, HQ.out]; exact hb', HBi.out.trans hbel'⟩
      · have H := Lib.hid h
        have e0 : ((s[k].toNat : Int) == 0) = false := by simp; omega
        have e60 : ((s[k].toNat : Int) == 60) = false := by simp; omega
        have e34 : ((s[k].toNat : Int) == 34) = false := by simp; omega
        have e92 : ((s[k].toNat : Int) == 92) = false := by simp; omega
        have e127 : ((s[k].toNat : Int) == 127) = true := by simp; omega
        have e8232 : ((s[k].toNat : Int) == 8232) = false := by simp; omega
        have e8233 : ((s[k].toNat : Int) == 8233) = false := by simp; omega
        have g31 : decide ((s[k].toNat : Int) ≤ 31) = false := by simp; omega
        have g128 : decide (128 ≤ (s[k].toNat : Int)) = false := by simp; omega
        have HQ := Lib.hid (show quoC s[k] = cssL s[k].toNat by
          have h0 : (s[k] == 0) = false := by rw [beq_eq_false_iff_ne, ne_eq, ← UInt8.toNat_inj]; exact (by omega : ¬ s[k].toNat = 0)
          have h1 : ctlC s[k] = true := by simp [ctlC, ← UInt8.toNat_inj]; omega
          rw [cssL_eq s[k] h128, quoC, h0, h1]; rfl)
        have hl7 : (quoL (s.data.toList.take k)).length + (ByteArray.mk (cssL s[k].toNat).toArray).size ≤ 140737488355328 := by rw [show (ByteArray.mk (cssL s[k].toNat).toArray).size = 7 from rfl]; omega
        clear h
        go_wp2_with fail
        refine (zzCSS_calls s[k].toNat h128 _).mono ?_
        rintro e w1 ⟨rfl, hb⟩
        have HU1 := Lib.hid (HU.out.below hb)
        have HK1 := Lib.hid ((hb.block w.heap.size (by have := (Array.getElem?_eq_some_iff.1 HK.out).1; exact this)).trans HK.out)
        have HB2 := Lib.hid (below_then HBi.out HBi.out.size hb)
        have HS1 := Lib.hid (Nat.le_trans HS.out hb.size)
        clear hb
        go_wp2_with (at_builtin; refine buf_append_str rfl _ _ rfl w.heap.size _ _ rfl HU1.out _ rfl hl7 HS1.out ?_; intro v' w' hb' hg' hbel')
        go_roundg (s.size - (k + 1))
        case measure => rw [HG.out]; omega
        case rel => exact ⟨k + 1, rfl, by omega, iter_keep HU1.out HK1.out hg', by rw [Hid, HT.out, HQ.out]; exact hb', HB2.out.trans hbel'⟩
    · have hks : k = s.size := by omega
      have hnx := fun ty => Lib.run_next_end_at (P := Try.prog) wr w.heap.size s k ty hit.out hlt
      have hcv := buf_string hbuf.out
      have HF := Lib.hid (show s.data.toList.take k = s.data.toList by rw [hks, List.take_of_length_le (by simp)])
      clear hks HG
      go_wp2_with fail
      go_ret
      exact ⟨ret_string (by rw [HF.out]), hB.out⟩
end Go.Proofs.Ytmgkolcpomaceaa
