/- FnConstant: the walk. -/
import Derived.Test.YtmgkolcpomaceaaC2
namespace Go.Proofs.Ytmgkolcpomaceaa
open Go.RowKit

theorem constant_ok (s : ByteArray) (w : World) (hs : s.size ≤ 200) (h : styleB s = true) :
    Calls Try.prog 17 #[.string s] w fun x w' => x = .returned (.tuple #[.string s, .bool true]) ∧ Below w.heap.size w w' := by
  have := constant_calls s w (by omega)
  rw [if_pos (by rw [h]; simp [smallB, hs])] at this
  exact this
theorem constant_no (s : ByteArray) (w : World) (hs : s.size ≤ 2147483647) (h : styleB s = false) :
    Calls Try.prog 17 #[.string s] w fun x w' => x = .returned (.tuple #[.string ⟨#[]⟩, .bool false]) ∧ Below w.heap.size w w' := by
  have := constant_calls s w hs
  rw [if_neg (by rw [h]; simp)] at this
  exact this

set_option maxHeartbeats 1000000 in
set_option maxRecDepth 100000 in
theorem fnConstant_any (l : List Pr) (A : Option Addr) (cap : Nat) (n : Int) (hn : 0 ≤ n ∧ n ≤ 255) (w : World) (hA : Hid (PairsAt w A l)) :
    Calls Try.prog 3 #[.slice A l.length cap, .int .u8 n] w fun e w' => e = .returned (.bool true) ∧ Below w.heap.size w w' := by
  cases hf : fitsB l
  · have HF := Lib.hid hf
    clear hf
    go_enter Try.func3, Try.ntmps3
    go_wp2_with fail
    refine (zzFits2_calls l A cap _ hA).mono ?_
    rintro e w1 ⟨rfl, hb⟩
    have hf := HF.out
    go_wp2
    go_ret
    exact ⟨rfl, hb⟩
  · have hlen : l.length ≤ 2147483647 := by simp [fitsB] at hf; exact hf.1
    have HF := Lib.hid hf
    clear hf
    by_cases h20 : 20 < l.length
    · have g1 : decide (20 < (l.length : Int)) = true := by simp; omega
      have g2 : decide (20 < l.length) = true := by simp; omega
      go_enter Try.func3, Try.ntmps3
      go_wp2_with fail
      refine (zzFits2_calls l A cap _ hA).mono ?_
      rintro e w1 ⟨rfl, hb⟩
      have hf := HF.out
      go_wp2
      go_ret
      exact ⟨rfl, hb⟩
    · have g1 : decide (20 < (l.length : Int)) = false := by simp; omega
      have g2 : decide (20 < l.length) = false := by simp; omega
      go_enter Try.func3, Try.ntmps3
      go_wp2_with fail
      refine (zzFits2_calls l A cap _ hA).mono ?_
      rintro e w1 ⟨rfl, hb⟩
      have hf := HF.out
      have HB := Lib.hid hb
      clear hb
      go_wp2
      clear hf
      go_loopw [5, 22] (fun t i wr => ∃ k : Nat, k ≤ l.length ∧ i = .int .i64 k ∧ t = .string (textOf (l.take k)) ∧ Hid ((l.take k).all wordP = true) ∧ Hid (Below w.heap.size w wr)) (fun _ i _ => l.length - (intOf i).toNat)
      case atStart => exact ⟨0, Nat.zero_le _, rfl, rfl, by simp [Hid], HB⟩
      case round =>
        obtain ⟨k, hk, rfl, rfl, ha, hB⟩ := hrel
        by_cases hlt : k < l.length
        · have H := Lib.hid (lall_take_succ (p := wordP) l k hlt)
          have HT := Lib.hid (textOf_take_succ l k hlt)
          have hsz := textOf_size (l.take k) ha.out
          have hl' : (l.take k).length ≤ k := List.length_take_le _ _
          obtain ⟨ad, rfl, hblk, hc, hd⟩ := (hA.out.below hB.out) k hlt
          have hfit : fitB l[k] = true := by have := HF.out; simp only [fitsB, Bool.and_eq_true, List.all_eq_true] at this; exact this.2 _ (List.getElem_mem _)
          have hfit1 : l[k].1.size ≤ 2147483647 ∧ l[k].2.size ≤ 2147483647 := by simpa [fitB] using hfit
          clear hfit
          cases hw : wordB l[k].1 && wordB l[k].2
          · have HW := Lib.hid hw
            clear hw
            go_wp2_with fail
            refine (words_two l[k].1 l[k].2 _ _ _ (by exact strsAt_new _ _ [l[k].1, l[k].2] 9 (by simp)) hfit1.1 hfit1.2).mono ?_
            rintro e w2 ⟨rfl, hb2⟩
            have hw := HW.out
            go_wp2
            go_ret
            exact ⟨rfl, below_then hB.out hB.out.size ((((Below.refl _ _).alloc (Nat.le_refl _) _).alloc (by simp) _).trans (hb2.mono (by simp; omega)))⟩
          · have HW := Lib.hid hw
            clear hw
            go_wp2_with fail
            refine (words_two l[k].1 l[k].2 _ _ _ (by exact strsAt_new _ _ [l[k].1, l[k].2] 9 (by simp)) hfit1.1 hfit1.2).mono ?_
            rintro e w2 ⟨rfl, hb2⟩
            have hw := HW.out
            have hc1 : w2.cell? ⟨wr.heap.size, 0, none⟩ = some (.string l[k].1) := by rw [hb2.cell (by simp; omega)]; simp [go_sem]
            have hc2 : w2.cell? ⟨wr.heap.size, 1, none⟩ = some (.string l[k].2) := by rw [hb2.cell (by simp; omega)]; simp [go_sem]
            have hs1 : l[k].1.size ≤ 10 := by simp only [Bool.and_eq_true] at hw; exact (wordB_size hw.1).2
            have hs2 : l[k].2.size ≤ 10 := by simp only [Bool.and_eq_true] at hw; exact (wordB_size hw.2).2
            have HB2 := Lib.hid hb2
            clear hb2
            go_wp2
            go_roundw
            case rel => exact ⟨k + 1, by omega, by go_num, by rw [HT.out]; rfl, by rw [Hid, H.out, ha.out, wordP, HW.out]; rfl, below_then hB.out hB.out.size ((((Below.refl _ _).alloc (Nat.le_refl _) _).alloc (by simp) _).trans (HB2.out.mono (by simp; omega)))⟩
            case measure => simp [intOf]; omega
        · have hall := lall_of_take l k (by omega) ha.out
          have htake : l.take k = l := List.take_of_length_le (by omega)
          rw [htake]
          obtain ⟨t, ht⟩ : ∃ t, t = textOf l := ⟨_, rfl⟩
          rw [← ht]
          have hsz : t.size ≤ 460 := by rw [ht]; have := textOf_size l hall; omega
          have HT := Lib.hid ht
          have HA := Lib.hid hall
          clear ht hall htake
          by_cases h0 : l.length = 0
          · have g3 : (((l.length : Int)) == 0) = true := by simp [h0]
            go_wp2
            go_ret
            exact ⟨rfl, hB.out⟩
          · have g3 : (((l.length : Int)) == 0) = false := by rw [beq_eq_false_iff_ne]; omega
            by_cases h190 : 190 < t.size
            · have g4 : decide (190 < (t.size : Int)) = true := by simp; omega
              have g5 : decide (190 < t.size) = true := by simp; omega
              go_wp2
              go_ret
              exact ⟨rfl, hB.out⟩
            · have g4 : decide (190 < (t.size : Int)) = false := by simp; omega
              have g5 : decide (190 < t.size) = false := by simp; omega
              have hne : l ≠ [] := by intro he; rw [he] at h0; simp at h0
              have hpos : 2 ≤ t.size := by rw [HT.out]; exact textOf_pos l HA.out hne
              go_wp2_with fail
              refine (constant_ok t _ (by omega) (by rw [HT.out]; exact styleB_text l HA.out hne)).mono ?_
              rintro e w2 ⟨rfl, hb2⟩
              go_wp2_with fail
              refine (constant_no _ _ ?_ ?_).mono ?_
              · rw [ByteArray.size_extract]; omega
              · rw [HT.out]; exact styleB_cut l HA.out hne
              rintro e w3 ⟨rfl, hb3⟩
              have HB2 := Lib.hid (below_then hb2 hb2.size hb3)
              clear hb2 hb3
              rcases (show n % 2 = 0 ∨ n % 2 = 1 from by omega) with hm | hm
              · go_wp2_with fail
                refine (constant_no _ _ ?_ ?_).mono ?_
                · simp only [ByteArray.size_append, ByteArray.size_extract]
                  have e1 : (ByteArray.mk #[97, 58, 32]).size = 3 := rfl
                  have e2 : (ByteArray.mk #[59]).size = 1 := rfl
                  omega
                · exact styleB_angle _ _ _ _ 60 rfl (.inl rfl)
                rintro e w4 ⟨rfl, hb4⟩
                go_wp2
                go_ret
                exact ⟨rfl, below_then hB.out hB.out.size (below_then HB2.out HB2.out.size hb4)⟩
              · go_wp2_with fail
                refine (constant_no _ _ ?_ ?_).mono ?_
                · simp only [ByteArray.size_append, ByteArray.size_extract]
                  have e1 : (ByteArray.mk #[97, 58, 32]).size = 3 := rfl
                  have e2 : (ByteArray.mk #[59]).size = 1 := rfl
                  omega
                · exact styleB_angle _ _ _ _ 62 rfl (.inr rfl)
                rintro e w4 ⟨rfl, hb4⟩
                go_wp2
                go_ret
                exact ⟨rfl, below_then hB.out hB.out.size (below_then HB2.out HB2.out.size hb4)⟩
end Go.Proofs.Ytmgkolcpomaceaa
