/- impl.lines and spec.Lines. -/
import Derived.Test.YtmgkolcpomaceaaK11
import Derived.Test.YtmgkolcpomaceaaH1
namespace Go.Proofs.Ytmgkolcpomaceaa
open Go.RowKit
set_option linter.unusedVariables false
set_option linter.unusedSimpArgs false

def mkB (x : List UInt8) : ByteArray := ⟨x.toArray⟩
def noNl (l : List UInt8) : Bool := l.all fun c => !(c == 10)
def LineSt (s : ByteArray) (k f : Nat) (Ls : List ByteArray) : Prop :=
  (k ≤ s.size ∧ f ≤ k ∧ noNl ((s.data.toList.drop f).take (k - f)) = true ∧ linesB s = Ls ++ (linesL (s.data.toList.drop f)).map mkB) ∨ (k = s.size + 1 ∧ linesB s = Ls)
theorem seg_split (s : ByteArray) (k f : Nat) (h : f ≤ k) : s.data.toList.drop f = (s.data.toList.drop f).take (k - f) ++ s.data.toList.drop k := by
  have h1 := (List.take_append_drop (k - f) (s.data.toList.drop f)).symm
  rw [List.drop_drop, show f + (k - f) = k by omega] at h1
  exact h1
theorem seg_bytes (s : ByteArray) (k f : Nat) : mkB ((s.data.toList.drop f).take (k - f)) = s.extract f k := by
  apply WideShapes.bytes_inj
  rw [Lib.extract_data]; rfl
theorem LineSt.same {s : ByteArray} {k f : Nat} {Ls : List ByteArray} (h : LineSt s k f Ls) (hk : k < s.size) (hc : (s[k] == 10) = false) : LineSt s (k + 1) f Ls := by
  rcases h with ⟨_, hf, hn, hl⟩ | ⟨h, _⟩
  · refine .inl ⟨hk, by omega, ?_, hl⟩
    rw [noNl] at hn ⊢
    rw [drop_take_succ s f k hf hk, List.all_append, hn]
    simp [hc]
  · omega
theorem LineSt.next {s : ByteArray} {k f : Nat} {Ls : List ByteArray} (h : LineSt s k f Ls) (hk : k < s.size) (hc : (s[k] == 10) = true) : LineSt s (k + 1) (k + 1) (Ls ++ [s.extract f k]) := by
  rcases h with ⟨_, hf, hn, hl⟩ | ⟨h, _⟩
  · refine .inl ⟨hk, Nat.le_refl _, by simp [noNl], ?_⟩
    rw [hl, seg_split s k f hf, drop_byte s k hk, beq_iff_eq.1 hc, linesL_seg _ _ hn, List.map_cons, seg_bytes]
    simp
  · omega
theorem LineSt.last {s : ByteArray} {k f : Nat} {Ls : List ByteArray} (h : LineSt s k f Ls) (hk : k = s.size) : LineSt s (k + 1) (k + 1) (Ls ++ [s.extract f k]) := by
  rcases h with ⟨_, hf, hn, hl⟩ | ⟨h, _⟩
  · refine .inr ⟨by omega, ?_⟩
    have h1 := seg_split s k f hf
    rw [hk, List.drop_of_length_le (i := s.size) (by simp), List.append_nil] at h1
    rw [hk] at hn
    rw [hl, h1, linesL_last _ hn, hk]
    simp [seg_bytes]
  · omega
theorem LineSt.le {s : ByteArray} {k f : Nat} {Ls : List ByteArray} (h : LineSt s k f Ls) (hk : k ≤ s.size) : f ≤ k := by
  rcases h with ⟨_, hf, _⟩ | ⟨h, _⟩ <;> omega
theorem sbuf_made (w : World) (B : Nat) (hB : B ≤ w.heap.size) : SBuf (w.alloc (.cells #[] 9)) B 9 (.slice (some ⟨w.heap.size, 0, none⟩) 0 0) [] :=
  ⟨rfl, .inr ⟨w.heap.size, 0, #[], rfl, hB, heap_alloc_new w _, Nat.le_refl _, Nat.zero_le _, rfl, rfl⟩⟩

set_option maxHeartbeats 8000000 in
set_option maxRecDepth 100000 in
theorem implLines_calls (s : ByteArray) (w : World) (hs : s.size ≤ 2147483645) :
    Calls Try.prog 108 #[.string s] w fun e w' => ∃ (A : Option Addr) (cap : Nat), e = .returned (.slice A (linesB s).length cap) ∧ StrsAt w' A (linesB s) ∧ Below w.heap.size w w' := by
  have hst : LineSt s 0 0 [] := .inl ⟨Nat.zero_le _, Nat.le_refl _, by simp [noNl], rfl⟩
  go_enter Try.func108, Try.ntmps108
  go_wp2_with fail
  go_loopg [3, 4, 5] (s.size + 1) (fun gk v fr i wr => ∃ (k f : Nat) (Ls : List ByteArray), gk = s.size + 1 - k ∧ k ≤ s.size + 1 ∧ i = .int .i64 k ∧ fr = .int .i64 f ∧ Ls.length ≤ k ∧ Hid (SBuf wr w.heap.size 9 v Ls) ∧ Hid (LineSt s k f Ls) ∧ Hid (Below w.heap.size w wr))
  case atStart => exact ⟨0, 0, [], rfl, Nat.zero_le _, rfl, rfl, Nat.zero_le _, SBuf.nil _ _ _, hst, Below.refl _ _⟩
  case round =>
    obtain ⟨k, f, Ls, hgk, hk, rfl, rfl, hLs, hbuf, hL, hB⟩ := hrel
    have HG := Lib.hid hgk
    clear hgk hst
    by_cases hle : k ≤ s.size
    · have gle : decide ((k:Int) ≤ (s.size : Int)) = true := by simp; omega
      have hfk := hL.out.le hle
      by_cases hlt : k < s.size
      · have gne : ((k:Int) == (s.size : Int)) = false := by simp; omega
        have hv := u8_beq s[k] 10
        rw [show ((10:UInt8).toNat : Int) = 10 from rfl] at hv
        cases h10 : ((s[k].toNat : Int) == 10) with
        | true =>
          have HN := Lib.hid (hL.out.next hlt (hv.symm.trans h10))
          clear hv
          have HBa := Lib.hid (hB.out.alloc hB.out.size (.cells #[.string (s.extract f k)] 9))
          have HU := Lib.hid (hbuf.out.alloc (.cells #[.string (s.extract f k)] 9))
          have HM := Lib.hid (show (wr.alloc (.cells #[.string (s.extract f k)] 9)).cell? ⟨wr.heap.size, 0, none⟩ = some (.string (s.extract f k)) by simp [go_sem])
          have hlen : Ls.length ≤ 2147483647 := by omega
          go_wp2_with (at_builtin; refine sbuf_append 36 9 (.string ⟨#[]⟩) Try.underlying36 info9 rfl rfl _ _ rfl w.heap.size _ _ rfl HU.out _ _ rfl (s.extract f k) HM.out hlen HBa.out.size ?_; intro v' w' hb' hg' hbel')
          go_roundg (s.size + 1 - (k + 1))
          case measure => rw [HG.out]; omega
          case rel => exact ⟨k + 1, k + 1, Ls ++ [s.extract f k], rfl, by omega, by simp, by simp, by simp; omega, hb', HN, HBa.out.trans hbel'⟩
        | false =>
          have HN := Lib.hid (hL.out.same hlt (hv.symm.trans h10))
          clear hv
          go_wp2_with fail
          go_roundg (s.size + 1 - (k + 1))
          case measure => rw [HG.out]; omega
          case rel => exact ⟨k + 1, f, Ls, rfl, by omega, by simp, rfl, by omega, hbuf, HN, hB⟩
      · have hks : k = s.size := by omega
        have gne : ((k:Int) == (s.size : Int)) = true := by simp; omega
        have HN := Lib.hid (hL.out.last hks)
        clear hks
        have HBa := Lib.hid (hB.out.alloc hB.out.size (.cells #[.string (s.extract f k)] 9))
        have HU := Lib.hid (hbuf.out.alloc (.cells #[.string (s.extract f k)] 9))
        have HM := Lib.hid (show (wr.alloc (.cells #[.string (s.extract f k)] 9)).cell? ⟨wr.heap.size, 0, none⟩ = some (.string (s.extract f k)) by simp [go_sem])
        have hlen : Ls.length ≤ 2147483647 := by omega
        go_wp2_with (at_builtin; refine sbuf_append 36 9 (.string ⟨#[]⟩) Try.underlying36 info9 rfl rfl _ _ rfl w.heap.size _ _ rfl HU.out _ _ rfl (s.extract f k) HM.out hlen HBa.out.size ?_; intro v' w' hb' hg' hbel')
        go_roundg (s.size + 1 - (k + 1))
        case measure => rw [HG.out]; omega
        case rel => exact ⟨k + 1, k + 1, Ls ++ [s.extract f k], rfl, by omega, by simp, by simp, by simp; omega, hb', HN, HBa.out.trans hbel'⟩
    · have gle : decide ((k:Int) ≤ (s.size : Int)) = false := by simp; omega
      have HF := Lib.hid (show linesB s = Ls by
        rcases hL.out with ⟨h, _⟩ | ⟨_, h⟩
        · omega
        · exact h)
      obtain ⟨A, cap, rfl, hA⟩ := hbuf.out.form
      have HA := Lib.hid hA
      clear hA
      go_wp2_with fail
      go_ret
      exact ⟨A, cap, by rw [HF.out]; rfl, by rw [HF.out]; exact HA.out, hB.out⟩

set_option maxHeartbeats 8000000 in
set_option maxRecDepth 100000 in
theorem specLines_calls (s : ByteArray) (w : World) (hs : s.size ≤ 2147483645) :
    Calls Try.prog 111 #[.string s] w fun e w' => ∃ (A : Option Addr) (cap : Nat), e = .returned (.slice A (linesB s).length cap) ∧ StrsAt w' A (linesB s) ∧ Below w.heap.size w w' := by
  have hst : LineSt s 0 0 [] := .inl ⟨Nat.zero_le _, Nat.le_refl _, by simp [noNl], rfl⟩
  go_enter Try.func111, Try.ntmps111
  go_wp2_with fail
  go_loopg [3, 4, 5] (s.size + 1) (fun gk v fr i wr => ∃ (k f : Nat) (Ls : List ByteArray), gk = s.size + 1 - k ∧ k ≤ s.size + 1 ∧ i = .int .i64 k ∧ fr = .int .i64 f ∧ Ls.length ≤ k ∧ Hid (SBuf wr w.heap.size 9 v Ls) ∧ Hid (LineSt s k f Ls) ∧ Hid (Below w.heap.size w wr))
  case atStart => exact ⟨0, 0, [], rfl, Nat.zero_le _, rfl, rfl, Nat.zero_le _, sbuf_made w _ (Nat.le_refl _), hst, (Below.refl _ _).alloc (Nat.le_refl _) _⟩
  case round =>
    obtain ⟨k, f, Ls, hgk, hk, rfl, rfl, hLs, hbuf, hL, hB⟩ := hrel
    have HG := Lib.hid hgk
    clear hgk hst
    by_cases hle : k ≤ s.size
    · have gle : decide ((k:Int) ≤ (s.size : Int)) = true := by simp; omega
      have hfk := hL.out.le hle
      by_cases hlt : k < s.size
      · have gne : ((k:Int) == (s.size : Int)) = false := by simp; omega
        have hv := u8_beq s[k] 10
        rw [show ((10:UInt8).toNat : Int) = 10 from rfl] at hv
        cases h10 : ((s[k].toNat : Int) == 10) with
        | true =>
          have HN := Lib.hid (hL.out.next hlt (hv.symm.trans h10))
          clear hv
          have HBa := Lib.hid (hB.out.alloc hB.out.size (.cells #[.string (s.extract f k)] 9))
          have HU := Lib.hid (hbuf.out.alloc (.cells #[.string (s.extract f k)] 9))
          have HM := Lib.hid (show (wr.alloc (.cells #[.string (s.extract f k)] 9)).cell? ⟨wr.heap.size, 0, none⟩ = some (.string (s.extract f k)) by simp [go_sem])
          have hlen : Ls.length ≤ 2147483647 := by omega
          go_wp2_with (at_builtin; refine sbuf_append 36 9 (.string ⟨#[]⟩) Try.underlying36 info9 rfl rfl _ _ rfl w.heap.size _ _ rfl HU.out _ _ rfl (s.extract f k) HM.out hlen HBa.out.size ?_; intro v' w' hb' hg' hbel')
          go_roundg (s.size + 1 - (k + 1))
          case measure => rw [HG.out]; omega
          case rel => exact ⟨k + 1, k + 1, Ls ++ [s.extract f k], rfl, by omega, by simp, by simp, by simp; omega, hb', HN, HBa.out.trans hbel'⟩
        | false =>
          have HN := Lib.hid (hL.out.same hlt (hv.symm.trans h10))
          clear hv
          go_wp2_with fail
          go_roundg (s.size + 1 - (k + 1))
          case measure => rw [HG.out]; omega
          case rel => exact ⟨k + 1, f, Ls, rfl, by omega, by simp, rfl, by omega, hbuf, HN, hB⟩
      · have hks : k = s.size := by omega
        have gne : ((k:Int) == (s.size : Int)) = true := by simp; omega
        have HN := Lib.hid (hL.out.last hks)
        clear hks
        have HBa := Lib.hid (hB.out.alloc hB.out.size (.cells #[.string (s.extract f k)] 9))
        have HU := Lib.hid (hbuf.out.alloc (.cells #[.string (s.extract f k)] 9))
        have HM := Lib.hid (show (wr.alloc (.cells #[.string (s.extract f k)] 9)).cell? ⟨wr.heap.size, 0, none⟩ = some (.string (s.extract f k)) by simp [go_sem])
        have hlen : Ls.length ≤ 2147483647 := by omega
        go_wp2_with (at_builtin; refine sbuf_append 36 9 (.string ⟨#[]⟩) Try.underlying36 info9 rfl rfl _ _ rfl w.heap.size _ _ rfl HU.out _ _ rfl (s.extract f k) HM.out hlen HBa.out.size ?_; intro v' w' hb' hg' hbel')
        go_roundg (s.size + 1 - (k + 1))
        case measure => rw [HG.out]; omega
        case rel => exact ⟨k + 1, k + 1, Ls ++ [s.extract f k], rfl, by omega, by simp, by simp, by simp; omega, hb', HN, HBa.out.trans hbel'⟩
    · have gle : decide ((k:Int) ≤ (s.size : Int)) = false := by simp; omega
      have HF := Lib.hid (show linesB s = Ls by
        rcases hL.out with ⟨h, _⟩ | ⟨_, h⟩
        · omega
        · exact h)
      obtain ⟨A, cap, rfl, hA⟩ := hbuf.out.form
      have HA := Lib.hid hA
      clear hA
      go_wp2_with fail
      go_ret
      exact ⟨A, cap, by rw [HF.out]; rfl, by rw [HF.out]; exact HA.out, hB.out⟩
end Go.Proofs.Ytmgkolcpomaceaa
