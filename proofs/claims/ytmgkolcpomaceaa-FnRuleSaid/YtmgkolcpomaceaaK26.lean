/- impl.lines: where its lines lie. -/
import Derived.Test.YtmgkolcpomaceaaK12
namespace Go.Proofs.Ytmgkolcpomaceaa
open Go.RowKit
set_option linter.unusedVariables false
set_option linter.unusedSimpArgs false

theorem SBuf.formAt {w : World} {B : Nat} {E : TypeId} {v : Value} {l : List ByteArray} (h : SBuf w B E v l) : ∃ A cap, v = .slice A l.length cap ∧ StrsAt w A l ∧ (∀ ad, A = some ad → B ≤ ad.block) := by
  have h0 := h
  rcases h.2 with ⟨rfl, hn⟩ | ⟨g, cap, cur, rfl, hg, hh, hc, _, hsz, ht⟩
  · obtain rfl := List.eq_nil_of_length_eq_zero hn
    exact ⟨none, 0, rfl, fun k hk => by simp at hk, fun ad h => by cases h⟩
  · obtain ⟨A, cap', e, hA⟩ := h0.form
    injection e with e1 e2 e3
    subst e1
    exact ⟨some ⟨g, 0, none⟩, cap, rfl, hA, fun ad h => by cases h; exact hg⟩

set_option maxHeartbeats 8000000 in
set_option maxRecDepth 100000 in
theorem implLines_own (s : ByteArray) (w : World) (hs : s.size ≤ 2147483645) :
    Calls Try.prog 108 #[.string s] w fun e w' => ∃ (A : Option Addr) (cap : Nat), e = .returned (.slice A (linesB s).length cap) ∧ StrsAt w' A (linesB s) ∧ (∀ ad, A = some ad → w.heap.size ≤ ad.block) ∧ Below w.heap.size w w' := by
  have hst : LineSt s 0 0 [] := .inl ⟨Nat.zero_le _, Nat.le_refl _, by simp [noNl], rfl⟩
  go_enter Try.func108, Try.ntmps108
  go_wp2_with fail
  go_loopg [3, 4, 5] (s.size + 1) (fun gk v fr i wr => ∃ (k f : Nat) (Ls : List ByteArray), gk = s.size + 1 - k ∧ k ≤ s.size + 1 ∧ i = .int .i64 k ∧ fr = .int .i64 f ∧ Ls.length ≤ k ∧ Hid (SBuf wr w.heap.size 9 v Ls) ∧ Hid (LineSt s k f Ls) ∧ Hid (Below w.heap.size w wr))
  case atStart => exact ⟨0, 0, [], rfl, Nat.zero_le _, rfl, rfl, Nat.zero_le _, SBuf.nil _ _ _, hst, Below.refl _ _⟩
  case round =>
    obtain ⟨k, f, Ls, hgk, hk, rfl, rfl, hLs, hbuf, hL, hB⟩ := hrel
    have HG := Lib.hid hgk
    clear hgk hst
    by_cases hle : k ≤ s.size
    · have gle : decide ((k:Int) ≤ (s.size : Int)) = true := by simp; omega
      have hfk := hL.out.le hle
      by_cases hlt : k < s.size
      · have gne : ((k:Int) == (s.size : Int)) = false := by simp; omega
        have hv := u8_beq s[k] 10
        rw [show ((10:UInt8).toNat : Int) = 10 from rfl] at hv
        cases h10 : ((s[k].toNat : Int) == 10) with
        | true =>
          have HN := Lib.hid (hL.out.next hlt (hv.symm.trans h10))
          clear hv
          have HBa := Lib.hid (hB.out.alloc hB.out.size (.cells #[.string (s.extract f k)] 9))
          have HU := Lib.hid (hbuf.out.alloc (.cells #[.string (s.extract f k)] 9))
          have HM := Lib.hid (show (wr.alloc (.cells #[.string (s.extract f k)] 9)).cell? ⟨wr.heap.size, 0, none⟩ = some (.string (s.extract f k)) by simp [go_sem])
          have hlen : Ls.length ≤ 2147483647 := by omega
          go_wp2_with (at_builtin; refine sbuf_append 36 9 (.string ⟨#[]⟩) Try.underlying36 info9 rfl rfl _ _ rfl w.heap.size _ _ rfl HU.out _ _ rfl (s.extract f k) HM.out hlen HBa.out.size ?_; intro v' w' hb' hg' hbel')
          go_roundg (s.size + 1 - (k + 1))
          case measure => rw [HG.out]; omega
          case rel => exact ⟨k + 1, k + 1, Ls ++ [s.extract f k], rfl, by omega, by simp, by simp, by simp; omega, hb', HN, HBa.out.trans hbel'⟩
        | false =>
          have HN := Lib.hid (hL.out.same hlt (hv.symm.trans h10))
          clear hv
          go_wp2_with fail
          go_roundg (s.size + 1 - (k + 1))
          case measure => rw [HG.out]; omega
          case rel => exact ⟨k + 1, f, Ls, rfl, by omega, by simp, rfl, by omega, hbuf, HN, hB⟩
      · have hks : k = s.size := by omega
        have gne : ((k:Int) == (s.size : Int)) = true := by simp; omega
        have HN := Lib.hid (hL.out.last hks)
        clear hks
        have HBa := Lib.hid (hB.out.alloc hB.out.size (.cells #[.string (s.extract f k)] 9))
        have HU := Lib.hid (hbuf.out.alloc (.cells #[.string (s.extract f k)] 9))
        have HM := Lib.hid (show (wr.alloc (.cells #[.string (s.extract f k)] 9)).cell? ⟨wr.heap.size, 0, none⟩ = some (.string (s.extract f k)) by simp [go_sem])
        have hlen : Ls.length ≤ 2147483647 := by omega
        go_wp2_with (at_builtin; refine sbuf_append 36 9 (.string ⟨#[]⟩) Try.underlying36 info9 rfl rfl _ _ rfl w.heap.size _ _ rfl HU.out _ _ rfl (s.extract f k) HM.out hlen HBa.out.size ?_; intro v' w' hb' hg' hbel')
        go_roundg (s.size + 1 - (k + 1))
        case measure => rw [HG.out]; omega
        case rel => exact ⟨k + 1, k + 1, Ls ++ [s.extract f k], rfl, by omega, by simp, by simp, by simp; omega, hb', HN, HBa.out.trans hbel'⟩
    · have gle : decide ((k:Int) ≤ (s.size : Int)) = false := by simp; omega
      have HF := Lib.hid (show linesB s = Ls by
        rcases hL.out with ⟨h, _⟩ | ⟨_, h⟩
        · omega
        · exact h)
      obtain ⟨A, cap, rfl, hA, hAb⟩ := hbuf.out.formAt
      have HA := Lib.hid hA
      have HAb := Lib.hid hAb
      clear hA hAb
      go_wp2_with fail
      go_ret
      exact ⟨A, cap, by rw [HF.out]; rfl, by rw [HF.out]; exact HA.out, HAb.out, hB.out⟩

end Go.Proofs.Ytmgkolcpomaceaa
