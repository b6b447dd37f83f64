/- decimal.set f60. -/
import Derived.Test.YtlpkdagdfopchaaGreatDoorG12
import Derived.BigRegion
namespace Go.Proofs.YtlpkdagdfopchaaGreatDoor
open Go.RowKit
set_option linter.unusedVariables false
set_option linter.unusedSimpArgs false

/-- Figures and points alone. -/
def FigB (s : ByteArray) : Prop := ∀ (j : Nat) (h : j < s.size), s[j].toNat = 46 ∨ (48 ≤ s[j].toNat ∧ s[j].toNat ≤ 57)
/-- No two points ahead of place n. -/
def OneDot (s : ByteArray) (n : Nat) : Prop := ∀ (i j : Nat) (hi : i < s.size) (hj : j < s.size), i < j → j < n → ¬ (s[i].toNat = 46 ∧ s[j].toNat = 46)
/-- A figure that is not 0, ahead of place n. -/
def NonZ (s : ByteArray) (n : Nat) : Prop := ∃ (j : Nat) (h : j < s.size), j < n ∧ 49 ≤ s[j].toNat
/-- A figure, ahead of place n. -/
def HasFig (s : ByteArray) (n : Nat) : Prop := ∃ (j : Nat) (h : j < s.size), j < n ∧ s[j].toNat ≠ 46
/-- A point, ahead of place n. -/
def HasDot (s : ByteArray) (n : Nat) : Prop := ∃ (j : Nat) (h : j < s.size), j < n ∧ s[j].toNat = 46

/-- What set's loop keeps. -/
structure SetL (w wr : World) (C : Nat) (s : ByteArray) (i nd : Nat) (dp : Int) (sd sg : Bool) (f : Nat → Nat) : Prop where
  dl : DL w wr C f nd dp
  le : nd ≤ i
  dig : IsDig f nd
  first : 1 ≤ nd → 49 ≤ f 0
  lo : -(i : Int) ≤ dp
  hi : dp ≤ i
  sd1 : sd = true → HasDot s i
  sg1 : 1 ≤ nd → sg = true
  nz : NonZ s i → 1 ≤ nd
theorem nonZ_succ {s : ByteArray} {i : Nat} (h : NonZ s (i + 1)) (hi : i < s.size) : NonZ s i ∨ 49 ≤ s[i].toNat := by
  obtain ⟨j, h1, h2, h3⟩ := h
  by_cases e : j = i
  · subst e; exact Or.inr h3
  · exact Or.inl ⟨j, h1, by omega, h3⟩
theorem hasDot_succ {s : ByteArray} {i : Nat} (h : HasDot s i) : HasDot s (i + 1) := by
  obtain ⟨j, h1, h2, h3⟩ := h
  exact ⟨j, h1, by omega, h3⟩

theorem SetL.dot {w wr : World} {C i nd : Nat} {s : ByteArray} {dp : Int} {sg : Bool} {f : Nat → Nat} (h : SetL w wr C s i nd dp false sg f) (hi : i < s.size) (hc : s[i].toNat = 46) :
    SetL w (wr.setCell ⟨C, 801, none⟩ (.int .i64 (nd : Int))) C s (i + 1) nd nd true sg f :=
  ⟨h.dl.setDp _, by have := h.le; omega, h.dig, h.first, by omega, by have := h.le; omega, fun _ => ⟨i, hi, by omega, hc⟩, h.sg1, fun hn => by
    rcases nonZ_succ hn hi with e | e
    · exact h.nz e
    · omega⟩
theorem SetL.zero {w wr : World} {C i : Nat} {s : ByteArray} {dp : Int} {sd sg : Bool} {f : Nat → Nat} (h : SetL w wr C s i 0 dp sd sg f) (hi : i < s.size) (hc : s[i].toNat = 48) :
    SetL w (wr.setCell ⟨C, 801, none⟩ (.int .i64 (dp - 1))) C s (i + 1) 0 (dp - 1) sd true f :=
  ⟨h.dl.setDp _, by omega, h.dig, h.first, by have := h.lo; omega, by have := h.hi; omega, fun e => hasDot_succ (h.sd1 e), fun _ => rfl, fun hn => by
    rcases nonZ_succ hn hi with e | e
    · exact h.nz e
    · omega⟩
theorem SetL.digit {w wr : World} {C i nd : Nat} {s : ByteArray} {dp : Int} {sd sg : Bool} {f : Nat → Nat} (h : SetL w wr C s i nd dp sd sg f) (hi : i < s.size) (hc : 48 ≤ s[i].toNat ∧ s[i].toNat ≤ 57) (hz : 1 ≤ nd ∨ 49 ≤ s[i].toNat) (hn : nd < 800) :
    SetL w ((wr.setCell ⟨C, nd, none⟩ (.int .u8 (s[i].toNat : Int))).setCell ⟨C, 800, none⟩ (.int .i64 ((nd : Int) + 1))) C s (i + 1) (nd + 1) dp sd true (setF f nd s[i].toNat) := by
  refine ⟨⟨(h.dl.dec.setDig nd s[i].toNat hn (by omega)).setNd _, (h.dl.below.setCell (Nat.le_refl _) _).setCell (Nat.le_refl _) _, by rw [setCell_size, setCell_size]; exact h.dl.size⟩, by have := h.le; omega, fun j hj => ?_, fun _ => ?_, by have := h.lo; omega, by have := h.hi; omega, fun e => hasDot_succ (h.sd1 e), fun _ => rfl, fun _ => by omega⟩
  · by_cases e : j = nd
    · subst e; rw [setF_same]; exact hc
    · rw [setF_ne _ _ _ _ e]; exact h.dig j (by omega)
  · rcases Nat.eq_zero_or_pos nd with e | e
    · subst e; rw [setF_same]; omega
    · rw [setF_ne _ _ _ _ (by omega)]; exact h.first e

theorem SetL.drw {w wr : World} {C i nd : Nat} {s : ByteArray} {dp : Int} {sd sg : Bool} {f : Nat → Nat} (h : SetL w wr C s i nd dp sd sg f) : SetL w wr.drew C s i nd dp sd sg f :=
  ⟨⟨⟨h.dl.dec.dig, h.dl.dec.free, h.dl.dec.f256, h.dl.dec.hnd, h.dl.dec.hdp, h.dl.dec.hneg, h.dl.dec.htr⟩, h.dl.below.drew, h.dl.size⟩, h.le, h.dig, h.first, h.lo, h.hi, h.sd1, h.sg1, h.nz⟩

set_option maxHeartbeats 2000000 in
set_option maxRecDepth 100000 in
theorem set_calls (C : Nat) (s : ByteArray) (f : Nat → Nat) (w : World) (hC : C < w.heap.size) (hs1 : 1 ≤ s.size) (hs : s.size ≤ 199) (hF : Hid (FigB s)) (hO : Hid (OneDot s s.size)) (hN : Hid (NonZ s s.size)) (hD : Hid (DecAt w C f (0 : Nat) 0)) :
    Calls Tryz.prog 60 #[.pointer (some ⟨C, 0, none⟩), .string s] w fun e w' => e = .returned (.bool true) ∧ ∃ (f' : Nat → Nat) (nd : Nat) (dp : Int), -199 ≤ dp ∧ dp ≤ 199 ∧ DecOK w' C f' nd dp ∧ Below C w w' ∧ w'.heap.size = w.heap.size := by
  obtain ⟨b1, h802⟩ := hD.out.hneg
  obtain ⟨b2, h803⟩ := hD.out.htr
  have f802 := hD.out.free 802 (by omega)
  have f803 := hD.out.free 803 (by omega)
  have hc0 := hF.out 0 (by omega)
  have g1 : ((s[0].toNat : Int) == 43) = false := by simp; omega
  have g2 : ((s[0].toNat : Int) == 45) = false := by simp; omega
  have HL0 : Hid (SetL w ((w.setCell ⟨C, 802, none⟩ (.bool false)).setCell ⟨C, 803, none⟩ (.bool false)) C s 0 0 0 false false f) := Lib.hid ⟨⟨(hD.out.setNeg false).setTr false, ((Below.refl C w).setCell (Nat.le_refl _) _).setCell (Nat.le_refl _) _, by rw [setCell_size, setCell_size]⟩, by omega, fun j hj => by omega, fun h => by omega, by omega, by omega, fun h => by simp at h, fun h => by omega, fun h => by
    obtain ⟨j, _, h, _⟩ := h
    omega⟩
  have hne : ¬ s = ByteArray.empty := fun e => by subst e; simp at hs1
  go_enter Tryz.func60, Tryz.ntmps60
  go_wp2_with fail
  generalize (w.setCell ⟨C, 802, none⟩ (.bool false)).setCell ⟨C, 803, none⟩ (.bool false) = w0 at HL0 ⊢
  clear h802 h803 f802 f803 g1 g2
  go_loopw [5, 6, 7] (fun s5 s6 s7 wx => ∃ (i nd : Nat) (dp : Int) (sd sg : Bool) (f : Nat → Nat), i ≤ s.size ∧ nd ≤ i ∧ s5 = .int .i64 (i : Int) ∧ s6 = .bool sd ∧ s7 = .bool sg ∧ Hid (SetL w wx C s i nd dp sd sg f)) (fun s5 _ _ _ => s.size - (intOf s5).toNat)
  case atStart => exact ⟨0, 0, 0, false, false, f, by omega, by omega, rfl, rfl, rfl, HL0⟩
  case round =>
    obtain ⟨i, nd, dp, sd, sg, g, hi, hndi, rfl, rfl, rfl, hL⟩ := hrel
    have h800 := hL.out.dl.dec.hnd
    have f800 := hL.out.dl.dec.free 800 (by omega)
    have h801 := hL.out.dl.dec.hdp
    have f801 := hL.out.dl.dec.free 801 (by omega)
    have hlo := hL.out.lo
    have hhi := hL.out.hi
    by_cases hend : i = s.size
    · have hnd1 := hL.out.nz (by rw [hend]; exact hN.out)
      have hsg := hL.out.sg1 hnd1
      subst hsg
      have hend' : ((i : Int) == (s.size : Int)) = true := by simp; omega
      cases sd with
      | true =>
        go_wp2_with fail
        go_ret
        exact ⟨rfl, g, nd, dp, by omega, by omega, ⟨hL.out.dl.dec, hnd1, by omega, hL.out.dig, hL.out.first hnd1⟩, hL.out.dl.below, hL.out.dl.size⟩
      | false =>
        have HD := Lib.hid (hL.out.dl.setDp (nd : Int))
        go_wp2_with fail
        go_ret
        exact ⟨rfl, g, nd, nd, by omega, by omega, ⟨HD.out.dec, hnd1, by omega, hL.out.dig, hL.out.first hnd1⟩, HD.out.below, HD.out.size⟩
    · have hilt : i < s.size := by omega
      have hc := hF.out i hilt
      have t95 : ((s[i].toNat : Int) == 95) = false := by simp; omega
      by_cases h46 : s[i].toNat = 46
      · have t46 : ((s[i].toNat : Int) == 46) = true := by simp; omega
        cases sd with
        | true =>
          exfalso
          obtain ⟨j, j1, j2, j3⟩ := hL.out.sd1 rfl
          exact hO.out j i j1 hilt j2 hilt ⟨j3, h46⟩
        | false =>
          have HS := Lib.hid (hL.out.dot hilt h46)
          go_wp2_with fail
          go_roundw
          case rel => exact ⟨i + 1, nd, nd, true, sg, g, by omega, by omega, rfl, rfl, rfl, HS⟩
          case measure => simp [intOf]; omega
      · have t46 : ((s[i].toNat : Int) == 46) = false := by simp; omega
        have hge : 48 ≤ s[i].toNat := by omega
        have hle : s[i].toNat ≤ 57 := by omega
        by_cases hz : s[i].toNat = 48 ∧ nd = 0
        · obtain ⟨h48, hnd0⟩ := hz
          have t48 : ((s[i].toNat : Int) == 48) = true := by simp; omega
          have tn : ((nd : Int) == 0) = true := by simp; omega
          have HS := Lib.hid ((hnd0 ▸ hL.out : SetL w wr C s i 0 dp sd sg g).zero hilt h48)
          go_wp2_with fail
          go_roundw
          case rel => exact ⟨i + 1, 0, dp - 1, sd, true, g, by omega, by omega, rfl, rfl, rfl, HS⟩
          case measure => simp [intOf]; omega
        · have HS := Lib.hid (hL.out.digit hilt ⟨hge, hle⟩ (by omega) (by omega))
          have hd := hL.out.dl.dec.dig nd (by omega)
          have fd := hL.out.dl.dec.free nd (by omega)
          have hn8 : nd < 800 := by omega
          by_cases h48 : s[i].toNat = 48
          case' pos =>
            have t48 : ((s[i].toNat : Int) == 48) = true := by simp; omega
            have tn : ((nd : Int) == 0) = false := by simp; omega
            rw [h48] at HS
          case' neg =>
            have t48 : ((s[i].toNat : Int) == 48) = false := by simp; omega
          all_goals
            go_wp2_with fail
            go_region
            go_wp2_with fail
            go_roundw
            case rel => exact ⟨i + 1, nd + 1, dp, sd, true, _, by omega, by omega, rfl, rfl, rfl, Lib.hid HS.out.drw⟩
            case measure => simp [intOf]; omega

end Go.Proofs.YtlpkdagdfopchaaGreatDoor
