/- A decimal in memory; trim f93, prefixIsLessThan f92. -/
import Derived.Test.YtlpkdagdfopchaaGreatDoorG1
namespace Go.Proofs.YtlpkdagdfopchaaGreatDoor
open Go.RowKit
set_option linter.unusedVariables false
set_option linter.unusedSimpArgs false

/-- Block C holds a decimal: its digits' cells f, how many there are, where the point is. -/
structure DecAt (w : World) (C : Nat) (f : Nat → Nat) (nd dp : Int) : Prop where
  dig : ∀ j, j < 800 → w.cell? ⟨C, j, none⟩ = some (.int .u8 (f j : Int))
  free : ∀ j, j < 804 → w.frozen? ⟨C, j, none⟩ = false
  f256 : ∀ j, f j < 256
  hnd : w.cell? ⟨C, 800, none⟩ = some (.int .i64 nd)
  hdp : w.cell? ⟨C, 801, none⟩ = some (.int .i64 dp)
  hneg : ∃ b, w.cell? ⟨C, 802, none⟩ = some (.bool b)
  htr : ∃ b, w.cell? ⟨C, 803, none⟩ = some (.bool b)

def setF (f : Nat → Nat) (i x : Nat) : Nat → Nat := fun j => if j = i then x else f j
theorem setF_same (f : Nat → Nat) (i x : Nat) : setF f i x i = x := by simp [setF]
theorem setF_ne (f : Nat → Nat) (i x j : Nat) (h : j ≠ i) : setF f i x j = f j := by simp [setF, h]

theorem cell_other {w : World} {C i j : Nat} {v u : Value} (h : w.cell? ⟨C, j, none⟩ = some u) (hne : j ≠ i) : (w.setCell ⟨C, i, none⟩ v).cell? ⟨C, j, none⟩ = some u := by
  rw [World.cell?_setCell_other _ _ _ _ (by intro e1; injection e1 with _ e2; exact hne e2.symm), h]

theorem DecAt.setDig {w : World} {C : Nat} {f : Nat → Nat} {nd dp : Int} (h : DecAt w C f nd dp) (i x : Nat) (hi : i < 800) (hx : x < 256) : DecAt (w.setCell ⟨C, i, none⟩ (.int .u8 (x : Int))) C (setF f i x) nd dp := by
  refine ⟨fun j hj => ?_, fun j hj => by simpa [go_sem] using h.free j hj, fun j => ?_, cell_other h.hnd (by omega), cell_other h.hdp (by omega), ?_, ?_⟩
  · by_cases e : j = i
    · subst e
      rw [World.cell?_setCell_same (h := h.dig j hj), setF_same]
    · rw [setF_ne _ _ _ _ e]
      exact cell_other (h.dig j hj) e
  · unfold setF; split
    · exact hx
    · exact h.f256 j
  · obtain ⟨b, hb⟩ := h.hneg
    exact ⟨b, cell_other hb (by omega)⟩
  · obtain ⟨b, hb⟩ := h.htr
    exact ⟨b, cell_other hb (by omega)⟩
theorem DecAt.setNd {w : World} {C : Nat} {f : Nat → Nat} {nd dp : Int} (h : DecAt w C f nd dp) (x : Int) : DecAt (w.setCell ⟨C, 800, none⟩ (.int .i64 x)) C f x dp := by
  obtain ⟨b, hb⟩ := h.hneg
  obtain ⟨b', hb'⟩ := h.htr
  exact ⟨fun j hj => cell_other (h.dig j hj) (by omega), fun j hj => by simpa [go_sem] using h.free j hj, h.f256, World.cell?_setCell_same _ _ _ h.hnd, cell_other h.hdp (by omega), ⟨b, cell_other hb (by omega)⟩, ⟨b', cell_other hb' (by omega)⟩⟩
theorem DecAt.setDp {w : World} {C : Nat} {f : Nat → Nat} {nd dp : Int} (h : DecAt w C f nd dp) (x : Int) : DecAt (w.setCell ⟨C, 801, none⟩ (.int .i64 x)) C f nd x := by
  obtain ⟨b, hb⟩ := h.hneg
  obtain ⟨b', hb'⟩ := h.htr
  exact ⟨fun j hj => cell_other (h.dig j hj) (by omega), fun j hj => by simpa [go_sem] using h.free j hj, h.f256, cell_other h.hnd (by omega), World.cell?_setCell_same _ _ _ h.hdp, ⟨b, cell_other hb (by omega)⟩, ⟨b', cell_other hb' (by omega)⟩⟩
theorem DecAt.setTr {w : World} {C : Nat} {f : Nat → Nat} {nd dp : Int} (h : DecAt w C f nd dp) (x : Bool) : DecAt (w.setCell ⟨C, 803, none⟩ (.bool x)) C f nd dp := by
  obtain ⟨b, hb⟩ := h.hneg
  obtain ⟨b', hb'⟩ := h.htr
  exact ⟨fun j hj => cell_other (h.dig j hj) (by omega), fun j hj => by simpa [go_sem] using h.free j hj, h.f256, cell_other h.hnd (by omega), cell_other h.hdp (by omega), ⟨b, cell_other hb (by omega)⟩, ⟨x, World.cell?_setCell_same _ _ _ hb'⟩⟩
theorem DecAt.setNeg {w : World} {C : Nat} {f : Nat → Nat} {nd dp : Int} (h : DecAt w C f nd dp) (x : Bool) : DecAt (w.setCell ⟨C, 802, none⟩ (.bool x)) C f nd dp := by
  obtain ⟨b, hb⟩ := h.hneg
  obtain ⟨b', hb'⟩ := h.htr
  exact ⟨fun j hj => cell_other (h.dig j hj) (by omega), fun j hj => by simpa [go_sem] using h.free j hj, h.f256, cell_other h.hnd (by omega), cell_other h.hdp (by omega), ⟨x, World.cell?_setCell_same _ _ _ hb⟩, ⟨b', cell_other hb' (by omega)⟩⟩

theorem DecAt.drew {w : World} {C : Nat} {f : Nat → Nat} {nd dp : Int} (h : DecAt w C f nd dp) (n : Nat) : DecAt (w.drewN n) C f nd dp := ⟨h.dig, h.free, h.f256, h.hnd, h.hdp, h.hneg, h.htr⟩
theorem drewN_size (w : World) (n : Nat) : (w.drewN n).heap.size = w.heap.size := rfl
theorem setCell_size (w : World) (a : Addr) (v : Value) : (w.setCell a v).heap.size = w.heap.size := by simp [World.setCell]
def cellInt (w : World) (C i : Nat) : Nat := match w.cell? ⟨C, i, none⟩ with
  | some (.int _ x) => x.toNat
  | _ => 0

/-- What trim leaves. -/
def TrimPost (C : Nat) (f : Nat → Nat) (nd : Nat) (dp : Int) (w w' : World) : Prop :=
  ∃ nd' : Nat, nd' ≤ nd ∧ DecAt w' C f nd' (if nd' = 0 then 0 else dp) ∧ Below C w w' ∧ w'.heap.size = w.heap.size ∧ (0 < nd' → f (nd' - 1) ≠ 48) ∧ ∀ j, nd' ≤ j → j < nd → f j = 48

set_option maxHeartbeats 1000000 in
set_option maxRecDepth 100000 in
theorem trim_calls (C nd : Nat) (f : Nat → Nat) (dp : Int) (w : World) (hnd : nd ≤ 800) (hC : C < w.heap.size) (hD : Hid (DecAt w C f nd dp)) :
    Calls Tryz.prog 93 #[.pointer (some ⟨C, 0, none⟩)] w fun e w' => e = .returned (.tuple #[]) ∧ TrimPost C f nd dp w w' := by
  have HB0 := Lib.hid (Below.refl C w)
  have HS0 : Hid (w.heap.size = w.heap.size) := Lib.hid rfl
  go_enter Tryz.func93, Tryz.ntmps93
  go_wp2
  go_loopw [] (fun wr => ∃ k : Nat, k ≤ nd ∧ Hid (DecAt wr C f k dp) ∧ Hid (Below C w wr) ∧ Hid (wr.heap.size = w.heap.size) ∧ Hid (∀ j, k ≤ j → j < nd → f j = 48)) (fun wr => cellInt wr C 800)
  case atStart => exact ⟨nd, Nat.le_refl _, hD, HB0, Lib.hid rfl, Lib.hid (fun j h1 h2 => by omega)⟩
  case round =>
    obtain ⟨k, hk, hL, hB, hS, hZ⟩ := hrel
    have h800 := hL.out.hnd
    have f800 := hL.out.free 800 (by omega)
    have h801 := hL.out.hdp
    have f801 := hL.out.free 801 (by omega)
    by_cases h0 : k = 0
    · subst h0
      have g0 : decide ((0 : Int) < ((0 : Nat) : Int)) = false := by simp
      go_wp2_with fail
      go_quiet (fail)
      have hL' := Lib.hid (hL.out.drew nq)
      have hB' := Lib.hid (below_drewN hB.out nq)
      have hS' := Lib.hid (show (wr.drewN nq).heap.size = w.heap.size from hS.out)
      generalize wr.drewN nq = wq at hL' hB' hS' ⊢
      clear hL hB hS h800 f800 h801 f801
      have h800 := hL'.out.hnd
      have f800 := hL'.out.free 800 (by omega)
      have h801 := hL'.out.hdp
      have f801 := hL'.out.free 801 (by omega)
      go_wp2
      go_returns
      exact ⟨rfl, 0, Nat.zero_le _, by simpa using hL'.out.setDp 0, hB'.out.setCell (Nat.le_refl _) _, (setCell_size _ _ _).trans hS'.out, fun h => absurd h (by omega), fun j h1 h2 => hZ.out j h1 h2⟩
    · have g0 : decide (0 < k) = true := by simp; omega
      have g1 : decide (k = 0) = false := by simp; omega
      have hd := hL.out.dig (k - 1) (by omega)
      have fd := hL.out.free (k - 1) (by omega)
      have hk1 : ((k : Int) - 1).toNat = k - 1 := by omega
      by_cases h48 : f (k - 1) = 48
      · have e48 : ((f (k - 1) : Int) == 48) = true := by simp; omega
        go_wp2_with fail
        go_quiet (fail)
        have hL' := Lib.hid (hL.out.drew nq)
        have hB' := Lib.hid (below_drewN hB.out nq)
        have hS' := Lib.hid (show (wr.drewN nq).heap.size = w.heap.size from hS.out)
        have hC' : Hid (cellInt (wr.drewN nq) C 800 = k) := Lib.hid (by simp [cellInt, hL'.out.hnd])
        have hM : Hid (cellInt wr C 800 = k) := Lib.hid (by simp [cellInt, hL.out.hnd])
        generalize wr.drewN nq = wq at hL' hB' hS' hC' ⊢
        clear h800 f800 h801 f801 hd fd
        have h800 := hL'.out.hnd
        have f800 := hL'.out.free 800 (by omega)
        go_wp2
        go_roundw
        case rel => exact ⟨k - 1, by omega, by rw [show ((k - 1 : Nat) : Int) = (k : Int) - 1 from by omega]; exact hL'.out.setNd _, hB'.out.setCell (Nat.le_refl _) _, (setCell_size _ _ _).trans hS'.out, fun j h1 h2 => by
          by_cases e : j = k - 1
          · rw [e]; exact h48
          · exact hZ.out j (by omega) h2⟩
        case measure => rw [hM.out]; simp [cellInt, World.cell?_setCell_same _ _ _ h800]; omega
      · have e48 : ((f (k - 1) : Int) == 48) = false := by simp; omega
        go_wp2_with fail
        go_quiet (fail)
        have hL' := Lib.hid (hL.out.drew nq)
        have hB' := Lib.hid (below_drewN hB.out nq)
        have hS' := Lib.hid (show (wr.drewN nq).heap.size = w.heap.size from hS.out)
        generalize wr.drewN nq = wq at hL' hB' hS' ⊢
        clear h800 f800 h801 f801 hd fd
        have h800 := hL'.out.hnd
        have f800 := hL'.out.free 800 (by omega)
        go_wp2
        go_returns
        exact ⟨rfl, k, hk, by rw [if_neg h0]; exact hL'.out, hB'.out, hS'.out, fun _ => h48, fun j h1 h2 => hZ.out j h1 h2⟩

end Go.Proofs.YtlpkdagdfopchaaGreatDoor
