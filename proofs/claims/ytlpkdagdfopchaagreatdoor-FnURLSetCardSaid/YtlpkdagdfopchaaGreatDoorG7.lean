/- leftShift f85. -/
import Derived.Test.YtlpkdagdfopchaaGreatDoorG8
namespace Go.Proofs.YtlpkdagdfopchaaGreatDoor
open Go.RowKit
set_option linter.unusedVariables false
set_option linter.unusedSimpArgs false

/-- The table of the left shifts, below block C. -/
def CheatAt (w : World) (C : Nat) : Prop := ∃ L o cap : Nat, L < C ∧ 9 < C ∧ w.cell? ⟨9, 0, none⟩ = some (.slice (some ⟨L, o, none⟩) 61 cap) ∧
  ∀ k ∈ shifts, w.cell? ⟨L, o + k * 2, none⟩ = some (.int .i64 (cutD k : Int)) ∧ w.cell? ⟨L, o + k * 2 + 1, none⟩ = some (.string (cutB k))
theorem below_cell {C : Nat} {w w' : World} (h : Below C w w') (b o : Nat) (hb : b < C) : w'.cell? ⟨b, o, none⟩ = w.cell? ⟨b, o, none⟩ := by
  simp only [World.cell?, h.block b hb]
theorem CheatAt.below {w w' : World} {C : Nat} (h : CheatAt w C) (hb : Below C w w') : CheatAt w' C := by
  obtain ⟨L, o, cap, h1, h2, h3, h4⟩ := h
  exact ⟨L, o, cap, h1, h2, by rw [below_cell hb 9 0 h2]; exact h3, fun k hk => by rw [below_cell hb L _ h1, below_cell hb L _ h1]; exact h4 k hk⟩

theorem u64_nat (z : Int) (n : Nat) (h : z = n) (hn : n < 18446744073709551616) : IntKind.u64.wrap z = n := by
  subst h
  simp only [IntKind.wrap, IntKind.bits, IntKind.signed]
  simp
  omega
theorem u8_nat (z : Int) (n : Nat) (h : z = n) (hn : n < 256) : IntKind.u8.wrap z = n := by
  subst h
  simp only [IntKind.wrap, IntKind.bits, IntKind.signed]
  simp
  omega

/-- A decimal, and what has become of the world. -/
structure DL (w wr : World) (C : Nat) (f : Nat → Nat) (nd dp : Int) : Prop where
  dec : DecAt wr C f nd dp
  below : Below C w wr
  size : wr.heap.size = w.heap.size
theorem DL.setNd {w wr : World} {C : Nat} {f : Nat → Nat} {nd dp : Int} (h : DL w wr C f nd dp) (x : Int) : DL w (wr.setCell ⟨C, 800, none⟩ (.int .i64 x)) C f x dp :=
  ⟨h.dec.setNd x, h.below.setCell (Nat.le_refl _) _, (setCell_size _ _ _).trans h.size⟩
theorem DL.setDp {w wr : World} {C : Nat} {f : Nat → Nat} {nd dp : Int} (h : DL w wr C f nd dp) (x : Int) : DL w (wr.setCell ⟨C, 801, none⟩ (.int .i64 x)) C f nd x :=
  ⟨h.dec.setDp x, h.below.setCell (Nat.le_refl _) _, (setCell_size _ _ _).trans h.size⟩
theorem DL.drew {w wr : World} {C : Nat} {f : Nat → Nat} {nd dp : Int} (h : DL w wr C f nd dp) (n : Nat) : DL w (wr.drewN n) C f nd dp :=
  ⟨h.dec.drew n, below_drewN h.below n, h.size⟩
theorem DL.lt {w wr : World} {C : Nat} {f : Nat → Nat} {nd dp : Int} (h : DL w wr C f nd dp) (hC : C < w.heap.size) : C < wr.heap.size := by rw [h.size]; exact hC
theorem DL.nat {w wr : World} {C : Nat} {f : Nat → Nat} {nd dp x : Int} (h : DL w wr C f nd dp) (e : nd = x) : DL w wr C f x dp := e ▸ h

/-- Behind trim a decimal is as it should be. -/
theorem trim_ok {w wa wz : World} {C nd2 : Nat} {h : Nat → Nat} {nd dp : Int} (hB : DL w wa C h nd dp) (hp : TrimPost C h nd2 dp wa wz) (h0 : 49 ≤ h 0) (h1 : 1 ≤ nd2) (h8 : nd2 ≤ 800) (hd : IsDig h nd2) :
    ∃ nd', DecOK wz C h nd' dp ∧ Below C w wz ∧ wz.heap.size = w.heap.size := by
  obtain ⟨nd', a, b, c, d, e, g⟩ := hp
  have hn : nd' ≠ 0 := fun z => by
    subst z
    have := g 0 (Nat.le_refl _) (by omega)
    omega
  rw [if_neg hn] at b
  exact ⟨nd', ⟨b, by omega, by omega, fun j hj => hd j (by omega), h0⟩, hB.below.trans c, d.trans hB.size⟩

def LeftPost (C : Nat) (f : Nat → Nat) (nd k : Nat) (dp : Int) (w w' : World) : Prop :=
  ∃ f' nd', DecOK w' C f' nd' (dp + (leftD f nd k : Int)) ∧ Below C w w' ∧ w'.heap.size = w.heap.size ∧ (leftD f nd k = 0 → 48 + (f 0 - 48) * 2 ^ k ≤ f' 0 ∧ f' 0 ≤ 57)

set_option maxHeartbeats 2000000 in
set_option maxRecDepth 100000 in
theorem leftShift_calls (C nd k : Nat) (f : Nat → Nat) (dp : Int) (w : World) (hk : Hid (k ∈ shifts)) (hC : C < w.heap.size) (hT : Hid (CheatAt w C)) (hD : Hid (DecOK w C f nd dp)) (hdp : -10000 ≤ dp ∧ dp ≤ 10000) :
    Calls Tryz.prog 85 #[.pointer (some ⟨C, 0, none⟩), .int .u64 k] w fun e w' => e = .returned (.tuple #[]) ∧ LeftPost C f nd k dp w w' := by
  obtain ⟨L, o0, cap, hL, h9, hT9, hTk⟩ := hT.out
  have hT9 := hT9
  obtain ⟨t0, t1⟩ := hTk k hk.out
  clear hTk
  have hnd : nd ≤ 800 := hD.out.max
  have h1 : 1 ≤ nd := hD.out.one
  have hk53 : k ≤ 53 := by
    have := hk.out
    simp [shifts] at this
    omega
  have h800 := hD.out.dec.hnd
  have f800 := hD.out.dec.free 800 (by omega)
  go_enter Tryz.func85, Tryz.ntmps85
  have hs40 : (cutB k).size ≤ 1000 := by
    have := (cut_facts k hk.out).2.2.2.2.2.2.1
    simp only [cutB, ByteArray.size, List.size_toArray]
    omega
  have hI : (nd : Int) ≤ 800 := by omega
  have hDD : Hid (DecAt w C f nd dp) := Lib.hid hD.out.dec
  go_wp2_with fail
  go_quiet (first | (go_at_call 92; refine Calls.quiet_of (prefix_calls C nd f dp (cutB k) _ hnd hs40 (Lib.hid (hDD.out.drew _)) _)))
  have hD1 := Lib.hid (hDD.out.drew nq)
  have hB1 := Lib.hid (below_drewN (Below.refl C w) nq)
  have hS1 : Hid ((w.drewN nq).heap.size = w.heap.size) := Lib.hid rfl
  have hcd : (cutB k).data.toList = cutL k := by simp [cutB]
  rw [hcd]
  generalize w.drewN nq = w1 at hD1 hB1 hS1 ⊢
  clear h800 f800 t0 t1 hT9
  have hδ : Hid (leftD f nd k = cutD k - (if prefLT f nd 0 (cutL k) = true then 1 else 0)) := Lib.hid rfl
  have hcD := (cut_facts k hk.out).2.2.2.2
  have h800 := hD1.out.hnd
  have f800 := hD1.out.free 800 (by omega)
  have hn0 : carry f nd k nd = 0 := carry_end f nd k
  have hδ16 : leftD f nd k ≤ 16 := by rw [hδ.out]; omega
  by_cases hp : prefLT f nd 0 (cutL k) = true
  case' pos =>
    rw [hp]
    have hd4 : (cutD k : Int) - 1 = (leftD f nd k : Int) := by rw [hδ.out, if_pos hp]; omega
  case' neg =>
    rw [Bool.not_eq_true] at hp
    rw [hp]
    have hd4 : (cutD k : Int) = (leftD f nd k : Int) := by rw [hδ.out, hp]; simp
  all_goals
    go_wp2
    first | rw [hd4] | skip
    generalize hδe : leftD f nd k = δ at *
    have HL0 : Hid (LS1 w w1 C nd δ k dp f nd f) := Lib.hid ⟨hD1.out, hB1.out, hS1.out, fun _ _ => rfl, fun j a b c => by omega, fun a b => by omega⟩
    go_loopw [5, 6, 7] (fun s5 s6 s7 wr => ∃ (r : Nat) (g : Nat → Nat), r ≤ nd ∧ s5 = .int .i64 ((r : Int) - 1) ∧ s6 = .int .i64 ((r : Int) + (δ : Int)) ∧ s7 = .int .u64 (carry f nd k r : Int) ∧ Hid (LS1 w wr C nd δ k dp f r g)) (fun s5 _ _ _ => (intOf s5 + 1).toNat)
    case atStart => exact ⟨nd, f, Nat.le_refl _, rfl, rfl, by rw [hn0]; rfl, HL0⟩
    case round =>
      obtain ⟨r, g, hr, rfl, rfl, rfl, hL⟩ := hrel
      rcases Nat.eq_zero_or_pos r with rfl | hrp
      · have hsd := shift_digits hD.out.dig hk.out h1 hD.out.first
        have hsd' : tv f 0 nd * 2 ^ k < 10 ^ (nd + δ) ∧ 10 ^ (nd + δ) ≤ 10 * (tv f 0 nd * 2 ^ k) := by rw [← hδe]; exact hsd
        have HL2 := Lib.hid (LS2.of1 hL.out hsd'.1 hsd'.2 h1)
        have HF := Lib.hid (hL.out.first rfl)
        have HC0 := Lib.hid (fun hd : δ = 0 => carry0 hD.out.dig hk.out h1 hD.out.first (hδe.trans hd))
        clear hsd hsd'
        go_wp2
        generalize hNC : carry f nd k 0 = NC at HL2 ⊢
        clear hNC
        go_loopw [6, 7] (fun s6 s7 wx => ∃ (n v : Nat) (h : Nat → Nat), v ≤ 16 ∧ s6 = .int .i64 (v : Int) ∧ s7 = .int .u64 (n : Int) ∧ Hid (LS2 w wx C nd δ dp n v h) ∧ Hid (δ = 0 → h = g)) (fun _ s7 _ => (intOf s7).toNat)
        case atStart => exact ⟨NC, δ, g, hδ16, by simp, rfl, HL2, Lib.hid (fun _ => rfl)⟩
        case round =>
          obtain ⟨n, v, h, hv16, rfl, rfl, hL2, hG⟩ := hrel
          rcases Nat.eq_zero_or_pos n with rfl | hnp
          · obtain rfl := hL2.out.zero
            have h800 := hL2.out.dec.hnd
            have f800 := hL2.out.dec.free 800 (by omega)
            have f801 := hL2.out.dec.free 801 (by omega)
            have h801 := hL2.out.dec.hdp
            have h0 : Hid (49 ≤ h 0) := Lib.hid (by
              rcases Nat.eq_zero_or_pos δ with e | e
              · have a := HF.out e
                have b := HC0.out e
                have c := Nat.mul_le_mul (show 1 ≤ f 0 - 48 by have := hD.out.first; omega) (Nat.pow_pos (n := k) (show 0 < 2 by omega))
                rw [hG.out e]
                omega
              · exact hL2.out.first rfl e)
            by_cases hov : nd + δ < 800
            · have HT := Lib.hid ((((DL.mk hL2.out.dec hL2.out.below hL2.out.size).setNd ((nd : Int) + (δ : Int))).setDp (dp + (δ : Int))).nat (Int.natCast_add nd δ).symm)
              have HI : Hid (IsDig h (nd + δ)) := Lib.hid (fun j hj => hL2.out.high j (Nat.zero_le _) (by omega) (by omega))
              have hδe' := Lib.hid hδe
              clear hδe
              go_wp2_with fail
              refine (trim_calls C (nd + δ) h (dp + δ) _ (by omega) (HT.out.lt hC) (Lib.hid HT.out.dec)).mono ?_
              rintro e wz ⟨rfl, hp⟩
              have HZ := Lib.hid (trim_ok HT.out hp h0.out (by omega) (by omega) HI.out)
              clear hp
              go_wp2
              go_returns
              obtain ⟨nd', z1, z2, z3⟩ := HZ.out
              exact ⟨rfl, h, nd', by rw [hδe'.out]; exact z1, z2, z3, fun hd => by
                rw [hδe'.out] at hd
                have a := HF.out hd
                have b := HC0.out hd
                rw [hG.out hd]
                omega⟩
            · have HT := Lib.hid ((((DL.mk hL2.out.dec hL2.out.below hL2.out.size).setNd ((nd : Int) + (δ : Int))).setNd 800).setDp (dp + (δ : Int)))
              have HI : Hid (IsDig h 800) := Lib.hid (fun j hj => hL2.out.high j (Nat.zero_le _) (by omega) (by omega))
              have hδe' := Lib.hid hδe
              clear hδe
              go_wp2_with fail
              refine (trim_calls C 800 h (dp + δ) _ (by omega) (HT.out.lt hC) (Lib.hid HT.out.dec)).mono ?_
              rintro e wz ⟨rfl, hp⟩
              have HZ := Lib.hid (trim_ok HT.out hp h0.out (by omega) (by omega) HI.out)
              clear hp
              go_wp2
              go_returns
              obtain ⟨nd', z1, z2, z3⟩ := HZ.out
              exact ⟨rfl, h, nd', by rw [hδe'.out]; exact z1, z2, z3, fun hd => by
                rw [hδe'.out] at hd
                have a := HF.out hd
                have b := HC0.out hd
                rw [hG.out hd]
                omega⟩
          · obtain ⟨u, rfl⟩ : ∃ u, v = u + 1 := ⟨v - 1, by have := hL2.out.pos hnp; omega⟩
            have hlt := hL2.out.lt
            have h16 : 10 ^ (u + 1) ≤ 10 ^ 16 := Nat.pow_le_pow_right (by omega) hv16
            have hX : n < 18446744073709551616 := by
              have : (10 : Nat) ^ 16 = 10000000000000000 := by decide
              omega
            clear hlt h16
            obtain ⟨N1, hN1⟩ : ∃ N, N = n / 10 := ⟨_, rfl⟩
            obtain ⟨R, hR⟩ : ∃ R, R = n % 10 := ⟨_, rfl⟩
            have e3 : IntKind.u64.wrap ((n : Int) / 10) = (N1 : Int) := u64_nat _ _ (by omega) (by omega)
            have e4 : IntKind.u64.wrap (10 * (N1 : Int)) = ((10 * N1 : Nat) : Int) := u64_nat _ _ (by omega) (by omega)
            have e5 : IntKind.u64.wrap ((n : Int) - 10 * (N1 : Int)) = (R : Int) := u64_nat _ _ (by omega) (by omega)
            have e7 : (48 + (R : Int)) % 256 = 48 + (R : Int) := by omega
            have e8 : IntKind.u64.wrap ((R : Int) + 48) = 48 + (R : Int) := u64_nat _ (48 + R) (by omega) (by omega)
            have hm : Hid (N1 < n) := Lib.hid (by omega)
            have HP : Hid (LS2 w (wr.setCell ⟨C, u, none⟩ (.int .u8 (48 + (R : Int)))) C nd δ dp N1 u (setF h u (48 + n % 10))) := Lib.hid (by
              have := hL2.out.put hδ16
              rw [← hN1, ← hR] at this
              rw [← hR]
              exact this)
            have hu : u < δ := by have := hL2.out.hv; omega
            have fu := hL2.out.dec.free u (by omega)
            have hdu := hL2.out.dec.dig u (by omega)
            rw [show ((u + 1 : Nat) : Int) = (u : Int) + 1 from by omega]
            clear hN1 hR
            go_wp2
            go_roundw
            case rel => exact ⟨N1, u, _, by omega, rfl, rfl, HP.out, fun hd => by omega⟩
            case measure => simp [intOf]; exact hm.out
      · obtain ⟨q, rfl⟩ : ∃ q, r = q + 1 := ⟨r - 1, by omega⟩
        rw [show ((q + 1 : Nat) : Int) - 1 = (q : Int) from by omega, show ((q + 1 : Nat) : Int) + (δ : Int) = (q : Int) + (δ : Int) + 1 from by omega]
        have hc0 : carry f nd k (q + 1) < 2 ^ k := carry_lt hD.out.dig (by omega)
        have hg : g q = f q := hL.out.low q (by omega)
        have hdg := hD.out.dig q (by omega)
        have hd := hL.out.dec.dig q (by omega)
        have fd := hL.out.dec.free q (by omega)
        rw [hg] at hd
        obtain ⟨Y, hY⟩ : ∃ Y, Y = (f q - 48) * 2 ^ k := ⟨_, rfl⟩
        obtain ⟨X, hX⟩ : ∃ X, X = carryX f nd k q := ⟨_, rfl⟩
        obtain ⟨N0, hN0⟩ : ∃ N, N = carry f nd k (q + 1) := ⟨_, rfl⟩
        obtain ⟨N1, hN1⟩ : ∃ N, N = carry f nd k q := ⟨_, rfl⟩
        obtain ⟨R, hR⟩ : ∃ R, R = X % 10 := ⟨_, rfl⟩
        have hXY : X = N0 + Y := by rw [hX, hY, hN0]; rfl
        have hXN : X / 10 = N1 := by rw [hX, hN1]; exact carryX_div f nd k q (by omega)
        rw [← hN0] at hc0
        rw [← hN0]
        have h53 : 2 ^ k ≤ 2 ^ 53 := Nat.pow_le_pow_right (by omega) hk53
        have hYb : Y ≤ 9 * 2 ^ k := by rw [hY]; exact Nat.mul_le_mul_right _ (by omega)
        have hYi : ((f q : Int) - 48) * 2 ^ k = (Y : Int) := by
          rw [hY, Int.natCast_mul, Int.natCast_pow, show ((f q - 48 : Nat) : Int) = (f q : Int) - 48 from by omega]; rfl
        have e1 : IntKind.u64.wrap (((f q : Int) - 48) * 2 ^ k) = (Y : Int) := u64_nat _ _ hYi (by omega)
        have e2 : IntKind.u64.wrap ((N0 : Int) + (Y : Int)) = (X : Int) := u64_nat _ _ (by omega) (by omega)
        have e3 : IntKind.u64.wrap ((X : Int) / 10) = (N1 : Int) := u64_nat _ _ (by omega) (by omega)
        have e4 : IntKind.u64.wrap (10 * (N1 : Int)) = ((10 * N1 : Nat) : Int) := u64_nat _ _ (by omega) (by omega)
        have e5 : IntKind.u64.wrap ((X : Int) - 10 * (N1 : Int)) = (R : Int) := u64_nat _ _ (by omega) (by omega)
        have e6 : IntKind.u64.wrap ((R : Int) + 48) = ((48 + R : Nat) : Int) := u64_nat _ _ (by omega) (by omega)
        have e7 : (48 + (R : Int)) % 256 = 48 + (R : Int) := by omega
        have e8 : IntKind.u64.wrap ((R : Int) + 48) = 48 + (R : Int) := u64_nat _ (48 + R) (by omega) (by omega)
        have hRX : Hid (48 + carryX f nd k q % 10 = 48 + R) := Lib.hid (by rw [hR, hX])
        have hNX : Hid (carry f nd k q = N1) := Lib.hid hN1.symm
        have hR9 : R < 10 := by omega
        clear hYi hY hN0 hN1 hXY hXN hX hR e6
        by_cases hw : q + δ < 800
        · have fw := hL.out.dec.free (q + δ) (by omega)
          have hdw := hL.out.dec.dig (q + δ) (by omega)
          go_wp2
          go_roundw
          case rel => exact ⟨q, setF g (q + δ) (48 + carryX f nd k q % 10), by omega, rfl, rfl, by rw [hNX.out], by
            have := hL.out.put hw
            rw [hRX.out] at this ⊢
            exact this⟩
          case measure => simp [intOf]
        · by_cases hz : R = 0
          · subst hz
            go_wp2
            go_roundw
            case rel => exact ⟨q, g, by omega, rfl, rfl, by rw [hNX.out], hL.out.noput hw hnd (by omega)⟩
            case measure => simp [intOf]
          · have f3 := hL.out.dec.free 803 (by omega)
            obtain ⟨btr, h3⟩ := hL.out.dec.htr
            go_wp2
            go_roundw
            case rel => exact ⟨q, g, by omega, rfl, rfl, by rw [hNX.out], (hL.out.noput hw hnd (by omega)).trunc true⟩
            case measure => simp [intOf]

end Go.Proofs.YtlpkdagdfopchaaGreatDoor
