/- rightShift f86. -/
import Derived.Test.YtlpkdagdfopchaaGreatDoorG7
namespace Go.Proofs.YtlpkdagdfopchaaGreatDoor
open Go.RowKit
set_option linter.unusedVariables false
set_option linter.unusedSimpArgs false

theorem r1_le {f : Nat → Nat} {nd r k : Nat} (h1 : 1 ≤ nd) (h0 : 49 ≤ f 0) (hk : k ≤ 27) (hr : r = 0 ∨ hv f nd (r - 1) < 2 ^ k) : r ≤ 10 := by
  apply Decidable.byContradiction
  intro hn
  have a : 10 ^ 9 ≤ hv f nd 10 := hv_ge (f := f) h1 h0 9
  have b := hv_mono f nd (r - 1 - 10) 10
  rw [show 10 + (r - 1 - 10) = r - 1 from by omega] at b
  have c : 2 ^ k ≤ 2 ^ 27 := Nat.pow_le_pow_right (by omega) hk
  have c9 : (10 : Nat) ^ 9 = 1000000000 := by decide
  have c27 : (2 : Nat) ^ 27 = 134217728 := by decide
  omega
theorem hv_step {f : Nat → Nat} {nd r k : Nat} (hf : IsDig f nd) (h : hv f nd r < 2 ^ k) : hv f nd (r + 1) < 10 * 2 ^ k := by
  by_cases e : r < nd
  · have := hf r e
    rw [hv_in f e]; omega
  · rw [hv_out f e]; omega
theorem shr_int (N k : Nat) : (N : Int) / 2 ^ k = ((N / 2 ^ k : Nat) : Int) := by simp
theorem shr_ge {N k : Nat} (h : 2 ^ k ≤ N) : ((N : Int) / 2 ^ k == 0) = false := by
  have p : 0 < 2 ^ k := Nat.pow_pos (by omega)
  have := Nat.div_pos h p
  rw [shr_int]
  generalize N / 2 ^ k = q at *
  simp; omega
theorem shr_lt {N k : Nat} (h : N < 2 ^ k) : ((N : Int) / 2 ^ k == 0) = true := by
  rw [shr_int, Nat.div_eq_of_lt h]; rfl
theorem wrap64u : ∀ n : Int, 0 ≤ n → n < 2 ^ 64 → IntKind.u64.wrap n = n := fun n h h' => by
  have e : (2:Int)^64 = 18446744073709551616 := by decide
  rw [e] at h'
  obtain ⟨a, rfl⟩ := Int.eq_ofNat_of_zero_le h
  exact u64_nat _ a rfl (by omega)
theorem and_mask (n k : Nat) (hk : k ≤ 27) (h : n < 18446744073709551616) : bits .and .u64 (n : Int) (2 ^ k - 1) = ((n % 2 ^ k : Nat) : Int) := by
  rw [bits_mask .u64 64 (by decide) wrap64u k (by omega) (n : Int) (by omega) (by have e : (2:Int)^64 = 18446744073709551616 := by decide
                                                                                  rw [e]; omega)]
  simp
theorem LR.of {w wr : World} {C nd k r1 : Nat} {dp : Int} {f : Nat → Nat} (h : DL w wr C f nd dp) (hv1 : hv f nd r1 < 10 * 2 ^ k) : LR w wr C nd k r1 dp f 0 (hv f nd r1) f :=
  ⟨h.dec, h.below, h.size, fun j hj => by omega, fun _ _ => rfl, hv1, fun _ => rfl, fun e => by omega, by omega⟩
def RightPost (C : Nat) (f : Nat → Nat) (nd k : Nat) (dp : Int) (w w' : World) : Prop :=
  ∃ (f' : Nat → Nat) (nd' r1 : Nat), DecOK w' C f' nd' (dp - ((r1 : Int) - 1)) ∧ Below C w w' ∧ w'.heap.size = w.heap.size ∧ 1 ≤ r1 ∧ 2 ^ k ≤ hv f nd r1 ∧ hv f nd (r1 - 1) < 2 ^ k ∧ f' 0 = 48 + hv f nd r1 / 2 ^ k

set_option maxHeartbeats 2000000 in
set_option maxRecDepth 100000 in
theorem rightShift_calls (C nd k : Nat) (f : Nat → Nat) (dp : Int) (w : World) (hk : 1 ≤ k ∧ k ≤ 27) (hC : C < w.heap.size) (hD : Hid (DecOK w C f nd dp)) (hdp : -10000 ≤ dp ∧ dp ≤ 10000) :
    Calls Tryz.prog 86 #[.pointer (some ⟨C, 0, none⟩), .int .u64 k] w fun e w' => e = .returned (.tuple #[]) ∧ RightPost C f nd k dp w w' := by
  have hnd : nd ≤ 800 := hD.out.max
  have h1 : 1 ≤ nd := hD.out.one
  have h800 := hD.out.dec.hnd
  have h27 : 2 ^ k ≤ 134217728 := Nat.pow_le_pow_right (by omega) hk.2
  have hp2 : 0 < 2 ^ k := Nat.pow_pos (by omega)
  go_enter Tryz.func86, Tryz.ntmps86
  go_upto_block 0 with fail
  go_cut [4, 6] (fun s4 s6 wc => wc = w ∧ ∃ r1 : Nat, 1 ≤ r1 ∧ r1 ≤ 10 ∧ s4 = .int .i64 (r1 : Int) ∧ s6 = .int .u64 (hv f nd r1 : Int) ∧ Hid (2 ^ k ≤ hv f nd r1 ∧ hv f nd (r1 - 1) < 2 ^ k))
  case first =>
    go_wp2
    go_loopw [4, 6] (fun s4 s6 wx => wx = w ∧ ∃ r : Nat, r ≤ nd ∧ r ≤ 10 ∧ s4 = .int .i64 (r : Int) ∧ s6 = .int .u64 (hv f nd r : Int) ∧ Hid (r = 0 ∨ hv f nd (r - 1) < 2 ^ k)) (fun s4 _ _ => nd - (intOf s4).toNat)
    case atStart => exact ⟨rfl, 0, by omega, by omega, rfl, rfl, Lib.hid (Or.inl rfl)⟩
    case round =>
      obtain ⟨rfl, r, hr, hr10, rfl, rfl, hlow⟩ := hrel
      obtain ⟨N, hN⟩ : ∃ N, N = hv f nd r := ⟨_, rfl⟩
      have hNb : N < 10 * 2 ^ k := by
        rcases hlow.out with e | e
        · subst e; rw [hN]; simp [hv]; omega
        · rcases Nat.eq_zero_or_pos r with z | z
          · subst z; rw [hN]; simp [hv]; omega
          · have := hv_step hD.out.dig e
            rw [hN]
            rwa [Nat.sub_add_cancel z] at this
      rw [← hN]
      by_cases hge : 2 ^ k ≤ N
      · have g0 := shr_ge hge
        have HZ : Hid (1 ≤ r ∧ 2 ^ k ≤ hv f nd r ∧ hv f nd (r - 1) < 2 ^ k) := Lib.hid (by
          rcases hlow.out with e | e
          · subst e; rw [hN] at hge; simp [hv] at hge
          · refine ⟨?_, by rw [← hN]; exact hge, e⟩
            rcases Nat.eq_zero_or_pos r with z | z
            · subst z; rw [hN] at hge; simp [hv] at hge
            · exact z)
        have hN' := Lib.hid hN
        clear hN
        go_wp2
        go_meet
        exact ⟨rfl, r, HZ.out.1, hr10, rfl, by rw [hN'.out], HZ.out.2⟩
      · have hlt : N < 2 ^ k := by omega
        have g0 := shr_lt hlt
        have hr9 : r + 1 ≤ 10 := r1_le h1 hD.out.first hk.2 (Or.inr (by rw [Nat.add_sub_cancel, ← hN]; exact hlt))
        have hN' := Lib.hid hN
        by_cases hrn : r < nd
        · have hd := hD.out.dec.dig r (by omega)
          have hdg := hD.out.dig r hrn
          obtain ⟨M, hM⟩ : ∃ M, M = hv f nd (r + 1) := ⟨_, rfl⟩
          have hMN : M = N * 10 + (f r - 48) := by rw [hM, hN]; exact hv_in f hrn
          have e3 : IntKind.u64.wrap ((N : Int) * 10 + (f r : Int) - 48) = (M : Int) := u64_nat _ _ (by omega) (by omega)
          have e4 : (N : Int) * 10 + (f r : Int) - 48 = (M : Int) := by omega
          have HM := Lib.hid (show hv f nd (r + 1) = M from hM.symm)
          clear hM hMN hN
          go_wp2
          go_roundw
          case rel => exact ⟨(by first | rfl | trivial), r + 1, by omega, hr9, rfl, by rw [HM.out], Lib.hid (Or.inr (by rw [Nat.add_sub_cancel, ← hN'.out]; exact hlt))⟩
          case measure => simp [intOf]; omega
        · have hrN : r = nd := by omega
          have hN1 : 1 ≤ N := by
            rw [hN, hrN]
            have := hv_ge (f := f) h1 hD.out.first (nd - 1)
            rw [Nat.sub_add_cancel h1] at this
            have p : 0 < 10 ^ (nd - 1) := Nat.pow_pos (by omega)
            omega
          have g1 : ((N : Int) == 0) = false := by simp; omega
          clear hN
          go_wp2
          go_loopw [4, 6] (fun s4 s6 wx => wx = wr ∧ ∃ q : Nat, nd ≤ q ∧ q ≤ 10 ∧ s4 = .int .i64 (q : Int) ∧ s6 = .int .u64 (hv f nd q : Int) ∧ 1 ≤ hv f nd q ∧ hv f nd q < 10 * 2 ^ k ∧ Hid (hv f nd (q - 1) < 2 ^ k)) (fun _ s6 _ => 10 * 2 ^ k - (intOf s6).toNat)
          case atStart =>
            refine ⟨rfl, r, by omega, hr10, rfl, by rw [hN'.out], by rw [← hN'.out]; exact hN1, by rw [← hN'.out]; exact hNb, ?_⟩
            rcases hlow.out with e | e
            · omega
            · exact Lib.hid e
          case round =>
            obtain ⟨rfl, q, hq, hq10, rfl, rfl, hv1, hvb, hlo⟩ := hrel
            obtain ⟨V, hV⟩ : ∃ V, V = hv f nd q := ⟨_, rfl⟩
            rw [← hV] at hv1 hvb ⊢
            by_cases hge2 : 2 ^ k ≤ V
            · have g2 := shr_ge hge2
              have hV' := Lib.hid hV
              clear hV
              go_wp2
              go_meet
              exact ⟨rfl, q, by omega, hq10, rfl, by rw [hV'.out], by rw [← hV'.out]; exact hge2, hlo.out⟩
            · have hlt2 : V < 2 ^ k := by omega
              have g2 := shr_lt hlt2
              have hq9 : q + 1 ≤ 10 := r1_le h1 hD.out.first hk.2 (Or.inr (by rw [Nat.add_sub_cancel, ← hV]; exact hlt2))
              have HV : Hid (hv f nd (q + 1) = V * 10 ∧ hv f nd q = V) := Lib.hid ⟨by rw [hV]; exact hv_out f (by omega), hV.symm⟩
              clear hV
              go_wp2
              go_roundw
              case rel => exact ⟨(by first | rfl | trivial), q + 1, by omega, hq9, rfl, by rw [HV.out.1]; simp, by rw [HV.out.1]; omega, by rw [HV.out.1]; omega, Lib.hid (by rw [Nat.add_sub_cancel, HV.out.2]; exact hlt2)⟩
              case measure => simp [intOf]; omega
  case rest =>
    obtain ⟨rfl, r1, hr1, hr10, rfl, rfl, hZ⟩ := hcut
    have hVb : hv f nd r1 < 10 * 2 ^ k := by
      have := hv_step hD.out.dig hZ.out.2
      rwa [Nat.sub_add_cancel hr1] at this
    have HL0 := Lib.hid (LR.of (k := k) (r1 := r1) ((DL.mk hD.out.dec (Below.refl C wc) rfl).setDp (dp - ((r1 : Int) - 1))) hVb)
    have hdp2 : Hid (dp - ((r1 : Int) - 1) = dp - ((r1 : Int) - 1)) := Lib.hid rfl
    obtain ⟨V, hV⟩ : ∃ V, V = hv f nd r1 := ⟨_, rfl⟩
    rw [← hV] at HL0 hVb ⊢
    have hV' := Lib.hid hV
    clear hV
    have h801 := hD.out.dec.hdp
    have f801 := hD.out.dec.free 801 (by omega)
    have m1 : IntKind.u64.wrap (2 ^ k) = 2 ^ k := u64_nat _ (2 ^ k) (by simp) (by omega)
    have m2 : IntKind.u64.wrap ((2 : Int) ^ k - 1) = 2 ^ k - 1 := by
      rw [u64_nat ((2 : Int) ^ k - 1) (2 ^ k - 1) (by rw [Int.natCast_sub hp2]; simp) (by omega), Int.natCast_sub hp2]; simp
    have hC0 := hC
    go_wp2
    generalize wc.setCell ⟨C, 801, none⟩ (Value.int IntKind.i64 (dp - (r1 - 1))) = w2 at HL0 ⊢
    clear h801 f801 h800
    go_loopw [4, 5, 6] (fun s4 s5 s6 wx => ∃ (r wi n : Nat) (g : Nat → Nat), r = r1 + wi ∧ wi ≤ 800 ∧ s4 = .int .i64 (r : Int) ∧ s5 = .int .i64 (wi : Int) ∧ s6 = .int .u64 (n : Int) ∧ Hid (LR wc wx C nd k r1 (dp - ((r1 : Int) - 1)) f wi n g)) (fun s4 _ _ _ => nd - (intOf s4).toNat)
    case atStart => exact ⟨r1, 0, V, f, rfl, by omega, rfl, rfl, rfl, HL0⟩
    case round =>
      obtain ⟨r, wi, n, g, hr, hwi, rfl, rfl, rfl, hL⟩ := hrel
      have h800 := hL.out.dec.hnd
      have hnb := hL.out.lt
      by_cases hrn : r < nd
      · have hg : g r = f r := hL.out.high r (by omega)
        have hd := hL.out.dec.dig r (by omega)
        have hdw := hL.out.dec.dig wi (by omega)
        have fw := hL.out.dec.free wi (by omega)
        have hdg := hD.out.dig r hrn
        rw [hg] at hd
        have hq9 := hL.out.dig
        have hm := Nat.mod_lt n hp2
        have HP := Lib.hid (hL.out.put (by omega) (f r - 48) (by omega))
        have d1 := shr_int n k
        have d2 := and_mask n k hk.2 (by omega)
        obtain ⟨Q, hQ⟩ : ∃ Q, Q = n / 2 ^ k := ⟨_, rfl⟩
        obtain ⟨R, hR⟩ : ∃ R, R = n % 2 ^ k := ⟨_, rfl⟩
        rw [← hQ] at HP hq9 d1
        rw [← hR] at HP hm d2
        obtain ⟨M, hM⟩ : ∃ M, M = R * 10 + (f r - 48) := ⟨_, rfl⟩
        rw [← hM] at HP
        have e7 : (48 + (Q : Int)) % 256 = 48 + (Q : Int) := by omega
        have e8 : IntKind.u64.wrap ((Q : Int) + 48) = 48 + (Q : Int) := u64_nat _ (48 + Q) (by omega) (by omega)
        have e4 : (R : Int) * 10 + (f r : Int) - 48 = (M : Int) := by omega
        clear hQ hR hM hg
        have hwi8 : wi < 800 := by omega
        have hr' := Lib.hid hr
        clear hr
        go_wp2
        go_roundw
        case rel => exact ⟨r + 1, wi + 1, M, _, by rw [hr'.out]; omega, by omega, rfl, rfl, rfl, HP⟩
        case measure => simp [intOf]; omega
      · have HL1 := Lib.hid hL.out
        have hd1 : Hid (2 ^ (k + 1 - (k + 1)) ∣ n ∧ (k + 1 = 0 → n = 0)) := Lib.hid ⟨by simp, fun e => by omega⟩
        clear hL
        go_wp2
        clear h800
        go_loopg [5, 6] (k + 1) (fun gg s5 s6 wx => ∃ (wi n : Nat) (g : Nat → Nat), wi ≤ 800 ∧ gg ≤ k + 1 ∧ s5 = .int .i64 (wi : Int) ∧ s6 = .int .u64 (n : Int) ∧ n < 10 * 2 ^ k ∧ Hid (2 ^ (k + 1 - gg) ∣ n ∧ (gg = 0 → n = 0)) ∧ Hid (LR wc wx C nd k r1 (dp - ((r1 : Int) - 1)) f wi n g))
        case atStart => exact ⟨wi, n, g, hwi, Nat.le_refl _, rfl, rfl, hnb, hd1, HL1⟩
        case round =>
          obtain ⟨wi, n, h, hwi, hgg, rfl, rfl, hnb, hdv, hL⟩ := hrel
          have h800 := hL.out.dec.hnd
          have f800 := hL.out.dec.free 800 (by omega)
          rcases Nat.eq_zero_or_pos n with rfl | hnp
          · have hw1 : 1 ≤ wi := by
              rcases Nat.eq_zero_or_pos wi with e | e
              · have a := hL.out.start e
                have b := hZ.out.1
                omega
              · exact e
            have HT := Lib.hid ((DL.mk hL.out.dec hL.out.below hL.out.size).setNd (wi : Int))
            have HI : Hid (IsDig h wi) := Lib.hid (fun j hj => hL.out.low j hj)
            have HF : Hid (h 0 = 48 + hv f nd r1 / 2 ^ k) := Lib.hid (hL.out.first hw1)
            have H49 : Hid (49 ≤ h 0) := Lib.hid (by
              rw [HF.out]
              have := Nat.div_pos hZ.out.1 hp2
              exact Nat.add_le_add_left this 48)
            go_wp2_with fail
            refine (trim_calls C wi h (dp - ((r1 : Int) - 1)) _ (by omega) (HT.out.lt hC0) (Lib.hid HT.out.dec)).mono ?_
            rintro e wz ⟨rfl, hp⟩
            have HZ2 := Lib.hid (trim_ok HT.out hp H49.out hw1 (by omega) HI.out)
            clear hp
            go_wp2
            go_returns
            obtain ⟨nd', z1, z2, z3⟩ := HZ2.out
            exact ⟨rfl, h, nd', r1, z1, z2, z3, hr1, hZ.out.1, hZ.out.2, HF.out⟩
          · have hg1 : 1 ≤ gk := by
              rcases Nat.eq_zero_or_pos gk with e | e
              · have := hdv.out.2 e; omega
              · exact e
            have HDV := Lib.hid (twos_step hgg hdv.out.1 hg1)
            have hq9 := hL.out.dig
            have hm := Nat.mod_lt n hp2
            have d1 := shr_int n k
            have d2 := and_mask n k hk.2 (by omega)
            have hgk : Hid (gk - 1 < gk) := Lib.hid (by omega)
            by_cases hw : wi < 800
            · have HP := Lib.hid (hL.out.put hw 0 (by omega))
              have hdw := hL.out.dec.dig wi (by omega)
              have fw := hL.out.dec.free wi (by omega)
              obtain ⟨Q, hQ⟩ : ∃ Q, Q = n / 2 ^ k := ⟨_, rfl⟩
              obtain ⟨R, hR⟩ : ∃ R, R = n % 2 ^ k := ⟨_, rfl⟩
              rw [← hQ] at HP hq9 d1
              rw [← hR] at HP hm d2 HDV
              have e7 : (48 + (Q : Int)) % 256 = 48 + (Q : Int) := by omega
              have e8 : IntKind.u64.wrap ((Q : Int) + 48) = 48 + (Q : Int) := u64_nat _ (48 + Q) (by omega) (by omega)
              clear hQ hR
              go_wp2
              go_roundg (gk - 1)
              case rel => exact ⟨wi + 1, R * 10, _, by omega, by omega, rfl, rfl, by omega, HDV, HP⟩
              case measure => exact hgk.out
            · have hw8 : wi = 800 := by omega
              have f803 := hL.out.dec.free 803 (by omega)
              obtain ⟨btr, h803⟩ := hL.out.dec.htr
              have HP := Lib.hid (hL.out.noput hw8)
              obtain ⟨Q, hQ⟩ : ∃ Q, Q = n / 2 ^ k := ⟨_, rfl⟩
              obtain ⟨R, hR⟩ : ∃ R, R = n % 2 ^ k := ⟨_, rfl⟩
              rw [← hQ] at hq9 d1
              rw [← hR] at HP hm d2 HDV
              clear hQ hR
              rcases Nat.eq_zero_or_pos Q with rfl | hQp
              · go_wp2
                go_roundg (gk - 1)
                case rel => exact ⟨wi, R * 10, _, by omega, by omega, rfl, rfl, by omega, HDV, HP⟩
                case measure => exact hgk.out
              · go_wp2
                go_roundg (gk - 1)
                case rel => exact ⟨wi, R * 10, _, by omega, by omega, rfl, rfl, by omega, HDV, Lib.hid (HP.out.trunc true)⟩
                case measure => exact hgk.out

end Go.Proofs.YtlpkdagdfopchaaGreatDoor
