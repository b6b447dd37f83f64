/- lower f70, readFloat f54. -/
import Derived.Test.YtlpkdagdfopchaaGreatDoorG13
namespace Go.Proofs.YtlpkdagdfopchaaGreatDoor
open Go.RowKit
set_option linter.unusedVariables false
set_option linter.unusedSimpArgs false

theorem or32 (c : Nat) (h : c = 46 ∨ (48 ≤ c ∧ c ≤ 57)) : bits .or .u8 (c : Int) 32 = (c : Int) := by
  have : ∀ n : Fin 256, (n.val = 46 ∨ (48 ≤ n.val ∧ n.val ≤ 57)) → bits .or .u8 ((n.val : Nat) : Int) 32 = ((n.val : Nat) : Int) := by decide +kernel
  exact this ⟨c, by omega⟩ h
set_option maxRecDepth 100000 in
theorem lower_calls (c : Nat) (w : World) (h : c = 46 ∨ (48 ≤ c ∧ c ≤ 57)) : Calls Tryz.prog 70 #[.int .u8 (c : Int)] w fun e w' => e = .returned (.int .u8 (c : Int)) ∧ w' = w := by
  have hb := or32 c h
  clear h
  go_enter Tryz.func70, Tryz.ntmps70
  go_wp2
  go_ret
  exact ⟨rfl, rfl⟩

/-- What the loop of readFloat keeps. -/
structure RL (s : ByteArray) (i m : Nat) (tr sd sg : Bool) (nd nm : Nat) (dp : Int) : Prop where
  nmd : nm ≤ nd
  ndi : nd ≤ i
  n19 : nm ≤ 19
  mlt : m < 10 ^ nm
  lo : -(i : Int) ≤ dp
  hi : dp ≤ i
  one : OneDot s i
  sd1 : sd = true ↔ HasDot s i
  sg1 : sg = true ↔ HasFig s i
  tr1 : tr = true → NonZ s i
theorem hasDot_iff {s : ByteArray} {i : Nat} (hi : i < s.size) : HasDot s (i + 1) ↔ (HasDot s i ∨ s[i].toNat = 46) := by
  constructor
  · rintro ⟨j, h1, h2, h3⟩
    by_cases e : j = i
    · subst e; exact Or.inr h3
    · exact Or.inl ⟨j, h1, by omega, h3⟩
  · rintro (⟨j, h1, h2, h3⟩ | h)
    · exact ⟨j, h1, by omega, h3⟩
    · exact ⟨i, hi, by omega, h⟩
theorem hasFig_iff {s : ByteArray} {i : Nat} (hi : i < s.size) : HasFig s (i + 1) ↔ (HasFig s i ∨ s[i].toNat ≠ 46) := by
  constructor
  · rintro ⟨j, h1, h2, h3⟩
    by_cases e : j = i
    · subst e; exact Or.inr h3
    · exact Or.inl ⟨j, h1, by omega, h3⟩
  · rintro (⟨j, h1, h2, h3⟩ | h)
    · exact ⟨j, h1, by omega, h3⟩
    · exact ⟨i, hi, by omega, h⟩
theorem nonZ_mono {s : ByteArray} {i : Nat} (h : NonZ s i) : NonZ s (i + 1) := by
  obtain ⟨j, h1, h2, h3⟩ := h
  exact ⟨j, h1, by omega, h3⟩
theorem oneDot_succ {s : ByteArray} {i : Nat} (h : OneDot s i) (hi : i < s.size) (hd : HasDot s i → s[i].toNat ≠ 46) : OneDot s (i + 1) := by
  intro a b ha hb hab hbi hh
  by_cases e : b = i
  · subst e
    exact hd ⟨a, ha, hab, hh.1⟩ hh.2
  · exact h a b ha hb hab (by omega) hh
theorem RL.dot {s : ByteArray} {i m nd nm : Nat} {tr sg : Bool} {dp : Int} (h : RL s i m tr false sg nd nm dp) (hi : i < s.size) (hc : s[i].toNat = 46) : RL s (i + 1) m tr true sg nd nm nd := by
  have hnd : HasDot s i → False := fun e => by
    have := h.sd1.2 e
    simp at this
  refine ⟨h.nmd, by have := h.ndi; omega, h.n19, h.mlt, by omega, by have := h.ndi; omega, oneDot_succ h.one hi fun e => absurd e (fun x => hnd x), ?_, ?_, fun e => nonZ_mono (h.tr1 e)⟩
  · rw [hasDot_iff hi]; exact ⟨fun _ => Or.inr hc, fun _ => rfl⟩
  · rw [hasFig_iff hi, h.sg1]; exact ⟨Or.inl, fun e => e.elim id fun e => absurd hc e⟩
theorem RL.zero {s : ByteArray} {i m nm : Nat} {tr sd sg : Bool} {dp : Int} (h : RL s i m tr sd sg 0 nm dp) (hi : i < s.size) (hc : s[i].toNat = 48) : RL s (i + 1) m tr sd true 0 nm (dp - 1) := by
  refine ⟨h.nmd, by omega, h.n19, h.mlt, by have := h.lo; omega, by have := h.hi; omega, oneDot_succ h.one hi fun _ => by omega, ?_, ?_, fun e => nonZ_mono (h.tr1 e)⟩
  · rw [hasDot_iff hi, h.sd1]; exact ⟨Or.inl, fun e => e.elim id fun e => by omega⟩
  · rw [hasFig_iff hi]; exact ⟨fun _ => Or.inr (by omega), fun _ => rfl⟩
theorem RL.put {s : ByteArray} {i m nd nm : Nat} {tr sd sg : Bool} {dp : Int} (h : RL s i m tr sd sg nd nm dp) (hi : i < s.size) (hc : 48 ≤ s[i].toNat ∧ s[i].toNat ≤ 57) (hn : nm < 19) : RL s (i + 1) (m * 10 + (s[i].toNat - 48)) tr sd true (nd + 1) (nm + 1) dp := by
  have hm := h.mlt
  refine ⟨by have := h.nmd; omega, by have := h.ndi; omega, by omega, by rw [Nat.pow_succ]; omega, by have := h.lo; omega, by have := h.hi; omega, oneDot_succ h.one hi fun _ => by omega, ?_, ?_, fun e => nonZ_mono (h.tr1 e)⟩
  · rw [hasDot_iff hi, h.sd1]; exact ⟨Or.inl, fun e => e.elim id fun e => by omega⟩
  · rw [hasFig_iff hi]; exact ⟨fun _ => Or.inr (by omega), fun _ => rfl⟩
theorem RL.more {s : ByteArray} {i m nd nm : Nat} {tr sd sg : Bool} {dp : Int} (h : RL s i m tr sd sg nd nm dp) (hi : i < s.size) (hc : 48 ≤ s[i].toNat ∧ s[i].toNat ≤ 57) (t2 : Bool) (ht : t2 = true → tr = true ∨ 49 ≤ s[i].toNat) : RL s (i + 1) m t2 sd true (nd + 1) nm dp := by
  refine ⟨by have := h.nmd; omega, by have := h.ndi; omega, h.n19, h.mlt, by have := h.lo; omega, by have := h.hi; omega, oneDot_succ h.one hi fun _ => by omega, ?_, ?_, fun e => ?_⟩
  · rw [hasDot_iff hi, h.sd1]; exact ⟨Or.inl, fun e => e.elim id fun e => by omega⟩
  · rw [hasFig_iff hi]; exact ⟨fun _ => Or.inr (by omega), fun _ => rfl⟩
  · rcases ht e with e | e
    · exact nonZ_mono (h.tr1 e)
    · exact ⟨i, hi, by omega, e⟩

/-- What readFloat answers. -/
structure RF (s : ByteArray) (m : Nat) (p : Int) (tr : Bool) (n : Nat) (ok : Bool) : Prop where
  le : n ≤ s.size
  mlt : m < 10 ^ 19
  lo : -220 ≤ p
  hi : p ≤ 200
  one : OneDot s n
  two : n < s.size → HasDot s n ∧ ∃ h : n < s.size, s[n].toNat = 46
  okk : ok = true ↔ HasFig s n
  tr1 : tr = true → NonZ s n

theorem results_tmp7 {fn : Func} {t u v a b c d : Tmp} (h : fn.results = #[.tmp t, .tmp u, .tmp v, .tmp a, .tmp b, .tmp c, .tmp d]) (tmps : Array Value) (P : Program) (w : World) :
    (results fn tmps).run P w = .ok (.tuple #[tmps.getD t undef, tmps.getD u undef, tmps.getD v undef, tmps.getD a undef, tmps.getD b undef, tmps.getD c undef, tmps.getD d undef]) w := by
  simp [results, h]

set_option maxHeartbeats 2000000 in
set_option maxRecDepth 100000 in
theorem readFloat_calls (s : ByteArray) (w : World) (hs1 : 1 ≤ s.size) (hs : s.size ≤ 199) (hF : Hid (FigB s)) :
    Calls Tryz.prog 54 #[.string s] w fun e w' => (∃ m p tr n ok, RF s m p tr n ok ∧ e = .returned (.tuple #[.int .u64 (m : Int), .int .i64 p, .bool false, .bool tr, .bool false, .int .i64 (n : Int), .bool ok])) ∧ w' = w := by
  have hne : ¬ s = ByteArray.empty := fun e => by subst e; simp at hs1
  have hc0 := hF.out 0 (by omega)
  have g1 : ((s[0].toNat : Int) == 43) = false := by simp; omega
  have g2 : ((s[0].toNat : Int) == 45) = false := by simp; omega
  have HL0 : Hid (RL s 0 0 false false false 0 0 0) := Lib.hid ⟨by omega, by omega, by omega, by simp, by omega, by omega, fun a b ha hb h1 h2 => by omega, by
    constructor
    · intro h; simp at h
    · rintro ⟨j, _, h, _⟩; omega, by
    constructor
    · intro h; simp at h
    · rintro ⟨j, _, h, _⟩; omega, fun h => by simp at h⟩
  go_enter Tryz.func54, Tryz.ntmps54
  go_wp2
  go_step3
  go_upto_region 12 with fail
  go_cut [54] (fun v wx => v = .bool false ∧ wx = w)
  case first =>
    by_cases h2 : 2 < s.size
    · by_cases h48 : s[0].toNat = 48
      · have t48 : ((s[0].toNat : Int) == 48) = true := by simp; omega
        have hc1 := hF.out 1 (by omega)
        have t120 : ((s[1].toNat : Int) == 120) = false := by simp; omega
        clear h48
        go_wp2_with fail
        refine (lower_calls s[1].toNat _ hc1).mono ?_
        rintro e w1 ⟨rfl, rfl⟩
        go_wp2_with fail
        go_meet
        exact ⟨rfl, rfl⟩
      · have t48 : ((s[0].toNat : Int) == 48) = false := by simp; omega
        go_wp2_with fail
        go_meet
        exact ⟨rfl, rfl⟩
    · go_wp2_with fail
      go_meet
      exact ⟨rfl, rfl⟩
  case rest =>
    obtain ⟨rfl, rfl⟩ := hcut
    go_wp2_with fail
    go_step3
    go_upto_block 1 with fail
    go_cut [2, 5, 7, 9, 13, 14, 15, 16, 17] (fun s2 s5 s7 s9 s13 s14 s15 s16 s17 wx => wx = wc ∧ ∃ (i m nd nm : Nat) (tr sd sg : Bool) (dp : Int), i ≤ s.size ∧ s2 = .int .u64 (m : Int) ∧ s5 = .bool tr ∧ s7 = .int .i64 (i : Int) ∧ s9 = .bool false ∧ s13 = .bool sd ∧ s14 = .bool sg ∧ s15 = .int .i64 (nd : Int) ∧ s16 = .int .i64 (nm : Int) ∧ s17 = .int .i64 dp ∧ Hid (RL s i m tr sd sg nd nm dp) ∧ Hid (i < s.size → HasDot s i ∧ ∃ h : i < s.size, s[i].toNat = 46))
    case first =>
      go_wp2_with fail
      go_loopg [2, 5, 7, 9, 13, 14, 15, 16, 17] s.size (fun gg s2 s5 s7 s9 s13 s14 s15 s16 s17 wx => wx = wc ∧ ∃ (i m nd nm : Nat) (tr sd sg : Bool) (dp : Int), i ≤ s.size ∧ gg = s.size - i ∧ s2 = .int .u64 (m : Int) ∧ s5 = .bool tr ∧ s7 = .int .i64 (i : Int) ∧ s9 = .bool false ∧ s13 = .bool sd ∧ s14 = .bool sg ∧ s15 = .int .i64 (nd : Int) ∧ s16 = .int .i64 (nm : Int) ∧ s17 = .int .i64 dp ∧ Hid (RL s i m tr sd sg nd nm dp))
      case atStart => exact ⟨rfl, 0, 0, 0, 0, false, false, false, 0, by omega, by omega, rfl, rfl, rfl, rfl, rfl, rfl, rfl, rfl, rfl, HL0⟩
      case round =>
        obtain ⟨rfl, i, m, nd, nm, tr, sd, sg, dp, hi, hgg, rfl, rfl, rfl, rfl, rfl, rfl, rfl, rfl, rfl, hL⟩ := hrel
        have hgg := Lib.hid hgg
        by_cases hend : i = s.size
        · have HE : Hid (i < s.size → HasDot s i ∧ ∃ h : i < s.size, s[i].toNat = 46) := Lib.hid (fun h => by omega)
          go_wp2_with fail
          go_meet
          exact ⟨(by first | rfl | trivial), i, m, nd, nm, tr, sd, sg, dp, hi, rfl, rfl, rfl, rfl, rfl, rfl, rfl, rfl, rfl, Lib.hid hL.out, HE⟩
        · have hilt : i < s.size := by omega
          have hc := hF.out i hilt
          have t95 : ((s[i].toNat : Int) == 95) = false := by simp; omega
          have hgg2 : Hid (s.size - (i + 1) < gk) := Lib.hid (by have := hgg.out; omega)
          by_cases h46 : s[i].toNat = 46
          · have t46 : ((s[i].toNat : Int) == 46) = true := by simp; omega
            cases sd with
            | true =>
              have HE : Hid (i < s.size → HasDot s i ∧ ∃ h : i < s.size, s[i].toNat = 46) := Lib.hid (fun h => ⟨hL.out.sd1.1 rfl, hilt, h46⟩)
              clear h46 hc
              go_wp2_with fail
              go_meet
              exact ⟨(by first | rfl | trivial), i, m, nd, nm, tr, true, sg, dp, hi, rfl, rfl, rfl, rfl, rfl, rfl, rfl, rfl, rfl, Lib.hid hL.out, HE⟩
            | false =>
              have HS := Lib.hid (hL.out.dot hilt h46)
              clear h46 hc
              go_wp2_with fail
              go_roundg (s.size - (i + 1))
              case rel => exact ⟨(by first | rfl | trivial), i + 1, m, nd, nm, tr, true, sg, nd, by omega, by omega, rfl, rfl, rfl, rfl, rfl, rfl, rfl, rfl, rfl, HS⟩
              case measure => exact hgg2.out
          · have hge : 48 ≤ s[i].toNat := by omega
            have hle : s[i].toNat ≤ 57 := by omega
            have t46 : ((s[i].toNat : Int) == 46) = false := by simp; omega
            have hndi := hL.out.ndi
            have hdp1 := hL.out.lo
            have hdp2 := hL.out.hi
            have hnm := hL.out.n19
            by_cases hz : s[i].toNat = 48 ∧ nd = 0
            · obtain ⟨h48, hnd0⟩ := hz
              have t48 : ((s[i].toNat : Int) == 48) = true := by simp; omega
              subst hnd0
              have HS := Lib.hid (hL.out.zero hilt h48)
              clear h48 hc
              go_wp2_with fail
              go_roundg (s.size - (i + 1))
              case rel => exact ⟨(by first | rfl | trivial), i + 1, m, 0, nm, tr, sd, true, dp - 1, by omega, by omega, rfl, rfl, rfl, rfl, rfl, rfl, rfl, rfl, rfl, HS⟩
              case measure => exact hgg2.out
            · by_cases hn : nm < 19
              · have HS := Lib.hid (hL.out.put hilt ⟨hge, hle⟩ hn)
                have hm19 : m < 1000000000000000000 := by
                  have a := hL.out.mlt
                  have b : (10 : Nat) ^ nm ≤ 10 ^ 18 := Nat.pow_le_pow_right (by omega) (by omega)
                  simp at b
                  omega
                obtain ⟨M, hM⟩ : ∃ M, M = m * 10 + (s[i].toNat - 48) := ⟨_, rfl⟩
                rw [← hM] at HS
                have hMi : (m : Int) * 10 + ((s[i].toNat : Int) - 48) = (M : Int) := by omega
                clear hM
                by_cases h48 : s[i].toNat = 48
                case' pos =>
                  have t48 : ((s[i].toNat : Int) == 48) = true := by simp; omega
                  have tn : ((nd : Int) == 0) = false := by simp; omega
                case' neg =>
                  have t48 : ((s[i].toNat : Int) == 48) = false := by simp; omega
                all_goals
                  clear h48 hc hz
                  go_wp2_with fail
                  go_roundg (s.size - (i + 1))
                  case rel => exact ⟨(by first | rfl | trivial), i + 1, M, nd + 1, nm + 1, tr, sd, true, dp, by omega, by omega, rfl, rfl, rfl, rfl, rfl, rfl, rfl, rfl, rfl, HS⟩
                  case measure => exact hgg2.out
              · by_cases h48 : s[i].toNat = 48
                · have t48 : ((s[i].toNat : Int) == 48) = true := by simp; omega
                  have tn : ((nd : Int) == 0) = false := by simp; omega
                  have HS := Lib.hid (hL.out.more hilt ⟨hge, hle⟩ tr Or.inl)
                  clear h48 hc hz
                  go_wp2_with fail
                  go_roundg (s.size - (i + 1))
                  case rel => exact ⟨(by first | rfl | trivial), i + 1, m, nd + 1, nm, tr, sd, true, dp, by omega, by omega, rfl, rfl, rfl, rfl, rfl, rfl, rfl, rfl, rfl, HS⟩
                  case measure => exact hgg2.out
                · have t48 : ((s[i].toNat : Int) == 48) = false := by simp; omega
                  have HS := Lib.hid (hL.out.more hilt ⟨hge, hle⟩ true (fun _ => Or.inr (by omega)))
                  clear h48 hc hz
                  go_wp2_with fail
                  go_roundg (s.size - (i + 1))
                  case rel => exact ⟨(by first | rfl | trivial), i + 1, m, nd + 1, nm, true, sd, true, dp, by omega, by omega, rfl, rfl, rfl, rfl, rfl, rfl, rfl, rfl, rfl, HS⟩
                  case measure => exact hgg2.out
    case rest =>
      obtain ⟨rfl, i, m, nd, nm, tr, sd, sg, dp, hi, rfl, rfl, rfl, rfl, rfl, rfl, rfl, rfl, rfl, hL, hE⟩ := hcut
      have hndi := hL.out.ndi
      have hdp1 := hL.out.lo
      have hdp2 := hL.out.hi
      have hnm := hL.out.n19
      have hm19 : Hid (m < 10 ^ 19) := Lib.hid (Nat.lt_of_lt_of_le hL.out.mlt (Nat.pow_le_pow_right (by omega) hnm))
      cases sg with
      | false =>
        go_wp2_with fail
        rw [Exit.noGoto_ret]
        refine bodyPost_ret (results_tmp7 rfl _ _ _) rfl ?_
        exact ⟨⟨m, 0, tr, i, false, ⟨hi, hm19.out, by omega, by omega, hL.out.one, hE.out, hL.out.sg1, hL.out.tr1⟩, rfl⟩, rfl⟩
      | true =>
        have hmk : ∀ p : Int, -220 ≤ p → p ≤ 200 → RF s m p tr i true := fun p h1 h2 => ⟨hi, hm19.out, h1, h2, hL.out.one, hE.out, hL.out.sg1, hL.out.tr1⟩
        have hmk := Lib.hid hmk
        by_cases hlt : i < s.size
        · obtain ⟨_, _, h46⟩ := hE.out hlt
          have hl46 : Hid (s[i].toNat = 46 ∨ (48 ≤ s[i].toNat ∧ s[i].toNat ≤ 57)) := Lib.hid (Or.inl h46)
          have t101 : ((s[i].toNat : Int) == 101) = false := by simp; omega
          clear h46
          by_cases hm0 : m = 0
          · cases sd
            all_goals
              go_wp2_with fail
              refine (lower_calls s[i].toNat _ hl46.out).mono ?_
              rintro e w1 ⟨rfl, rfl⟩
              go_wp2_with fail
              rw [Exit.noGoto_ret]
              refine bodyPost_ret (results_tmp7 rfl _ _ _) rfl ?_
              exact ⟨⟨m, 0, tr, i, true, hmk.out 0 (by omega) (by omega), by rw [hm0]; rfl⟩, rfl⟩
          · cases sd
            all_goals
              go_wp2_with fail
              refine (lower_calls s[i].toNat _ hl46.out).mono ?_
              rintro e w1 ⟨rfl, rfl⟩
              go_wp2_with fail
              rw [Exit.noGoto_ret]
              refine bodyPost_ret (results_tmp7 rfl _ _ _) rfl ?_
              exact ⟨⟨m, _, tr, i, true, hmk.out _ (by omega) (by omega), rfl⟩, rfl⟩
        · by_cases hm0 : m = 0
          · cases sd
            all_goals
              go_wp2_with fail
              rw [Exit.noGoto_ret]
              refine bodyPost_ret (results_tmp7 rfl _ _ _) rfl ?_
              exact ⟨⟨m, 0, tr, i, true, hmk.out 0 (by omega) (by omega), by rw [hm0]; rfl⟩, rfl⟩
          · cases sd
            all_goals
              go_wp2_with fail
              rw [Exit.noGoto_ret]
              refine bodyPost_ret (results_tmp7 rfl _ _ _) rfl ?_
              exact ⟨⟨m, _, tr, i, true, hmk.out _ (by omega) (by omega), rfl⟩, rfl⟩

end Go.Proofs.YtlpkdagdfopchaaGreatDoor
