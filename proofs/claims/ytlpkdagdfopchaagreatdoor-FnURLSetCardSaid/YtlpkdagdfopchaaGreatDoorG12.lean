/- floatBits f61. -/
import Derived.Test.YtlpkdagdfopchaaGreatDoorG11
namespace Go.Proofs.YtlpkdagdfopchaaGreatDoor
open Go.RowKit
set_option linter.unusedVariables false
set_option linter.unusedSimpArgs false

/-- The table of powers, below block C. -/
def PowAt (w : World) (C : Nat) : Prop := ∃ P o cap : Nat, P < C ∧ 6 < C ∧ w.cell? ⟨6, 0, none⟩ = some (.slice (some ⟨P, o, none⟩) 9 cap) ∧
  ∀ i, i < 9 → w.cell? ⟨P, o + i, none⟩ = some (.int .i64 (pw i : Int))
theorem PowAt.below {w w' : World} {C : Nat} (h : PowAt w C) (hb : Below C w w') : PowAt w' C := by
  obtain ⟨P, o, cap, h1, h2, h3, h4⟩ := h
  exact ⟨P, o, cap, h1, h2, by rw [below_cell hb 6 0 h2]; exact h3, fun i hi => by rw [below_cell hb P _ h1]; exact h4 i hi⟩
/-- What a float is made of. -/
def FltAt (w : World) (C : Nat) : Prop := 4 < C ∧ w.cell? ⟨4, 0, none⟩ = some (.int .u64 52) ∧ w.cell? ⟨4, 1, none⟩ = some (.int .u64 11) ∧ w.cell? ⟨4, 2, none⟩ = some (.int .i64 (-1023))
theorem FltAt.below {w w' : World} {C : Nat} (h : FltAt w C) (hb : Below C w w') : FltAt w' C := by
  obtain ⟨h1, h2, h3, h4⟩ := h
  exact ⟨h1, by rw [below_cell hb 4 _ h1]; exact h2, by rw [below_cell hb 4 _ h1]; exact h3, by rw [below_cell hb 4 _ h1]; exact h4⟩
structure EnvF (w : World) (C : Nat) : Prop where
  cheat : CheatAt w C
  pow : PowAt w C
  flt : FltAt w C
theorem EnvF.below {w w' : World} {C : Nat} (h : EnvF w C) (hb : Below C w w') : EnvF w' C := ⟨h.cheat.below hb, h.pow.below hb, h.flt.below hb⟩

theorem PR_le (m d : Nat) (h : m ≤ 199) : PR m d ≤ 828 := by unfold PR; repeat (first | split | omega)
theorem PL_le (m d : Nat) (h : m ≤ 199) (h49 : 49 ≤ d) : PL m d ≤ 837 := by unfold PL; repeat (first | split | omega)
theorem pw_le (m : Nat) : 1 ≤ pw m ∧ pw m ≤ 27 := by unfold pw; repeat (first | split | omega)
theorem pw_9 (m : Nat) (h : 9 ≤ m) : pw m = 27 := by unfold pw; repeat (first | (rw [if_neg (by omega)]) | rfl)

theorem arr_open (n : Nat) (x : Array Value) (h : x.size = n) : x = ((List.range n).map fun i => x.getD i undef).toArray := by
  apply Array.ext
  · simp [h]
  · intro i h1 h2
    simp [h1]
set_option maxRecDepth 100000 in
theorem frame_open (a : Act) (hs : a.tmps.size = 243) (hd : a.defers = []) : ∃ f : Nat → Value, a = ⟨(f 0 :: f 1 :: f 2 :: f 3 :: f 4 :: f 5 :: f 6 :: f 7 :: f 8 :: f 9 :: f 10 :: f 11 :: f 12 :: f 13 :: f 14 :: f 15 :: f 16 :: f 17 :: f 18 :: f 19 :: f 20 :: f 21 :: f 22 :: f 23 :: f 24 :: f 25 :: f 26 :: f 27 :: f 28 :: f 29 :: f 30 :: f 31 :: f 32 :: f 33 :: f 34 :: f 35 :: f 36 :: f 37 :: f 38 :: f 39 :: f 40 :: f 41 :: f 42 :: f 43 :: f 44 :: f 45 :: f 46 :: f 47 :: f 48 :: f 49 :: f 50 :: f 51 :: f 52 :: f 53 :: f 54 :: f 55 :: f 56 :: f 57 :: f 58 :: f 59 :: f 60 :: f 61 :: f 62 :: f 63 :: f 64 :: f 65 :: f 66 :: f 67 :: f 68 :: f 69 :: f 70 :: f 71 :: f 72 :: f 73 :: f 74 :: f 75 :: f 76 :: f 77 :: f 78 :: f 79 :: f 80 :: f 81 :: f 82 :: f 83 :: f 84 :: f 85 :: f 86 :: f 87 :: f 88 :: f 89 :: f 90 :: f 91 :: f 92 :: f 93 :: f 94 :: f 95 :: f 96 :: f 97 :: f 98 :: f 99 :: f 100 :: f 101 :: f 102 :: f 103 :: f 104 :: f 105 :: f 106 :: f 107 :: f 108 :: f 109 :: f 110 :: f 111 :: f 112 :: f 113 :: f 114 :: f 115 :: f 116 :: f 117 :: f 118 :: f 119 :: f 120 :: f 121 :: f 122 :: f 123 :: f 124 :: f 125 :: f 126 :: f 127 :: f 128 :: f 129 :: f 130 :: f 131 :: f 132 :: f 133 :: f 134 :: f 135 :: f 136 :: f 137 :: f 138 :: f 139 :: f 140 :: f 141 :: f 142 :: f 143 :: f 144 :: f 145 :: f 146 :: f 147 :: f 148 :: f 149 :: f 150 :: f 151 :: f 152 :: f 153 :: f 154 :: f 155 :: f 156 :: f 157 :: f 158 :: f 159 :: f 160 :: f 161 :: f 162 :: f 163 :: f 164 :: f 165 :: f 166 :: f 167 :: f 168 :: f 169 :: f 170 :: f 171 :: f 172 :: f 173 :: f 174 :: f 175 :: f 176 :: f 177 :: f 178 :: f 179 :: f 180 :: f 181 :: f 182 :: f 183 :: f 184 :: f 185 :: f 186 :: f 187 :: f 188 :: f 189 :: f 190 :: f 191 :: f 192 :: f 193 :: f 194 :: f 195 :: f 196 :: f 197 :: f 198 :: f 199 :: f 200 :: f 201 :: f 202 :: f 203 :: f 204 :: f 205 :: f 206 :: f 207 :: f 208 :: f 209 :: f 210 :: f 211 :: f 212 :: f 213 :: f 214 :: f 215 :: f 216 :: f 217 :: f 218 :: f 219 :: f 220 :: f 221 :: f 222 :: f 223 :: f 224 :: f 225 :: f 226 :: f 227 :: f 228 :: f 229 :: f 230 :: f 231 :: f 232 :: f 233 :: f 234 :: f 235 :: f 236 :: f 237 :: f 238 :: f 239 :: f 240 :: f 241 :: f 242 :: []).toArray, []⟩ := by
  obtain ⟨x, d⟩ := a
  obtain rfl : d = [] := hd
  have h := arr_open 243 x hs
  refine ⟨fun i => x.getD i undef, ?_⟩
  have e : ((List.range 243).map fun i => x.getD i undef).toArray = _ := rfl
  exact congrArg (fun y => Act.mk y []) h

/-- What holds where the run jumps to the end. -/
structure JF (w : World) (C : Nat) (a : Act) (wx : World) : Prop where
  sz : a.tmps.size = 243
  df : a.defers = []
  s0 : a.tmps[0]? = some (.pointer (some ⟨C, 0, none⟩))
  s1 : a.tmps[1]? = some (.pointer (some ⟨4, 0, none⟩))
  s5 : a.tmps[5]? = some (.bool false)
  s6 : ∃ e : Int, -2000 ≤ e ∧ e ≤ 2000 ∧ a.tmps[6]? = some (.int .i64 e)
  s7 : ∃ x : Int, a.tmps[7]? = some (.int .u64 x)
  dl : ∃ f nd dp, DL w wx C f nd dp

theorem jump_ret {l : Nat} {J : Act → World → Prop} {Q : Exit → Act → World → Prop} {a : Act} {w : World} : Exit.jump l J Q .ret a w = Q .ret a w := rfl
theorem jf_of {w : World} {C : Nat} (a : Act) (wx : World) (sz : a.tmps.size = 243) (df : a.defers = []) (s0 : a.tmps[0]? = some (.pointer (some ⟨C, 0, none⟩)))
    (s1 : a.tmps[1]? = some (.pointer (some ⟨4, 0, none⟩))) (s5 : a.tmps[5]? = some (.bool false)) (e x : Int) (s6 : a.tmps[6]? = some (.int .i64 e)) (s7 : a.tmps[7]? = some (.int .u64 x))
    (he : -2000 ≤ e ∧ e ≤ 2000) (dl : ∃ f nd dp, DL w wx C f nd dp) : JF w C a wx :=
  ⟨sz, df, s0, s1, s5, ⟨e, he.1, he.2, s6⟩, ⟨x, s7⟩, dl⟩
theorem right_round {w wq wz : World} {C md m k : Nat} {g : Nat → Nat} {e : Int} (hk : pw m = k) (hB : Below C w wq) (hS : wq.heap.size = w.heap.size) (hL : DecOK wq C g md (m : Int)) (hm : 0 < m) (hm9 : m ≤ 199) (hp : RightPost C g md k (m : Int) wq wz) (he : 0 ≤ e) (hP : e + PR m (g 0) ≤ 828) :
    ∃ (f' : Nat → Nat) (nd' : Nat) (dp' : Int), -199 ≤ dp' ∧ dp' ≤ 199 ∧ DecOK wz C f' nd' dp' ∧ Below C w wz ∧ wz.heap.size = w.heap.size ∧ e + k + PR dp'.toNat (f' 0) ≤ 828 ∧ PR dp'.toNat (f' 0) < PR m (g 0) ∧ 0 ≤ e + (k : Int) ∧ e + (k : Int) ≤ 828 := by
  subst hk
  obtain ⟨f', nd', r1, a, b, c, d, h1, h2, h3⟩ := hp
  obtain ⟨p1, p2⟩ := right_pot hL.dig hL.one hL.first (by omega) d h1 h2
  rw [← h3] at p2
  have hw := pw_le m
  have ed : ((m : Int) - ((r1 : Int) - 1)).toNat = m + 1 - r1 := by omega
  refine ⟨f', nd', _, by omega, by omega, a, hB.trans b, c.trans hS, ?_, ?_, by omega, by omega⟩
  · rw [ed]; omega
  · rw [ed]; omega
theorem left_round {w wq wz : World} {C md m k : Nat} {g : Nat → Nat} {e : Int} (hk : pw m = k) (hB : Below C w wq) (hS : wq.heap.size = w.heap.size) (hL : DecOK wq C g md (-(m : Int))) (hm : 1 ≤ m ∨ g 0 < 53) (hm9 : m ≤ 199) (hp : LeftPost C g md k (-(m : Int)) wq wz) (he : e ≤ 828) (hP : -850 + PL m (g 0) ≤ e) :
    ∃ (f' : Nat → Nat) (nd' : Nat) (m' : Nat), m' ≤ 199 ∧ DecOK wz C f' nd' (-(m' : Int)) ∧ Below C w wz ∧ wz.heap.size = w.heap.size ∧ -850 + PL m' (f' 0) ≤ e - k ∧ PL m' (f' 0) < PL m (g 0) ∧ e - (k : Int) ≤ 828 := by
  subst hk
  obtain ⟨f', nd', a, b, c, d⟩ := hp
  obtain ⟨p1, p2⟩ := left_pot hL.dig hL.one hL.first hm a.first d
  have hw := pw_le m
  have ed : -(m : Int) + (leftD g md (pw m) : Int) = -((m - leftD g md (pw m) : Nat) : Int) := by omega
  rw [ed] at a
  exact ⟨f', nd', m - leftD g md (pw m), by omega, a, hB.trans b, c.trans hS, by omega, by omega, by omega⟩

set_option maxHeartbeats 4000000 in
set_option maxRecDepth 100000 in
theorem floatBits_calls (C nd : Nat) (f : Nat → Nat) (dp : Int) (w : World) (hC : C < w.heap.size) (hE : Hid (EnvF w C)) (hD : Hid (DecOK w C f nd dp)) (hdp : -199 ≤ dp ∧ dp ≤ 199) :
    Calls Tryz.prog 61 #[.pointer (some ⟨C, 0, none⟩), .pointer (some ⟨4, 0, none⟩)] w fun e w' => (∃ x, e = .returned (.tuple #[.int .u64 x, .bool false])) ∧ Below C w w' ∧ w'.heap.size = w.heap.size := by
  have h1 : 1 ≤ nd := hD.out.one
  have h800 := hD.out.dec.hnd
  have h801 := hD.out.dec.hdp
  have q0 : ((nd : Int) == 0) = false := by simp; omega
  have q1 : decide (310 < dp) = false := by simp; omega
  have q2 : decide (dp < -330) = false := by simp; omega
  go_enter Tryz.func61, Tryz.ntmps61
  go_wp2
  refine wp_scope_jumps 0 (fun a w' => JF w C a w') (fun _ _ => 0) rfl ?_ ?_
  · go_wp2
    have HP0 : Hid ((0 : Int) + PR dp.toNat (f 0) ≤ 828) := Lib.hid (by have := PR_le dp.toNat (f 0) (by omega); omega)
    have HE0 : Hid (EnvF w C) := hE
    clear h800 h801 h1
    go_loopg [6] (PR dp.toNat (f 0)) (fun g s6 wx => ∃ (f : Nat → Nat) (nd : Nat) (dp e : Int), -199 ≤ dp ∧ dp ≤ 199 ∧ 0 ≤ e ∧ e ≤ 828 ∧ s6 = .int .i64 e ∧ Hid (DecOK wx C f nd dp) ∧ Hid (Below C w wx) ∧ Hid (wx.heap.size = w.heap.size) ∧ Hid (e + PR dp.toNat (f 0) ≤ 828) ∧ Hid (g = PR dp.toNat (f 0)))
    case atStart => exact ⟨f, nd, dp, 0, hdp.1, hdp.2, by omega, by omega, rfl, hD, Lib.hid (Below.refl C w), Lib.hid rfl, HP0, Lib.hid rfl⟩
    case round =>
      obtain ⟨g, md, dq, e, hq1, hq2, he0, he1, rfl, hL, hB, hS, hP, hG⟩ := hrel
      have h801 := hL.out.dec.hdp
      have hT := Lib.hid (hE.out.below hB.out)
      have hm1 : 1 ≤ md := hL.out.one
      by_cases hpos : 0 < dq
      · obtain ⟨m, rfl⟩ : ∃ m : Nat, dq = (m : Int) := ⟨dq.toNat, by omega⟩
        have hm : 0 < m := by omega
        obtain ⟨P, o0, cap, p1, p6, p2, p3⟩ := hT.out.pow
        have p2 := p2
        have HG : Hid (gk = PR m (g 0)) := Lib.hid hG.out
        have hgk := Lib.hid hG.out
        have hpw := pw_le m
        have hEq : Hid (PR ((m : Int)).toNat (g 0) = PR m (g 0)) := Lib.hid (by simp)
        have step : ∀ (wq : World) (k : Nat) (wz : World), pw m = k → Below C w wq → wq.heap.size = w.heap.size → DecOK wq C g md (m : Int) → RightPost C g md k (m : Int) wq wz → Hid (∃ (f' : Nat → Nat) (nd' : Nat) (dp' : Int), -199 ≤ dp' ∧ dp' ≤ 199 ∧ DecOK wz C f' nd' dp' ∧ Below C w wz ∧ wz.heap.size = w.heap.size ∧ e + k + PR dp'.toNat (f' 0) ≤ 828 ∧ PR dp'.toNat (f' 0) < PR m (g 0) ∧ 0 ≤ e + (k : Int) ∧ e + (k : Int) ≤ 828) := fun wq k wz hk hB2 hS2 hL2 hp =>
          Lib.hid (right_round hk hB2 hS2 hL2 hm (by omega) hp he0 (by rw [← hEq.out]; exact hP.out))
        have step := Lib.hid step
        by_cases h9 : 9 ≤ m
        · have h9i : decide ((9 : Int) ≤ (m : Int)) = true := by simp; omega
          have hk27 := Lib.hid (pw_9 m h9)
          clear p3
          go_wp2_with fail
          go_quiet (fail)
          have hLq : Hid (DecOK (wr.drewN nq) C g md (m : Int)) := Lib.hid ⟨hL.out.dec.drew nq, hL.out.one, hL.out.max, hL.out.dig, hL.out.first⟩
          have hBq := Lib.hid (below_drewN hB.out nq)
          have hSq : Hid ((wr.drewN nq).heap.size = w.heap.size) := Lib.hid hS.out
          generalize wr.drewN nq = wq at hLq hBq hSq ⊢
          go_wp2_with fail
          refine (shiftR_calls C md 27 g m _ (by omega) (by rw [hSq.out]; exact hC) hLq (by omega)).mono ?_
          rintro e wz ⟨rfl, hp⟩
          obtain ⟨f', nd', dp', a1, a2, a3, a4, a5, a6, a7, a8, a9⟩ := (step.out wq 27 wz hk27.out hBq.out hSq.out hLq.out hp).out
          have a6 : e + 27 + PR dp'.toNat (f' 0) ≤ 828 := a6
          have a8 : 0 ≤ e + 27 := a8
          have a9 : e + 27 ≤ 828 := a9
          have a3 := Lib.hid a3
          have a6 := Lib.hid a6
          have a7 := Lib.hid a7
          clear hp h801 p2
          go_wp2
          go_roundg (PR dp'.toNat (f' 0))
          case rel => exact ⟨f', nd', dp', e + 27, a1, a2, a8, a9, rfl, a3, Lib.hid a4, Lib.hid a5, a6, Lib.hid rfl⟩
          case measure => rw [HG.out]; exact a7.out
        · have p3 := p3 m (by omega)
          have h9i : decide ((9 : Int) ≤ (m : Int)) = false := by simp; omega
          have hm9 : m < 9 := by omega
          go_wp2_with fail
          go_quiet (fail)
          have hLq : Hid (DecOK (wr.drewN nq) C g md (m : Int)) := Lib.hid ⟨hL.out.dec.drew nq, hL.out.one, hL.out.max, hL.out.dig, hL.out.first⟩
          have hBq := Lib.hid (below_drewN hB.out nq)
          have hSq : Hid ((wr.drewN nq).heap.size = w.heap.size) := Lib.hid hS.out
          have p2' : (wr.drewN nq).cell? ⟨6, 0, none⟩ = _ := p2
          have p3' : (wr.drewN nq).cell? ⟨P, o0 + m, none⟩ = _ := p3
          have h801' := hLq.out.dec.hdp
          generalize wr.drewN nq = wq at hLq hBq hSq p2' p3' h801' ⊢
          clear p2 p3 h801
          go_wp2_with fail
          go_quiet (fail)
          have hLq2 : Hid (DecOK (wq.drewN nq) C g md (m : Int)) := Lib.hid ⟨hLq.out.dec.drew nq, hLq.out.one, hLq.out.max, hLq.out.dig, hLq.out.first⟩
          have hBq2 := Lib.hid (below_drewN hBq.out nq)
          have hSq2 : Hid ((wq.drewN nq).heap.size = w.heap.size) := Lib.hid hSq.out
          generalize wq.drewN nq = wq2 at hLq2 hBq2 hSq2 ⊢
          clear p2' p3' h801'
          go_wp2_with fail
          refine (shiftR_calls C md (pw m) g m _ (by omega) (by rw [hSq2.out]; exact hC) hLq2 (by omega)).mono ?_
          rintro e wz ⟨rfl, hp⟩
          obtain ⟨f', nd', dp', a1, a2, a3, a4, a5, a6, a7, a8, a9⟩ := (step.out wq2 (pw m) wz rfl hBq2.out hSq2.out hLq2.out hp).out
          have a3 := Lib.hid a3
          have a6 := Lib.hid a6
          have a7 := Lib.hid a7
          clear hp
          go_wp2
          go_roundg (PR dp'.toNat (f' 0))
          case rel => exact ⟨f', nd', dp', e + (pw m : Int), a1, a2, a8, a9, rfl, a3, Lib.hid a4, Lib.hid a5, a6, Lib.hid rfl⟩
          case measure => rw [HG.out]; exact a7.out
      · have hneg : dq ≤ 0 := by omega
        have HD0 : Hid (dq = -(((-dq).toNat : Nat) : Int)) := Lib.hid (by omega)
        have HP2 : Hid (-850 + PL (-dq).toNat (g 0) ≤ e) := Lib.hid (by have := PL_le (-dq).toNat (g 0) (by omega) hL.out.first; omega)
        have HL := Lib.hid hL.out
        have HB := Lib.hid hB.out
        have HS := Lib.hid hS.out
        clear hP hG hL hB hS hm1
        go_wp2
        clear h801 hpos
        go_loopg [6] (PL (-dq).toNat (g 0)) (fun gg s6 wx => ∃ (f : Nat → Nat) (nd : Nat) (dp e : Int) (m : Nat), m ≤ 199 ∧ dp ≤ 0 ∧ -199 ≤ dp ∧ -850 ≤ e ∧ e ≤ 828 ∧ s6 = .int .i64 e ∧ Hid (dp = -(m : Int)) ∧ Hid (DecOK wx C f nd dp) ∧ Hid (Below C w wx) ∧ Hid (wx.heap.size = w.heap.size) ∧ Hid (-850 + PL m (f 0) ≤ e) ∧ Hid (gg = PL m (f 0)))
        case atStart => exact ⟨g, md, dq, e, (-dq).toNat, by omega, hneg, by omega, by omega, he1, rfl, HD0, HL, HB, HS, HP2, Lib.hid rfl⟩
        case round =>
          obtain ⟨h, ld, dr, x, m, hm199, hr0, hr1, hx0, hx1, rfl, hdr, hL, hB, hS, hP, hG⟩ := hrel
          have h801 := hL.out.dec.hdp
          have hd0 := hL.out.dec.dig 0 (by omega)
          have hT := Lib.hid (hE.out.below hB.out)
          have hpw := pw_le m
          have HG : Hid (gk = PL m (h 0)) := Lib.hid hG.out
          by_cases hend : dr = 0 ∧ ¬ h 0 < 53
          · obtain ⟨rfl, h53⟩ := hend
            obtain ⟨f4, f52, f11, fbias⟩ := hT.out.flt
            have f52 := f52
            have b1 : decide (x - 1 < -1023 + 1) = false := by simp; omega
            have b1' : decide (x - 1 < -1022) = false := by simp; omega
            have b2 : decide (2047 ≤ x - 1 + 1023) = false := by simp; omega
            have b3 : decide (2047 ≤ x - 1 - -1023) = false := by simp; omega
            go_wp2_with fail
            go_quiet (fail)
            have hLq : Hid (DecOK (wr.drewN nq) C h ld 0) := Lib.hid ⟨hL.out.dec.drew nq, hL.out.one, hL.out.max, hL.out.dig, hL.out.first⟩
            have hBq := Lib.hid (below_drewN hB.out nq)
            have hSq : Hid ((wr.drewN nq).heap.size = w.heap.size) := Lib.hid hS.out
            have f52' : (wr.drewN nq).cell? ⟨4, 0, none⟩ = _ := f52
            generalize wr.drewN nq = wq at hLq hBq hSq f52' ⊢
            clear f52 f11 fbias h801 hd0
            go_wp2_with fail
            refine (shiftL_calls C ld 53 h 0 _ (Lib.hid (by decide)) (by rw [hSq.out]; exact hC) (Lib.hid (hE.out.below hBq.out).cheat) hLq (by omega)).mono ?_
            rintro e wz ⟨rfl, hp⟩
            obtain ⟨f', nd', z1, z2, z3, z4⟩ := hp
            clear z4
            have hcd : leftD h ld 53 ≤ 16 := by
              have a := leftD_le h ld 53
              have b := (cut_facts 53 (by decide)).2.2.2.2.2.1
              omega
            rw [Int.zero_add] at z1
            generalize leftD h ld 53 = D at z1 hcd
            have HZ := Lib.hid z1
            have HBz := Lib.hid (hBq.out.trans z2)
            have HSz : Hid (wz.heap.size = w.heap.size) := Lib.hid (z3.trans hSq.out)
            obtain ⟨g4, g52, g11, gbias⟩ := (hE.out.below HBz.out).flt
            have g52 := g52
            clear z1 z2 z3 hLq hBq hSq f52'
            go_wp2_with fail
            refine (rounded_calls C nd' D f' _ HZ.out.max (Lib.hid HZ.out.dec) (by omega)).mono ?_
            rintro e wz2 ⟨⟨y, rfl⟩, hwz⟩
            have hwz : wz = wz2 := hwz.symm
            subst hwz
            have HDL : Hid (DL w wz C f' nd' D) := Lib.hid ⟨HZ.out.dec, HBz.out, HSz.out⟩
            clear HBz HSz HZ
            by_cases hy : y = 9007199254740992
            · have hy1 : (y == 9007199254740992) = true := by simp; omega
              go_wp2_with fail
              go_quiet (fail)
              have HDq := Lib.hid (HDL.out.drew nq)
              have g52' : (wz.drewN nq).cell? ⟨4, 0, none⟩ = _ := g52
              have gbias' : (wz.drewN nq).cell? ⟨4, 2, none⟩ = _ := gbias
              generalize wz.drewN nq = wq at HDq g52' gbias' ⊢
              clear g52 gbias g11
              go_wp2_with fail
              all_goals
                go_step3
                refine (show _ ∧ JF w C _ _ from ⟨rfl, jf_of _ _ rfl rfl rfl rfl rfl _ _ rfl rfl ?_ ⟨f', nd', D, HDq.out⟩⟩)
                omega
            · have hy1 : (y == 9007199254740992) = false := by simp; omega
              go_wp2_with fail
              all_goals
                go_step3
                refine (show _ ∧ JF w C _ _ from ⟨rfl, jf_of _ _ rfl rfl rfl rfl rfl _ _ rfl rfl ?_ ⟨f', nd', D, HDL.out⟩⟩)
                omega
          · have hmc : Hid (1 ≤ m ∨ h 0 < 53) := Lib.hid (by have := hdr.out; omega)
            have hmI : (-dr).toNat = m := by have := hdr.out; omega
            obtain ⟨P, o0, cap, p1, p6, p2, p3⟩ := hT.out.pow
            have p2 := p2
            have step := Lib.hid (fun (wq : World) (k : Nat) (wz : World) (hk : pw m = k) (hB2 : Below C w wq) (hS2 : wq.heap.size = w.heap.size) (hL2 : DecOK wq C h ld dr) (hp : LeftPost C h ld k dr wq wz) =>
              left_round (w := w) hk hB2 hS2 (hdr.out ▸ hL2) hmc.out hm199 (hdr.out ▸ hp) hx1 hP.out)
            by_cases h9 : 9 ≤ -dr
            · have hk27 := Lib.hid (pw_9 m (by omega))
              have hlt : dr < 0 := by omega
              clear p3
              go_wp2_with fail
              go_quiet (fail)
              have hLq : Hid (DecOK (wr.drewN nq) C h ld dr) := Lib.hid ⟨hL.out.dec.drew nq, hL.out.one, hL.out.max, hL.out.dig, hL.out.first⟩
              have hBq := Lib.hid (below_drewN hB.out nq)
              have hSq : Hid ((wr.drewN nq).heap.size = w.heap.size) := Lib.hid hS.out
              generalize wr.drewN nq = wq at hLq hBq hSq ⊢
              go_wp2_with fail
              refine (shiftL_calls C ld 27 h dr _ (Lib.hid (by decide)) (by rw [hSq.out]; exact hC) (Lib.hid (hE.out.below hBq.out).cheat) hLq (by omega)).mono ?_
              rintro e wz ⟨rfl, hp⟩
              obtain ⟨f', nd', m', a1, a2, a3, a4, a5, a6, a7⟩ := step.out wq 27 wz hk27.out hBq.out hSq.out hLq.out hp
              have a5 : -850 + (PL m' (f' 0) : Int) ≤ x - 27 := a5
              have a7 : x - 27 ≤ 828 := a7
              have a8 : -850 ≤ x - 27 := by omega
              have a2 := Lib.hid a2
              have a5 := Lib.hid a5
              have a6 := Lib.hid a6
              clear hp h801 p2 hd0
              go_wp2
              go_roundg (PL m' (f' 0))
              case rel => exact ⟨f', nd', -(m' : Int), x - 27, m', a1, by omega, by omega, a8, a7, rfl, Lib.hid rfl, a2, Lib.hid a3, Lib.hid a4, a5, Lib.hid rfl⟩
              case measure => rw [HG.out]; exact a6.out
            · have p3 := p3 m (by omega)
              have hshift : Hid (pw m ∈ shifts) := Lib.hid (pw_mem m)
              have hm9 : m < 9 := by omega
              have hcase : dr < 0 ∨ (¬ dr < 0 ∧ h 0 < 53) := by omega
              have hz : ¬ dr < 0 → (dr == 0) = true := fun hh => by simp; omega
              rcases hcase with c1 | ⟨c1, c2⟩
              case' inr =>
                have c3 := hz c1
                have c4 : decide (dr < 0) = false := by simp; omega
              all_goals
                clear hz hend
                go_wp2_with fail
                go_quiet (fail)
                have hLq : Hid (DecOK (wr.drewN nq) C h ld dr) := Lib.hid ⟨hL.out.dec.drew nq, hL.out.one, hL.out.max, hL.out.dig, hL.out.first⟩
                have hBq := Lib.hid (below_drewN hB.out nq)
                have hSq : Hid ((wr.drewN nq).heap.size = w.heap.size) := Lib.hid hS.out
                have p2' : (wr.drewN nq).cell? ⟨6, 0, none⟩ = _ := p2
                have p3' : (wr.drewN nq).cell? ⟨P, o0 + m, none⟩ = _ := p3
                have h801' := hLq.out.dec.hdp
                generalize wr.drewN nq = wq at hLq hBq hSq p2' p3' h801' ⊢
                clear p2 p3 h801 hd0
                go_wp2_with fail
                go_quiet (fail)
                have hLq2 : Hid (DecOK (wq.drewN nq) C h ld dr) := Lib.hid ⟨hLq.out.dec.drew nq, hLq.out.one, hLq.out.max, hLq.out.dig, hLq.out.first⟩
                have hBq2 := Lib.hid (below_drewN hBq.out nq)
                have hSq2 : Hid ((wq.drewN nq).heap.size = w.heap.size) := Lib.hid hSq.out
                generalize wq.drewN nq = wq2 at hLq2 hBq2 hSq2 ⊢
                clear p2' p3' h801'
                go_wp2_with fail
                refine (shiftL_calls C ld (pw m) h dr _ hshift (by rw [hSq2.out]; exact hC) (Lib.hid (hE.out.below hBq2.out).cheat) hLq2 (by omega)).mono ?_
                rintro e wz ⟨rfl, hp⟩
                obtain ⟨f', nd', m', a1, a2, a3, a4, a5, a6, a7⟩ := step.out wq2 (pw m) wz rfl hBq2.out hSq2.out hLq2.out hp
                have a8 : -850 ≤ x - (pw m : Int) := by omega
                have a2 := Lib.hid a2
                have a5 := Lib.hid a5
                have a6 := Lib.hid a6
                clear hp
                go_wp2
                go_roundg (PL m' (f' 0))
                case rel => exact ⟨f', nd', -(m' : Int), x - (pw m : Int), m', a1, by omega, by omega, a8, a7, rfl, Lib.hid rfl, a2, Lib.hid a3, Lib.hid a4, a5, Lib.hid rfl⟩
                case measure => rw [HG.out]; exact a6.out
  · rintro a wx hJ
    obtain ⟨sz, df, s0, s1, s5, ⟨e, he0, he1, s6⟩, ⟨x, s7⟩, f', nd', dp', hDL⟩ := hJ
    obtain ⟨fr, rfl⟩ := frame_open a sz df
    have e0 : fr 0 = _ := Option.some.inj s0
    have e1 : fr 1 = _ := Option.some.inj s1
    have e5 : fr 5 = _ := Option.some.inj s5
    have e6 : fr 6 = _ := Option.some.inj s6
    have e7 : fr 7 = _ := Option.some.inj s7
    clear s0 s1 s5 s6 s7 sz df
    rw [e0, e1, e5, e6, e7]
    clear e0 e1 e5 e6 e7
    obtain ⟨g4, g52, g11, gbias⟩ := (hE.out.below hDL.below).flt
    have g52 := g52
    have HDL := Lib.hid hDL
    clear hDL
    go_wp2_with fail
    go_quiet (fail)
    have HDq := Lib.hid (HDL.out.drew nq)
    have g52' : (wx.drewN nq).cell? ⟨4, 0, none⟩ = _ := g52
    have g11' : (wx.drewN nq).cell? ⟨4, 1, none⟩ = _ := g11
    generalize wx.drewN nq = wq at HDq g52' g11' ⊢
    clear g52 gbias g11
    obtain ⟨bn, hbn⟩ := HDq.out.dec.hneg
    cases bn with
    | false =>
      go_wp2_with fail
      rw [jump_ret]
      go_ret2
      exact ⟨⟨_, rfl⟩, HDq.out.below, HDq.out.size⟩
    | true =>
      go_wp2_with fail
      go_quiet (fail)
      have HDq2 := Lib.hid (HDq.out.drew nq)
      generalize wq.drewN nq = wq2 at HDq2 ⊢
      clear g52' g11' hbn
      go_wp2_with fail
      rw [jump_ret]
      go_ret2
      exact ⟨⟨_, rfl⟩, HDq2.out.below, HDq2.out.size⟩

end Go.Proofs.YtlpkdagdfopchaaGreatDoor
