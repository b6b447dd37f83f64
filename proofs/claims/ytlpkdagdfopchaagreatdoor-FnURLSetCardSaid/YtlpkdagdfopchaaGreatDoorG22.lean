/- atof64 f49. -/
import Derived.Test.YtlpkdagdfopchaaGreatDoorG23
namespace Go.Proofs.YtlpkdagdfopchaaGreatDoor
open Go.RowKit
set_option linter.unusedVariables false
set_option linter.unusedSimpArgs false

theorem take_get {s : ByteArray} {n j : Nat} (hn : n ≤ s.size) (hj : j < n) (h1 : j < (s.extract 0 n).size) (h2 : j < s.size) : (s.extract 0 n)[j] = s[j] := by
  simp [ByteArray.getElem_extract]
theorem figB_take {s : ByteArray} (h : FigB s) (n : Nat) (hn : n ≤ s.size) : FigB (s.extract 0 n) := by
  intro j hj
  have hj' : j < n := by simp [ByteArray.size_extract] at hj; omega
  rw [take_get hn hj' hj (by omega)]
  exact h j (by omega)
theorem oneDot_take {s : ByteArray} {n : Nat} (h : OneDot s n) (hn : n ≤ s.size) : OneDot (s.extract 0 n) n := by
  intro i j hi hj hij hjn hh
  rw [take_get hn (by omega) hi (by omega), take_get hn hjn hj (by omega)] at hh
  exact h i j (by omega) (by omega) hij hjn hh
theorem nonZ_take {s : ByteArray} {n : Nat} (h : NonZ s n) (hn : n ≤ s.size) : NonZ (s.extract 0 n) n := by
  obtain ⟨j, h1, h2, h3⟩ := h
  have hj : j < (s.extract 0 n).size := by simp [ByteArray.size_extract]; omega
  exact ⟨j, hj, h2, by rw [take_get hn h2 hj h1]; exact h3⟩
/-- An error that is not nil. -/
def IsErr (v : Value) : Prop := v ≠ .nilIface ∧ ∃ t u, v = .iface t u

set_option maxHeartbeats 1000000 in
set_option maxRecDepth 100000 in
theorem atof_letter (s : ByteArray) (w : World) (hs : 0 < s.size) (hsz : s.size ≤ 140737488355328) (h : (65 ≤ s[0].toNat ∧ s[0].toNat ≤ 90) ∨ (97 ≤ s[0].toNat ∧ s[0].toNat ≤ 122)) (hi : s[0].toNat ≠ 105 ∧ s[0].toNat ≠ 73 ∧ s[0].toNat ≠ 110 ∧ s[0].toNat ≠ 78) :
    Calls Tryz.prog 49 #[.string s] w fun r w' => r = .returned (.tuple #[.float .f64 0, .int .i64 0, .iface 53 (.int .i64 2)]) ∧ w' = w := by
  go_enter Tryz.func49, Tryz.ntmps49
  go_wp2_with fail
  refine (special_calls s _ hs (by omega)).mono ?_
  rintro e w1 ⟨rfl, rfl⟩
  go_wp2_with fail
  refine (readFloat_letter s _ hs hsz h).mono ?_
  rintro e w1 ⟨rfl, rfl⟩
  go_wp2_with fail
  refine bodyPost_ret (results_tmp3 rfl _ _ _) rfl ?_
  exact ⟨rfl, rfl⟩

structure AtofPost (s : ByteArray) (w : World) (r : Ending) (w' : World) : Prop where
  ret : ∃ m p tr n ok x err, RF s m p tr n ok ∧ r = .returned (.tuple #[.float .f64 x, .int .i64 (n : Int), err]) ∧ (ok = true → err = .nilIface) ∧ (ok = false → err = .iface 53 (.int .i64 2))
  below : Below w.heap.size w w'

theorem TabAt.up {w : World} {C D : Nat} (h : TabAt w C) (hCD : C ≤ D) : TabAt w D := ⟨by have := h.1; omega, h.2⟩

set_option maxHeartbeats 2000000 in
set_option maxRecDepth 100000 in
theorem atof_calls (s : ByteArray) (w : World) (hs1 : 1 ≤ s.size) (hs : s.size ≤ 199) (hF : Hid (FigB s)) (hE : Hid (Env w w.heap.size)) :
    Calls Tryz.prog 49 #[.string s] w fun r w' => AtofPost s w r w' := by
  have hc0 := hF.out 0 (by omega)
  have ho := hE.out.opt
  have hd := frombits_run
  have h52 := hE.out.f.flt.2.1
  go_enter Tryz.func49, Tryz.ntmps49
  go_wp2_with fail
  refine (special_calls s _ (by omega) (by omega)).mono ?_
  rintro e w1 ⟨rfl, rfl⟩
  go_wp2_with fail
  refine (readFloat_calls s _ hs1 hs hF).mono ?_
  rintro e w2 ⟨⟨m, p, tr, n, ok, hRF, rfl⟩, rfl⟩
  have hRF := Lib.hid hRF
  have hn := hRF.out.le
  cases ok with
  | false =>
    go_wp2_with fail
    refine bodyPost_ret (results_tmp3 rfl _ _ _) rfl ?_
    exact ⟨⟨m, p, tr, n, false, _, _, hRF.out, rfl, fun h => by simp at h, fun _ => rfl⟩, Below.refl _ _⟩
  | true =>
    go_wp2_with fail
    refine (bool2u_calls _ _).mono ?_
    rintro e w3 ⟨rfl, rfl⟩
    have hlo := hRF.out.lo
    have hhi := hRF.out.hi
    have hm19 : m < 10000000000000000000 := by have := hRF.out.mlt; simpa using this
    have hm64 : Hid (m < 18446744073709551616) := Lib.hid (by omega)
    have hm641 : Hid (m + 1 < 18446744073709551616) := Lib.hid (by omega)
    have e1 : IntKind.u64.wrap ((m : Int) + 1) = ((m + 1 : Nat) : Int) := u64_nat _ (m + 1) (by omega) (by omega)
    have hq : Hid (p = (((p + 348).toNat : Nat) : Int) - 348) := Lib.hid (by omega)
    have hEnd : Hid (∀ x, ∃ m p tr n' ok x' err, RF s m p tr n' ok ∧ Ending.returned (.tuple #[.float .f64 x, .int .i64 (n : Int), .nilIface]) = .returned (.tuple #[.float .f64 x', .int .i64 (n' : Int), err]) ∧ (ok = true → err = .nilIface) ∧ (ok = false → err = .iface 53 (.int .i64 2))) :=
      Lib.hid (fun x => ⟨m, p, tr, n, true, x, _, hRF.out, rfl, fun _ => rfl, fun h => by simp at h⟩)
    clear hm19
    cases t0 : ((m : Int) == 0) with
    | true =>
      go_wp2_with fail
      refine bodyPost_ret (results_tmp3 rfl _ _ _) rfl ?_
      exact ⟨hEnd.out _, Below.refl _ _⟩
    | false =>
      cases tr with
      | false =>
        go_wp2_with fail
        refine (exact_calls m p _ w3.heap.size (by omega) (Lib.hid hE.out.fl) h52).mono ?_
        rintro e w4 ⟨⟨x, b, rfl⟩, nn, rfl⟩
        have hB := Lib.hid (below_drewN (Below.refl w3.heap.size w3) nn)
        have hS : Hid ((w3.drewN nn).heap.size = w3.heap.size) := Lib.hid rfl
        generalize w3.drewN nn = w4 at hB hS ⊢
        cases b with
        | true =>
          go_wp2_with fail
          refine bodyPost_ret (results_tmp3 rfl _ _ _) rfl ?_
          exact ⟨hEnd.out _, hB.out⟩
        | false =>
          go_wp2_with fail
          refine (pf64_calls m (p + 348).toNat p _ _ hm64 hq (by omega) (Lib.hid (by rw [hS.out]; exact (hE.out.below hB.out).tab))).mono ?_
          rintro e w5 ⟨⟨y, rfl⟩, hB5⟩
          have hB5 := Lib.hid (hB.out.trans (hB5.mono (by rw [hS.out]; exact Nat.le_refl _)))
          go_wp2_with fail
          refine bodyPost_ret (results_tmp3 rfl _ _ _) rfl ?_
          exact ⟨hEnd.out _, hB5.out⟩
      | true =>
        go_wp2_with fail
        refine (pf64_calls m (p + 348).toNat p _ _ hm64 hq (by omega) (Lib.hid hE.out.tab)).mono ?_
        rintro e w5 ⟨⟨y, rfl⟩, hB5⟩
        have hB5 := Lib.hid hB5
        go_wp2_with fail
        refine (pf64_calls (m + 1) (p + 348).toNat p _ _ hm641 hq (by omega) (Lib.hid ((hE.out.below hB5.out).tab.up hB5.out.size))).mono ?_
        rintro e w6 ⟨⟨z, rfl⟩, hB6⟩
        have hB6 := Lib.hid (hB5.out.trans (hB6.mono hB5.out.size))
        cases hfe : (FloatKind.f64.format.order y z == some Ordering.eq) with
        | true =>
          go_wp2_with fail
          refine bodyPost_ret (results_tmp3 rfl _ _ _) rfl ?_
          exact ⟨hEnd.out _, hB6.out⟩
        | false =>
          have hn1 : 1 ≤ n := by
            obtain ⟨j, _, h, _⟩ := hRF.out.okk.1 rfl
            omega
          have hts : (s.extract 0 n).size = n := by simp [ByteArray.size_extract]; omega
          have hFt : Hid (FigB (s.extract 0 n)) := Lib.hid (figB_take hF.out n hn)
          have hOt : Hid (OneDot (s.extract 0 n) (s.extract 0 n).size) := Lib.hid (by rw [hts]; exact oneDot_take hRF.out.one hn)
          have hNt : Hid (NonZ (s.extract 0 n) (s.extract 0 n).size) := Lib.hid (by rw [hts]; exact nonZ_take (hRF.out.tr1 rfl) hn)
          go_wp2_with fail
          have hSA := Lib.hid hB6.out.size
          have hBA := Lib.hid (hB6.out.alloc hSA.out (Obj.cells Tryz.zeroCells84 84))
          have hCA : w6.heap.size < (w6.alloc (Obj.cells Tryz.zeroCells84 84)).heap.size := by simp
          have hDA := Lib.hid (decZero w6 w6.heap.size rfl)
          generalize hC : w6.heap.size = C at hCA hDA hSA ⊢
          generalize w6.alloc (Obj.cells Tryz.zeroCells84 84) = wa at hBA hCA hDA ⊢
          refine (set_calls C (s.extract 0 n) (fun _ => 0) wa hCA (by omega) (by omega) hFt hOt hNt hDA).mono ?_
          rintro e w7 ⟨rfl, f', nd', dp', d1, d2, hD7, hB7, hS7⟩
          have hD7 := Lib.hid hD7
          have hB7' := Lib.hid (hBA.out.trans (hB7.mono hSA.out))
          have hC7 : C < w7.heap.size := by rw [hS7]; exact hCA
          clear hB7 hS7
          go_wp2_with fail
          refine (floatBits_calls C nd' f' dp' w7 hC7 (Lib.hid ((hE.out.below hB7'.out).up hSA.out).f) hD7 ⟨d1, d2⟩).mono ?_
          rintro e w8 ⟨⟨xb, rfl⟩, hB8, hS8⟩
          have hB8' := Lib.hid (hB7'.out.trans (hB8.mono hSA.out))
          clear hB8 hS8
          go_wp2_with fail
          refine bodyPost_ret (results_tmp3 rfl _ _ _) rfl ?_
          exact ⟨hEnd.out _, hB8'.out⟩

end Go.Proofs.YtlpkdagdfopchaaGreatDoor
