/- math/bits.Len64 f72, log2Pow10 f73, Mul64 f84, uscale f75 and its like. -/
import Derived.Test.YtlpkdagdfopchaaGreatDoorG15
namespace Go.Proofs.YtlpkdagdfopchaaGreatDoor
open Go.RowKit
set_option linter.unusedVariables false
set_option linter.unusedSimpArgs false

set_option maxHeartbeats 2000000 in
set_option maxRecDepth 1000000 in
theorem len64_calls (x : Nat) (w : World) (hx : x < 18446744073709551616) : Calls Tryz.prog 72 #[.int .u64 (x : Int)] w fun r w' => (∃ b : Nat, b ≤ 64 ∧ r = .returned (.int .i64 (b : Int))) ∧ w' = w := by
  go_enter Tryz.func72, Tryz.ntmps72
  generalize hT : (ByteArray.mk (List.toArray (List.append _ _))) = T
  have hsz : T.size = 256 := by rw [← hT]; rfl
  have hall : T.data.toList.all (fun c => decide (c.toNat ≤ 8)) = true := by rw [← hT]; decide +kernel
  clear hT
  have hv : Hid (∀ (i : Nat) (h : i < T.size), T[i].toNat ≤ 8) := Lib.hid (fun i h => by
    have := List.all_eq_true.1 hall T[i] (by simp [ByteArray.getElem_eq_getElem_data])
    simpa using this)
  clear hall
  have hsz := Lib.hid hsz
  have h0 := Lib.hid hx
  clear hx
  by_cases c0 : 4294967296 ≤ x
  · have t0 : decide ((4294967296 : Int) ≤ (x : Int)) = true := by simp; omega
    obtain ⟨y0, hy⟩ : ∃ y, y = x / 4294967296 := ⟨_, rfl⟩
    have e0 : (x : Int) / 4294967296 = (y0 : Int) := by omega
    have h1 : Hid (y0 < 4294967296) := Lib.hid (by have := h0.out; omega)
    clear hy c0
    by_cases c1 : 65536 ≤ y0
    · have t1 : decide ((65536 : Int) ≤ (y0 : Int)) = true := by simp; omega
      obtain ⟨y1, hy⟩ : ∃ y, y = y0 / 65536 := ⟨_, rfl⟩
      have e1 : (y0 : Int) / 65536 = (y1 : Int) := by omega
      have h2 : Hid (y1 < 65536) := Lib.hid (by have := h1.out; omega)
      clear hy c1
      by_cases c2 : 256 ≤ y1
      · have t2 : decide ((256 : Int) ≤ (y1 : Int)) = true := by simp; omega
        obtain ⟨y2, hy⟩ : ∃ y, y = y1 / 256 := ⟨_, rfl⟩
        have e2 : (y1 : Int) / 256 = (y2 : Int) := by omega
        have h3 : Hid (y2 < 256) := Lib.hid (by have := h2.out; omega)
        clear hy c2
        have hb : y2 < T.size := by rw [hsz.out]; have := h3.out; omega
        have h8 := hv.out y2 hb
        have e8 : (y2 : Int) % 256 = (y2 : Int) := by have := h3.out; omega
        generalize hV : T[y2].toNat = V at h8
        go_wp2_with fail
        go_ret
        refine ⟨⟨56 + V, by omega, ?_⟩, rfl⟩
        exact congrArg (fun z => Ending.returned (Value.int .i64 z)) (by omega)
      · have t2 : decide ((256 : Int) ≤ (y1 : Int)) = false := by simp; omega
        have h3 : Hid (y1 < 256) := Lib.hid (by omega)
        clear c2
        have hb : y1 < T.size := by rw [hsz.out]; have := h3.out; omega
        have h8 := hv.out y1 hb
        have e8 : (y1 : Int) % 256 = (y1 : Int) := by have := h3.out; omega
        generalize hV : T[y1].toNat = V at h8
        go_wp2_with fail
        go_ret
        refine ⟨⟨48 + V, by omega, ?_⟩, rfl⟩
        exact congrArg (fun z => Ending.returned (Value.int .i64 z)) (by omega)
    · have t1 : decide ((65536 : Int) ≤ (y0 : Int)) = false := by simp; omega
      have h2 : Hid (y0 < 65536) := Lib.hid (by omega)
      clear c1
      by_cases c2 : 256 ≤ y0
      · have t2 : decide ((256 : Int) ≤ (y0 : Int)) = true := by simp; omega
        obtain ⟨y2, hy⟩ : ∃ y, y = y0 / 256 := ⟨_, rfl⟩
        have e2 : (y0 : Int) / 256 = (y2 : Int) := by omega
        have h3 : Hid (y2 < 256) := Lib.hid (by have := h2.out; omega)
        clear hy c2
        have hb : y2 < T.size := by rw [hsz.out]; have := h3.out; omega
        have h8 := hv.out y2 hb
        have e8 : (y2 : Int) % 256 = (y2 : Int) := by have := h3.out; omega
        generalize hV : T[y2].toNat = V at h8
        go_wp2_with fail
        go_ret
        refine ⟨⟨40 + V, by omega, ?_⟩, rfl⟩
        exact congrArg (fun z => Ending.returned (Value.int .i64 z)) (by omega)
      · have t2 : decide ((256 : Int) ≤ (y0 : Int)) = false := by simp; omega
        have h3 : Hid (y0 < 256) := Lib.hid (by omega)
        clear c2
        have hb : y0 < T.size := by rw [hsz.out]; have := h3.out; omega
        have h8 := hv.out y0 hb
        have e8 : (y0 : Int) % 256 = (y0 : Int) := by have := h3.out; omega
        generalize hV : T[y0].toNat = V at h8
        go_wp2_with fail
        go_ret
        refine ⟨⟨32 + V, by omega, ?_⟩, rfl⟩
        exact congrArg (fun z => Ending.returned (Value.int .i64 z)) (by omega)
  · have t0 : decide ((4294967296 : Int) ≤ (x : Int)) = false := by simp; omega
    have h1 : Hid (x < 4294967296) := Lib.hid (by omega)
    clear c0
    by_cases c1 : 65536 ≤ x
    · have t1 : decide ((65536 : Int) ≤ (x : Int)) = true := by simp; omega
      obtain ⟨y1, hy⟩ : ∃ y, y = x / 65536 := ⟨_, rfl⟩
      have e1 : (x : Int) / 65536 = (y1 : Int) := by omega
      have h2 : Hid (y1 < 65536) := Lib.hid (by have := h1.out; omega)
      clear hy c1
      by_cases c2 : 256 ≤ y1
      · have t2 : decide ((256 : Int) ≤ (y1 : Int)) = true := by simp; omega
        obtain ⟨y2, hy⟩ : ∃ y, y = y1 / 256 := ⟨_, rfl⟩
        have e2 : (y1 : Int) / 256 = (y2 : Int) := by omega
        have h3 : Hid (y2 < 256) := Lib.hid (by have := h2.out; omega)
        clear hy c2
        have hb : y2 < T.size := by rw [hsz.out]; have := h3.out; omega
        have h8 := hv.out y2 hb
        have e8 : (y2 : Int) % 256 = (y2 : Int) := by have := h3.out; omega
        generalize hV : T[y2].toNat = V at h8
        go_wp2_with fail
        go_ret
        refine ⟨⟨24 + V, by omega, ?_⟩, rfl⟩
        exact congrArg (fun z => Ending.returned (Value.int .i64 z)) (by omega)
      · have t2 : decide ((256 : Int) ≤ (y1 : Int)) = false := by simp; omega
        have h3 : Hid (y1 < 256) := Lib.hid (by omega)
        clear c2
        have hb : y1 < T.size := by rw [hsz.out]; have := h3.out; omega
        have h8 := hv.out y1 hb
        have e8 : (y1 : Int) % 256 = (y1 : Int) := by have := h3.out; omega
        generalize hV : T[y1].toNat = V at h8
        go_wp2_with fail
        go_ret
        refine ⟨⟨16 + V, by omega, ?_⟩, rfl⟩
        exact congrArg (fun z => Ending.returned (Value.int .i64 z)) (by omega)
    · have t1 : decide ((65536 : Int) ≤ (x : Int)) = false := by simp; omega
      have h2 : Hid (x < 65536) := Lib.hid (by omega)
      clear c1
      by_cases c2 : 256 ≤ x
      · have t2 : decide ((256 : Int) ≤ (x : Int)) = true := by simp; omega
        obtain ⟨y2, hy⟩ : ∃ y, y = x / 256 := ⟨_, rfl⟩
        have e2 : (x : Int) / 256 = (y2 : Int) := by omega
        have h3 : Hid (y2 < 256) := Lib.hid (by have := h2.out; omega)
        clear hy c2
        have hb : y2 < T.size := by rw [hsz.out]; have := h3.out; omega
        have h8 := hv.out y2 hb
        have e8 : (y2 : Int) % 256 = (y2 : Int) := by have := h3.out; omega
        generalize hV : T[y2].toNat = V at h8
        go_wp2_with fail
        go_ret
        refine ⟨⟨8 + V, by omega, ?_⟩, rfl⟩
        exact congrArg (fun z => Ending.returned (Value.int .i64 z)) (by omega)
      · have t2 : decide ((256 : Int) ≤ (x : Int)) = false := by simp; omega
        have h3 : Hid (x < 256) := Lib.hid (by omega)
        clear c2
        have hb : x < T.size := by rw [hsz.out]; have := h3.out; omega
        have h8 := hv.out x hb
        have e8 : (x : Int) % 256 = (x : Int) := by have := h3.out; omega
        generalize hV : T[x].toNat = V at h8
        go_wp2_with fail
        go_ret
        refine ⟨⟨0 + V, by omega, ?_⟩, rfl⟩
        exact congrArg (fun z => Ending.returned (Value.int .i64 z)) (by omega)

set_option maxRecDepth 100000 in
theorem log2_calls (p : Int) (w : World) (hp : -220 ≤ p ∧ p ≤ 200) : Calls Tryz.prog 73 #[.int .i64 p] w fun r w' => (∃ q, -731 ≤ q ∧ q ≤ 664 ∧ r = .returned (.int .i64 q)) ∧ w' = w := by
  go_enter Tryz.func73, Tryz.ntmps73
  go_wp2_with fail
  go_ret
  exact ⟨⟨_, by omega, by omega, rfl⟩, rfl⟩

end Go.Proofs.YtlpkdagdfopchaaGreatDoor
