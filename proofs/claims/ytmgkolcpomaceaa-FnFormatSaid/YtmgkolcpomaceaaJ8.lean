/- impl.Format. -/
import Derived.Test.YtmgkolcpomaceaaJ7
namespace Go.Proofs.Ytmgkolcpomaceaa
open Go.RowKit Go.Maps
set_option linter.unusedVariables false
set_option linter.unusedSimpArgs false

/-- A trusted URL, or an error. -/
def TrPost (r : Option (List UInt8)) (e : Ending) : Prop := match r with
  | some o => e = .returned (.tuple #[.agg #[.string ⟨o.toArray⟩], .nilIface])
  | none => ∃ (X : ByteArray) (a : Addr), e = .returned (.tuple #[.agg #[.string X], .iface 110 (.pointer (some a))])

set_option maxHeartbeats 16000000 in
set_option maxRecDepth 100000 in
theorem trFormat_calls (s : ByteArray) (l : List Pr) (b m : Nat) (w : World) (hok : pairsOkB l = true) (hs : s.size ≤ 200) (hown : Hid (Own79 w b m l)) :
    Calls Try.prog 131 #[.string s, .map (some b)] w fun e w' => TrPost (formatR l s.data.toList) e ∧ Below w.heap.size w w' := by
  have HP := Lib.hid (pat_based s.data.toList)
  have HOK := Lib.hid hok
  have hblt : b < w.heap.size := World.ownsMap.lt hown.out
  clear hok
  cases hbd : basedL s.data.toList with
  | false =>
    have HR := Lib.hid (show formatR l s.data.toList = none by rw [formatR, hbd]; simp)
    have Hbd := Lib.hid hbd
    clear hbd
    go_enter Try.func131, Try.ntmps131
    go_wp2_with fail
    refine (prefixOk_calls s _ (by omega)).mono ?_
    rw [HP.out, Hbd.out]
    rintro e w1 ⟨rfl, hb⟩
    have hsz := hb.size
    have hc1 : w1.cell? ⟨w.heap.size + 1, 0, none⟩ = some (.string ⟨#[]⟩) := by rw [hb.cell (by simp <;> omega)]; simp [go_sem]
    have hf1 : w1.frozen? ⟨w.heap.size + 1, 0, none⟩ = false := by rw [hb.frozen (by simp <;> omega)]; simp [go_sem]
    have hlt : w.heap.size + 1 < w1.heap.size := by have := hsz; simp at this; omega
    have HB := Lib.hid (show Below w.heap.size w w1 from (((Below.refl w.heap.size w).alloc (Nat.le_refl _) _).alloc (by simp) _).trans (hb.mono (by simp; omega)))
    clear hb hsz
    go_wp2_with fail
    refine (errNew_calls _ _).mono ?_
    rintro e w2 ⟨rfl, hb2⟩
    have hc2 : w2.cell? ⟨w.heap.size + 1, 0, none⟩ = some (.string ⟨#[]⟩) := (hb2.cell hlt).trans hc1
    have hf2 : w2.frozen? ⟨w.heap.size + 1, 0, none⟩ = false := (hb2.frozen hlt).trans hf1
    have HB2 := Lib.hid hb2
    clear hb2 hc1 hf1
    go_wp2_with fail
    refine bodyPost_ret (v := .tuple #[.agg #[.string ⟨#[]⟩], .iface 110 (.pointer (some ⟨w1.heap.size, 0, none⟩))]) (by simp [results, Try.results131, go_sem, hc2]) rfl ⟨by rw [HR.out]; exact ⟨_, _, rfl⟩, ?_⟩
    exact (below_then HB.out HB.out.size HB2.out).setCell (p := ⟨w.heap.size + 1, 0, none⟩) (Nat.le_succ _) _
  | true =>
    have HR := Lib.hid (show formatR l s.data.toList = fmt (valOf l) s.data.toList by rw [formatR, hbd]; simp)
    have Hbd := Lib.hid hbd
    clear hbd
    go_enter Try.func131, Try.ntmps131
    go_wp2_with fail
    refine (prefixOk_calls s _ (by omega)).mono ?_
    rw [HP.out, Hbd.out]
    rintro e w1 ⟨rfl, hb⟩
    have hsz := hb.size
    have hsz1 : w.heap.size + 2 ≤ w1.heap.size := by have := hsz; simp at this; omega
    have HB := Lib.hid (show Below w.heap.size w w1 from (((Below.refl w.heap.size w).alloc (Nat.le_refl _) _).alloc (by simp) _).trans (hb.mono (by simp; omega)))
    have HF := Lib.hid (show FSt (w1.alloc (Obj.cells #[.nilIface] 72)) w.heap.size w1.heap.size (w.heap.size + 1) b m l .nilIface from
      ⟨by rw [World.cell?_alloc_lt _ _ _ (by simp; omega), hb.cell (by simp <;> omega)]; simp [go_sem],
       by simp [go_sem], by simp [go_sem],
       by rw [World.cell?_alloc_lt _ _ _ (by simp; omega), hb.cell (by simp <;> omega)]; simp [go_sem],
       by
        have h1 : (w1.alloc (Obj.cells #[.nilIface] 72)).frozen? ⟨w.heap.size + 1, 0, none⟩ = w1.frozen? ⟨w.heap.size + 1, 0, none⟩ := (Below.own w1 _).frozen (by simp; omega)
        rw [h1, hb.frozen (by simp <;> omega)]; simp [go_sem],
       (hown.out.below HB.out).below (Below.own w1 _), by simp; omega, by simp, by simp; omega, by omega, by omega, by omega⟩)
    clear hb hsz
    go_wp2_with fail
    refine (markers_calls s l w.heap.size w1.heap.size (w.heap.size + 1) b m w.heap.size _ HOK.out hs HF (by omega) (by simp; omega)).mono ?_
    rintro e w3 ⟨A, ev, rfl, hfs, hb3, hcase⟩
    have HB3 := Lib.hid ((HB.out.alloc HB.out.size _).trans hb3)
    have HC := Lib.hid hcase
    have hd2 : w3.drew.cell? ⟨w1.heap.size, 0, none⟩ = some ev := hfs.c2
    have hd4 : w3.drew.cell? ⟨w.heap.size + 1, 0, none⟩ = some (.string ⟨#[]⟩) := hfs.c4
    have hdf : w3.drew.frozen? ⟨w.heap.size + 1, 0, none⟩ = false := hfs.f4
    have hc2 := hfs.c2
    have hc4 := hfs.c4
    have hf4 := hfs.f4
    have hne : w.heap.size + 1 ≠ w1.heap.size := by omega
    have hne2 : w1.heap.size ≠ w.heap.size + 1 := by omega
    clear hfs hb3 hcase
    go_upto_region 5 with fail
    go_region
    all_goals
      go_wp2_with fail
      refine bodyPost_ret (v := .tuple #[.agg #[.string A], ev]) (by simp [results, Try.results131, go_sem, hc4, hd4]) rfl ⟨?_, (HB3.out.drew).setCell (p := ⟨w.heap.size + 1, 0, none⟩) (Nat.le_succ _) _⟩
      rw [HR.out]
      rcases HC.out with ⟨h1, h2⟩ | ⟨⟨a, h1⟩, h2⟩
      · rw [h2, h1]; rfl
      · rw [h2, h1]; exact ⟨_, _, rfl⟩

theorem TrPost.shape {r : Option (List UInt8)} {e : Ending} (h : TrPost r e) : ∃ (X : ByteArray) (ev : Value), e = .returned (.tuple #[.agg #[.string X], ev]) ∧ ((ev = .nilIface ∧ r = some X.data.toList) ∨ (IsErr ev ∧ r = none)) := by
  cases r with
  | some o => exact ⟨_, _, h, .inl ⟨rfl, rfl⟩⟩
  | none =>
    obtain ⟨X, a, h⟩ := h
    exact ⟨X, _, h, .inr ⟨⟨a, rfl⟩, rfl⟩⟩
theorem TrPost.of {r : Option (List UInt8)} {X : ByteArray} {ev : Value} (h : (ev = .nilIface ∧ r = some X.data.toList) ∨ (IsErr ev ∧ r = none)) : TrPost r (.returned (.tuple #[.agg #[.string X], ev])) := by
  rcases h with ⟨rfl, rfl⟩ | ⟨⟨a, rfl⟩, rfl⟩
  · exact rfl
  · exact ⟨_, _, rfl⟩

set_option maxHeartbeats 4000000 in
set_option maxRecDepth 100000 in
theorem fromFormat_calls (s : ByteArray) (l : List Pr) (b m : Nat) (w : World) (hok : pairsOkB l = true) (hs : s.size ≤ 200) (hown : Hid (Own79 w b m l)) :
    Calls Try.prog 106 #[.string s, .map (some b)] w fun e w' => TrPost (formatR l s.data.toList) e ∧ Below w.heap.size w w' := by
  go_enter Try.func106, Try.ntmps106
  go_wp2_with fail
  refine (trFormat_calls s l b m _ hok hs (hown.out.below (Below.own w _))).mono ?_
  rintro e w1 ⟨hp, hb⟩
  obtain ⟨X, ev, rfl, hc⟩ := hp.shape
  have HC := Lib.hid hc
  have hc1 := own_cell hb 0
  have hf1 := own_free hb 0
  have HB := Lib.hid hb
  clear hb hp hc
  simp at hc1
  go_wp2_with fail
  refine bodyPost_ret (v := .tuple #[.agg #[.string X], ev]) (by simp [results, Try.results106, go_sem, hc1]) rfl ⟨TrPost.of HC.out, ?_⟩
  exact (below_own HB.out).setCell (p := ⟨w.heap.size, 0, none⟩) (Nat.le_refl _) _

set_option maxHeartbeats 4000000 in
set_option maxRecDepth 100000 in
theorem zzFormat_calls (s : ByteArray) (l : List Pr) (b m : Nat) (w : World) (hok : pairsOkB l = true) (hs : s.size ≤ 200) (hown : Hid (Own79 w b m l)) :
    Calls Try.prog 83 #[.string s, .map (some b)] w fun e w' => TrPost (formatR l s.data.toList) e ∧ Below w.heap.size w w' := by
  go_enter Try.func83, Try.ntmps83
  go_wp2_with fail
  refine (fromFormat_calls s l b m _ hok hs (hown.out.below (Below.own w _))).mono ?_
  rintro e w1 ⟨hp, hb⟩
  obtain ⟨X, ev, rfl, hc⟩ := hp.shape
  have HC := Lib.hid hc
  have hc1 := own_cell hb 0
  have hf1 := own_free hb 0
  have HB := Lib.hid hb
  clear hb hp hc
  simp at hc1
  go_wp2_with fail
  refine bodyPost_ret (v := .tuple #[.agg #[.string X], ev]) (by simp [results, Try.results83, go_sem, hc1]) rfl ⟨TrPost.of HC.out, ?_⟩
  exact (below_own HB.out).setCell (p := ⟨w.heap.size, 0, none⟩) (Nat.le_refl _) _

set_option maxHeartbeats 8000000 in
set_option maxRecDepth 100000 in
theorem implFormat_calls (s : ByteArray) (l : List Pr) (A : Option Addr) (cap : Nat) (w : World) (hok : pairsOkB l = true) (hs : s.size ≤ 200) (ha : Hid (asciiB s = true)) (hA : Hid (PairsAt w A l)) :
    Calls Try.prog 38 #[.string s, .slice A l.length cap] w fun e w' => e = .returned (.tuple #[.string (resS (formatR l s.data.toList)), .bool (formatR l s.data.toList).isSome]) ∧ Below w.heap.size w w' := by
  have HP := Lib.hid (show (asciiB s && smallB s) = true by rw [ha.out]; simp [smallB, hs])
  have HOK := Lib.hid hok
  clear hok
  go_enter Try.func38, Try.ntmps38
  go_wp2_with fail
  refine (implPairs_calls l A cap _ hA HOK.out).mono ?_
  rintro e w1 ⟨b, rfl, hbb, hown, hb1⟩
  have HOwn := Lib.hid (hown.below (Below.own w1 (Obj.cells #[.string s] 9)))
  have HB1 := Lib.hid (hb1.alloc hb1.size (Obj.cells #[.string s] 9))
  clear hown hb1
  go_wp2_with fail
  refine (isPlain_one s _ _ _ (by exact strsAt_new _ _ [s] 9 (by simp)) (by omega)).mono ?_
  rw [HP.out]
  rintro e w2 ⟨rfl, rfl⟩
  go_wp2_with fail
  refine (zzFormat_calls s l b _ _ HOK.out hs HOwn).mono ?_
  rintro e w3 ⟨hp, hb3⟩
  obtain ⟨X, ev, rfl, hc⟩ := hp.shape
  have HB3 := Lib.hid (below_then HB1.out HB1.out.size hb3)
  clear hb3 hp
  rcases hc with ⟨rfl, hr⟩ | ⟨⟨a, rfl⟩, hr⟩
  · have HR := Lib.hid hr
    clear hr
    go_wp2_with fail
    refine (trusted_ok _ _).mono ?_
    rintro e w4 ⟨rfl, hb4⟩
    go_wp2_with fail
    go_ret2
    exact ⟨by rw [HR.out]; rfl, below_then HB3.out HB3.out.size hb4⟩
  · have HR := Lib.hid hr
    clear hr
    go_wp2_with fail
    refine (trusted_no _ _ _).mono ?_
    rintro e w4 ⟨rfl, hb4⟩
    go_wp2_with fail
    go_ret2
    exact ⟨by rw [HR.out]; rfl, below_then HB3.out HB3.out.size hb4⟩
end Go.Proofs.Ytmgkolcpomaceaa
