/- coerceToUTF8InterchangeValid. -/
import Derived.Test.YtmgkolcpomaceaaB5
import Derived.Test.YtmgkolcpomaceaaD1
import Derived.Test.YtmgkolcpomaceaaD2
namespace Go.Proofs.Ytmgkolcpomaceaa
open Go.RowKit

def fixR (r : Int) : Int := if badR r then 65533 else r

set_option maxHeartbeats 1000000 in
set_option maxRecDepth 100000 in
theorem coerce_calls (s : ByteArray) (w : World) (hs : s.size ≤ 2147483647) :
    Calls Try.prog 122 #[.string s] w fun e w' => e = .returned (.string (runesBytes ((runesAt s 0).map fixR))) ∧ Below w.heap.size w w' := by
  obtain ⟨i0, hi, hz0, hz1, hz2⟩ := info_parts info21
  have hb4 : i0.bytes * s.size ≤ 281474976710656 := by rw [hz2]; omega
  have hml : s.size ≤ maxLen := by unfold maxLen; omega
  have HI := Lib.hid hi
  have HZ := Lib.hid (And.intro hz0 (And.intro hz1 hz2))
  clear hi hz0 hz1 hz2
  go_enter Try.func122, Try.ntmps122
  go_wp2_with (at_make; refine wpList_make_own _ rfl _ _ 118 rfl w.heap.size 21 i0 (.int .i32 0) 1 Try.underlying118 HI.out HZ.out.1 HZ.out.2.1 _ _ _ s.size rfl rfl rfl hb4 hml (Nat.le_refl _) ?_; intro w1 hown1 hg1)
  have hsz1 := hg1.size
  have HR1 := Lib.hid (show RBuf (w1.iter s 0) w.heap.size (.slice (some ⟨w.heap.size, 0, none⟩) 0 s.size) [] from RBuf.alloc (l := []) hown1 _)
  have HB1 := Lib.hid (show Below w.heap.size w (w1.iter s 0) from ((Below.refl _ _).grown hg1 (Nat.le_refl _) (fun k hk => by cases hk)).alloc hsz1 _)
  have HI1 := Lib.hid (World.iter_heap w1 s 0)
  clear hown1 hg1
  go_loopg [3] s.size (fun g v wr => ∃ (pos : Nat) (l : List Int), g = s.size - pos ∧ wr.heap[w1.heap.size]? = some (.stringIter s pos) ∧ Hid (RBuf wr w.heap.size v l) ∧ Hid (l ++ (runesAt s pos).map fixR = (runesAt s 0).map fixR) ∧ Hid (Below w.heap.size w wr))
  case atStart => exact ⟨0, [], by simp, HI1, HR1, by simp [Hid], HB1⟩
  case round =>
    obtain ⟨pos, l, rfl, hk, hbuf, hl, hB⟩ := hrel
    by_cases hlt : pos < s.size
    · have hnx := fun ty => Lib.run_next_any_at (P := Try.prog) wr w1.heap.size s pos ty hk hlt
      go_wp2_with fail
      have hd := decode_step s pos
      have hki := Lib.hid (Lib.iterAt_heap wr w1.heap.size s pos (pos + (Utf8.decode s pos).2) hk)
      have hbufi := Lib.hid (hbuf.out.iterAt hk (pos + (Utf8.decode s pos).2))
      have hBi := Lib.hid (Lib.below_iterAt hB.out (k := w1.heap.size) hsz1 s (pos + (Utf8.decode s pos).2))
      have hlen : l.length ≤ 2147483647 := by
        have h1 := runesAt_len s s.size 0 (by simp)
        have h2 : (l ++ (runesAt s pos).map fixR).length = (runesAt s 0).length := by rw [hl.out]; simp
        rw [List.length_append] at h2
        omega
      generalize wr.iterAt w1.heap.size s (pos + (Utf8.decode s pos).2) = wi at hki hbufi hBi ⊢
      refine (badR_calls _ _).mono ?_
      rintro e w' ⟨rfl, rfl⟩
      clear hnx
      cases hp : badR ((Utf8.decode s pos).1 : Int)
      · have HM := Lib.hid (show (wi.alloc (.cells #[.int .i32 ((Utf8.decode s pos).1 : Int)] 21)).cell? ⟨wi.heap.size, 0, none⟩ = some (runeV ((Utf8.decode s pos).1 : Int)) by simp [go_sem, runeV])
        have HS := Lib.hid (show w.heap.size ≤ (wi.alloc (.cells #[.int .i32 ((Utf8.decode s pos).1 : Int)] 21)).heap.size by have := hBi.out.size; simp; omega)
        have HP := Lib.hid hp
        go_wp2_with (at_builtin; refine rbuf_append rfl _ _ rfl w.heap.size _ _ rfl (hbufi.out.alloc _) _ _ rfl (((Utf8.decode s pos).1 : Int)) HM.out hlen HS.out ?_; intro v' w' hb' hg' hbel')
        go_roundg (s.size - (pos + (Utf8.decode s pos).2))
        case measure => omega
        case rel => exact ⟨pos + (Utf8.decode s pos).2, l ++ [((Utf8.decode s pos).1 : Int)], rfl, riter_keep (hbufi.out.alloc _) (iter_alloc hki.out _) hg', hb', by rw [Hid, ← hl.out, runesAt_cons s pos hlt]; simp [fixR, HP.out], (hBi.out.alloc hBi.out.size _).trans hbel'⟩
      · have HM := Lib.hid (show (wi.alloc (.cells #[.int .i32 65533] 21)).cell? ⟨wi.heap.size, 0, none⟩ = some (runeV 65533) by simp [go_sem, runeV])
        have HS := Lib.hid (show w.heap.size ≤ (wi.alloc (.cells #[.int .i32 65533] 21)).heap.size by have := hBi.out.size; simp; omega)
        have HP := Lib.hid hp
        go_wp2_with (at_builtin; refine rbuf_append rfl _ _ rfl w.heap.size _ _ rfl (hbufi.out.alloc _) _ _ rfl (65533) HM.out hlen HS.out ?_; intro v' w' hb' hg' hbel')
        go_roundg (s.size - (pos + (Utf8.decode s pos).2))
        case measure => omega
        case rel => exact ⟨pos + (Utf8.decode s pos).2, l ++ [65533], rfl, riter_keep (hbufi.out.alloc _) (iter_alloc hki.out _) hg', hb', by rw [Hid, ← hl.out, runesAt_cons s pos hlt]; simp [fixR, HP.out], (hBi.out.alloc hBi.out.size _).trans hbel'⟩
    · have hnx := fun ty => Lib.run_next_end_at (P := Try.prog) wr w1.heap.size s pos ty hk hlt
      have hcv := rbuf_string hbuf.out
      have HL := Lib.hid (show l = (runesAt s 0).map fixR by have := hl.out; rw [runesAt_end s pos hlt] at this; simpa using this)
      go_wp2
      go_ret
      exact ⟨ret_string (by rw [HL.out]), hB.out⟩
end Go.Proofs.Ytmgkolcpomaceaa
