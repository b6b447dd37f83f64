/- spec.hex (a number's last figures to the base 16) and spec.Percent. -/
import Derived.Test.YtmgkolcpomaceaaH1
import Derived.Laws.BitsLemmas
import Derived.Deep.DeepCutAuto
namespace Go.Proofs.Ytmgkolcpomaceaa
open Go.RowKit
set_option linter.unusedVariables false
set_option linter.unusedSimpArgs false

def hexL (f : List UInt8) : Nat → Nat → List UInt8
  | 0, _ => []
  | z + 1, n => hexL f z (n / 16) ++ [f.getD (n % 16) 0]
theorem hexL_len (f : List UInt8) : ∀ z n, (hexL f z n).length = z
  | 0, _ => rfl
  | z + 1, n => by simp [hexL, hexL_len f z]
theorem wrap63 : ∀ n : Int, 0 ≤ n → n < 2 ^ 63 → IntKind.i64.wrap n = n := fun n h h' => by
  have e : (2:Int)^63 = 9223372036854775808 := by decide
  rw [e] at h'
  rw [IntKind.wrap_i64]; omega
theorem and15i (n : Nat) (h : n < 9223372036854775808) : bits .and .i64 (n : Int) 15 = ((n % 16 : Nat) : Int) := by
  have h1 := bits_mask .i64 63 (by decide) wrap63 4 (by decide) (n : Int) (by omega) (by have e : (2:Int)^63 = 9223372036854775808 := by decide
                                                                                         rw [e]; omega)
  have e : ((2:Int)^4 - 1) = 15 := by decide
  have e2 : ((2:Int)^4) = 16 := by decide
  rw [e, e2] at h1
  rw [h1]; omega
theorem getD_byte (s : ByteArray) (k : Nat) (h : k < s.size) : s.data.toList.getD k 0 = s[k] := by
  rw [List.getD_eq_getElem?_getD, List.getElem?_eq_getElem (by simpa using h)]; rfl
/-- The row at block g: z bytes; those from c on are T. -/
def HexAt (w : World) (g z c : Nat) (T : List UInt8) : Prop := (∀ j, j < z → (w.cell? ⟨g, j, none⟩).isSome = true ∧ w.frozen? ⟨g, j, none⟩ = false) ∧ (∀ j (h : j < T.length), w.cell? ⟨g, c + j, none⟩ = some (byteV T[j])) ∧ c + T.length = z
theorem HexAt.set {w : World} {g z c : Nat} {T : List UInt8} (h : HexAt w g z (c + 1) T) (x : UInt8) : HexAt (w.setCell ⟨g, c, none⟩ (byteV x)) g z c (x :: T) := by
  have hz := h.2.2
  refine ⟨fun j hj => ⟨?_, ?_⟩, fun j hj => ?_, by simp; omega⟩
  · by_cases e : j = c
    · subst e
      rw [World.cell?_setCell_same' _ _ _ (h.1 j hj).1]; rfl
    · rw [World.cell?_setCell_other _ _ _ _ (by intro h; simp only [Addr.mk.injEq] at h; omega)]
      exact (h.1 j hj).1
  · rw [World.frozen?_setCell]; exact (h.1 j hj).2
  · rcases j with _ | j
    · exact World.cell?_setCell_same' _ _ _ (h.1 c (by omega)).1
    · rw [World.cell?_setCell_other _ _ _ _ (by intro h; simp only [Addr.mk.injEq] at h; omega)]
      have hj' : j < T.length := by simpa using hj
      have := h.2.1 j hj'
      simpa [Nat.add_assoc, Nat.add_comm 1 j] using this
theorem hexAt_made {w : World} {B g n cap : Nat} (h : Buf w B (.slice (some ⟨g, 0, none⟩) n cap) (List.replicate n 0)) : HexAt w g n n [] := by
  rcases h.2 with ⟨h1, _⟩ | ⟨g', cap', cur, hv, hg, hh, hc, _, hsz, ht⟩
  · simp at h1
  · have e : g = g' := by injection hv with h1 h2 h3; injection h1 with h4; injection h4
    subst e
    have hn : n ≤ cur.size := by
      have h1 := congrArg List.length ht
      simp at h1
      omega
    refine ⟨fun j hj => ⟨?_, ?_⟩, fun j hj => by simp at hj, by simp⟩
    · rw [cell_of_row w g j cur 5 (0, 0) hh, Array.getElem?_eq_getElem (by omega)]; rfl
    · simp [World.frozen?, hh]

set_option maxHeartbeats 16000000 in
set_option maxRecDepth 100000 in
theorem hex_calls (F : ByteArray) (hF : F.size = 16) (n z : Nat) (hz : 1 ≤ z) (hz2 : z ≤ 64) (hn : n < 4611686018427387904) (w : World) :
    Calls Try.prog 76 #[.int .i64 n, .int .i64 z, .string F] w fun e w' => e = .returned (.string ⟨(hexL F.data.toList z n).toArray⟩) ∧ Below w.heap.size w w' := by
  obtain ⟨i0, hi, hz0, hz1, hz3⟩ := info_parts info5
  have hbz : i0.bytes * z ≤ 281474976710656 := by rw [hz3]; omega
  have hml : z ≤ maxLen := by unfold maxLen; omega
  have Hi := Lib.hid hi
  have Hz0 := Lib.hid hz0
  have Hz1 := Lib.hid hz1
  clear hi hz0 hz1 hz3
  go_enter Try.func76, Try.ntmps76
  go_wp2_with (at_make; refine wpList_make_full w rfl _ _ _ rfl w.heap.size 5 i0 _ 1 Try.underlying47 Hi.out Hz0.out Hz1.out .i64 .i64 _ _ z rfl rfl rfl rfl hbz hml (Nat.le_refl _) ?_; intro w1 hown hg1)
  have hmade : HexAt w1 w.heap.size z z [] := hexAt_made (B := w.heap.size) (cap := z) (by
    have e : (madeCells (Value.int IntKind.u8 0).cells (z * 1)).toList = (List.replicate z (0 : UInt8)).map byteV := by
      simp [madeCells, Value.cells, byteV]
      refine List.ext_getElem (by simp) fun i h1 h2 => ?_
      simp [Nat.mod_one]
    rw [e] at hown
    have e2 : z = (List.replicate z (0:UInt8)).length := by simp
    unfold Buf
    rw [← e2]
    exact hown)
  have Hmade := Lib.hid hmade
  have hB1 := Lib.hid ((Below.refl w.heap.size w).grown hg1 (Nat.le_refl _) (fun k hk => by simp at hk))
  clear hmade hown hg1 hbz hml Hi Hz0 Hz1
  go_loopg [0, 8] z (fun c v0 v8 wr => ∃ (N : Nat) (T : List UInt8) (I : Int), c ≤ z ∧ v0 = .int .i64 N ∧ v8 = .int .i64 I ∧ I = (c:Int) - 1 ∧ N < 4611686018427387904 ∧ Hid (HexAt wr w.heap.size z c T) ∧ Hid (hexL F.data.toList c N ++ T = hexL F.data.toList z n) ∧ Hid (Below w.heap.size w wr))
  case atStart =>
    exact ⟨n, [], _, Nat.le_refl _, rfl, rfl, by omega, hn, Hmade, by simp [Hid], hB1⟩
  case round =>
    obtain ⟨N, T, I, hc, rfl, rfl, hI, hN, hat, hT, hB⟩ := hrel
    rcases gk with _ | c
    · obtain rfl : I = -1 := by omega
      have HC : Hid (hexL F.data.toList z n = T) := by rw [Hid, ← hT.out]; rfl
      have hTl : T.length = z := by have := hat.out.2.2; omega
      have hadd : ∀ j, (⟨w.heap.size, 0, none⟩ : Addr).add j = ⟨w.heap.size, j, none⟩ := fun j => by unfold Addr.add; split <;> simp_all
      have hcv := run_convert_bytes_back wr 47 9 5 ⟨w.heap.size, 0, none⟩ z T Try.underlying47 Try.underlying5 Try.underlying9 (fun j hj => by rw [hadd]; have h5 := hat.out.2.1 j hj; rw [Nat.zero_add] at h5; exact h5)
      rw [hTl] at hcv
      clear hadd hTl hI
      go_wp2_with fail
      go_ret
      exact ⟨ret_string (by rw [HC.out]), hB.out⟩
    · obtain rfl : I = (c : Int) := by omega
      have hA := and15i N (by omega)
      have h0 : (0:Int) ≤ (c:Int) := by omega
      clear hI
      have hix : (0:Int) ≤ ((N % 16 : Nat) : Int) ∧ ((N % 16 : Nat) : Int) < 16 := by omega
      have hfz := (hat.out.1 c (by omega)).2
      obtain ⟨u, hcl⟩ := Option.isSome_iff_exists.1 (hat.out.1 c (by omega)).1
      have hD : Hid (F.data.toList.getD (N % 16) 0 = F[N % 16]'(by omega)) := getD_byte F _ (by omega)
      go_wp2_with fail
      go_roundg c
      case measure => omega
      case rel =>
        refine ⟨N / 16, F[N % 16]'(by omega) :: T, _, by omega, by simp, rfl, rfl, by omega, HexAt.set hat.out _, ?_, hB.out.setCell (Nat.le_refl _) _⟩
        rw [Hid, ← hT.out, hexL, hD.out]
        simp

theorem bytes_append (a b : ByteArray) : (a ++ b).data.toList = a.data.toList ++ b.data.toList := by simp
theorem hex2 (c : UInt8) : hexL hexDs 2 c.toNat = [hexDs.getD (c.toNat / 16) 0, hexDs.getD (c.toNat % 16) 0] := by
  have := toNat_lt_256 c
  have e : c.toNat / 16 % 16 = c.toNat / 16 := by omega
  simp [hexL, e]

set_option maxHeartbeats 16000000 in
set_option maxRecDepth 100000 in
theorem percent_calls (s : ByteArray) (w : World) (hs : s.size ≤ 2147483647) :
    Calls Try.prog 34 #[.string s] w fun e w' => e = .returned (.string ⟨(pctL s.data.toList).toArray⟩) ∧ Below w.heap.size w w' := by
  go_enter Try.func34, Try.ntmps34
  go_wp2
  go_loopg [3, 4] s.size (fun gk v i wr => ∃ (k : Nat) (A : ByteArray), gk = s.size - k ∧ k ≤ s.size ∧ i = .int .i64 k ∧ v = .string A ∧ Hid (A.data.toList = pctL (s.data.toList.take k)) ∧ Hid (Below w.heap.size w wr))
  case atStart => exact ⟨0, ⟨#[]⟩, rfl, Nat.zero_le _, rfl, rfl, by simp [Hid, pctL], Below.refl _ _⟩
  case round =>
    obtain ⟨k, A, hgk, hk, rfl, rfl, hA, hB⟩ := hrel
    by_cases hlt : k < s.size
    · have HT := Lib.hid (take_succ_byte s k hlt)
      have h256 := toNat_lt_256 s[k]
      have HP := Lib.hid (pctL_len (s.data.toList.take k))
      have hAl : A.size ≤ 6442450941 := by
        have h1 := congrArg List.length hA.out
        have h2 := HP.out
        simp at h1 h2
        omega
      have hgk' := Lib.hid hgk
      clear hgk
      go_upto_region 6 with fail
      go_cut [36] (fun v wx => v = .bool (unresC s[k]) ∧ wx = wr)
      case first =>
        have HU := Lib.hid (show unresC s[k] = (letterC s[k] || digitC s[k] || s[k] == 45 || s[k] == 46 || s[k] == 95 || s[k] == 126) from rfl)
        cases hL : letterC s[k] with
        | true =>
          have HL := Lib.hid hL
          go_wp2_with fail
          refine (specLetter_calls s[k] _).mono ?_
          rintro e w1 ⟨rfl, rfl⟩
          go_wp2_with fail
          go_meet
          exact ⟨by rw [HU.out, HL.out]; rfl, rfl⟩
        | false =>
          have HL := Lib.hid hL
          cases hD : digitC s[k] with
          | true =>
            have HD := Lib.hid hD
            go_wp2_with fail
            refine (specLetter_calls s[k] _).mono ?_
            rintro e w1 ⟨rfl, rfl⟩
            go_wp2_with fail
            refine (specFigure_calls s[k] _).mono ?_
            rintro e w1 ⟨rfl, rfl⟩
            go_wp2_with fail
            go_meet
            exact ⟨by rw [HU.out, HL.out, HD.out]; rfl, rfl⟩
          | false =>
            have HD := Lib.hid hD
            have HE := Lib.hid (u8_beq s[k] 45)
            have HE2 := Lib.hid (u8_beq s[k] 46)
            have HE3 := Lib.hid (u8_beq s[k] 95)
            have HE4 := Lib.hid (u8_beq s[k] 126)
            go_wp2_with fail
            refine (specLetter_calls s[k] _).mono ?_
            rintro e w1 ⟨rfl, rfl⟩
            go_wp2_with fail
            refine (specFigure_calls s[k] _).mono ?_
            rintro e w1 ⟨rfl, rfl⟩
            cases h45 : ((s[k].toNat : Int) == 45) with
            | true =>
              have H45 := Lib.hid h45
              go_wp2_with fail
              go_meet
              exact ⟨by rw [HU.out, HL.out, HD.out, ← HE.out]; simp only [show (45 : UInt8).toNat = 45 from rfl]; erw [H45.out]; rfl, rfl⟩
            | false =>
              have H45 := Lib.hid h45
              cases h46 : ((s[k].toNat : Int) == 46) with
              | true =>
                have H46 := Lib.hid h46
                go_wp2_with fail
                go_meet
                exact ⟨by rw [HU.out, HL.out, HD.out, ← HE.out, ← HE2.out]; erw [H45.out, H46.out]; rfl, rfl⟩
              | false =>
                have H46 := Lib.hid h46
                cases h95 : ((s[k].toNat : Int) == 95) with
                | true =>
                  have H95 := Lib.hid h95
                  go_wp2_with fail
                  go_meet
                  exact ⟨by rw [HU.out, HL.out, HD.out, ← HE.out, ← HE2.out, ← HE3.out]; erw [H45.out, H46.out, H95.out]; rfl, rfl⟩
                | false =>
                  have H95 := Lib.hid h95
                  have H126 := Lib.hid (show ((s[k].toNat : Int) == 126) = ((s[k].toNat : Int) == 126) from rfl)
                  go_wp2_with fail
                  go_meet
                  exact ⟨by rw [HU.out, HL.out, HD.out, ← HE.out, ← HE2.out, ← HE3.out, ← HE4.out]; erw [H45.out, H46.out, H95.out]; rfl, rfl⟩
      case rest =>
        obtain ⟨rfl, rfl⟩ := hcut
        cases hU : unresC s[k] with
        | true =>
          have HU := Lib.hid hU
          have hadd : A.size + (s.extract k (k + 1)).size ≤ 9223372036854775807 := by simp [ByteArray.size_extract]; omega
          go_wp2_with fail
          go_roundg (s.size - (k + 1))
          case measure => rw [hgk'.out]; omega
          case rel =>
            refine ⟨k + 1, A ++ s.extract k (k + 1), rfl, by omega, by simp, rfl, ?_, hB⟩
            rw [Hid, HT.out, pctL_snoc, pctC_un HU.out, ← hA.out]
            have h1 := drop_take_succ s k k (Nat.le_refl _) hlt
            simp only [Nat.sub_self, List.take_zero, List.nil_append] at h1
            rw [bytes_append, Lib.extract_data, h1]
        | false =>
          have HU := Lib.hid hU
          go_wp2_with fail
          refine (hex_calls ⟨#[48, 49, 50, 51, 52, 53, 54, 55, 56, 57, 97, 98, 99, 100, 101, 102]⟩ rfl s[k].toNat 2 (by omega) (by omega) (by omega) _).mono ?_
          rintro e w1 ⟨rfl, hb⟩
          generalize hX : (⟨(hexL (ByteArray.mk #[48, 49, 50, 51, 52, 53, 54, 55, 56, 57, 97, 98, 99, 100, 101, 102]).data.toList 2 s[k].toNat).toArray⟩ : ByteArray) = X
          have HX : Hid (X.data.toList = [hexDs.getD (s[k].toNat / 16) 0, hexDs.getD (s[k].toNat % 16) 0]) := by
            rw [Hid, ← hX, ← hex2]; rfl
          have hXs : X.size = 2 := by rw [← hX]; rfl
          have hbw := Lib.hid hb
          clear hX hb
          have hadd0 : (ByteArray.mk #[37]).size + X.size ≤ 9223372036854775807 := by rw [hXs]; decide
          have hXsz : ((ByteArray.mk #[37]) ++ X).size = 3 := by rw [ByteArray.size_append, hXs]; rfl
          have hadd : A.size + ((ByteArray.mk #[37]) ++ X).size ≤ 9223372036854775807 := by rw [hXsz]; omega
          go_wp2_with fail
          go_roundg (s.size - (k + 1))
          case measure => rw [hgk'.out]; omega
          case rel =>
            refine ⟨k + 1, A ++ ((ByteArray.mk #[37]) ++ X), rfl, by omega, by simp, rfl, ?_, below_then hB.out hB.out.size hbw.out⟩
            rw [Hid, HT.out, pctL_snoc, pctC_re HU.out, ← hA.out, bytes_append, bytes_append, HX.out]
            rfl
    · have hks : k = s.size := by omega
      have hfin : Hid (A = ⟨(pctL s.data.toList).toArray⟩) := by
        have h1 := hA.out
        rw [hks, List.take_of_length_le (by simp)] at h1
        rw [Hid, ← h1]
      clear hks hgk
      go_wp2_with fail
      go_ret
      exact ⟨ret_string hfin.out, hB.out⟩
end Go.Proofs.Ytmgkolcpomaceaa
