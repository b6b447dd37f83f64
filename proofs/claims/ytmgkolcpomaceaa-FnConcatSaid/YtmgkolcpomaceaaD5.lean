/- spec.Plain. -/
import Derived.Test.YtmgkolcpomaceaaB6
import Derived.Test.YtmgkolcpomaceaaD1
namespace Go.Proofs.Ytmgkolcpomaceaa
open Go.RowKit
set_option linter.unusedVariables false
set_option linter.unusedSimpArgs false

def ents : List ByteArray := [⟨#[38, 97, 109, 112, 59]⟩, ⟨#[38, 35, 51, 57, 59]⟩, ⟨#[38, 108, 116, 59]⟩, ⟨#[38, 103, 116, 59]⟩, ⟨#[38, 35, 51, 52, 59]⟩]
def angleB (c : UInt8) : Bool := c == 60 || c == 62 || c == 34 || c == 39
def entL (l : List UInt8) : Bool := ents.any fun e => startsL l e.data.toList
def plainL : List UInt8 → Bool
  | [] => true
  | c :: l => if angleB c then false else if c = 38 then entL (c :: l) && plainL l else plainL l
theorem plainL_angle {c : UInt8} {l : List UInt8} (h : angleB c = true) : plainL (c :: l) = false := by rw [plainL, if_pos h]
theorem plainL_amp {c : UInt8} {l : List UInt8} (h : angleB c = false) (hc : c = 38) : plainL (c :: l) = (entL (c :: l) && plainL l) := by
  rw [plainL, if_neg (by rw [h]; simp), if_pos hc]
theorem plainL_other {c : UInt8} {l : List UInt8} (h : angleB c = false) (hc : ¬ c = 38) : plainL (c :: l) = plainL l := by
  rw [plainL, if_neg (by rw [h]; simp), if_neg hc]
theorem startsB_from (s : ByteArray) (k : Nat) (p : ByteArray) : startsB (s.extract k s.size) p = startsL (s.data.toList.drop k) p.data.toList := by
  rw [startsB, Lib.extract_data, List.take_of_length_le (by simp)]
theorem entL_any (s : ByteArray) (k : Nat) : ents.any (startsB (s.extract k s.size)) = entL (s.data.toList.drop k) := by
  unfold entL; congr 1; funext e; exact startsB_from s k e

set_option maxHeartbeats 4000000 in
set_option maxRecDepth 100000 in
theorem plain_calls (s : ByteArray) (w : World) (hs : s.size ≤ 2147483647) :
    Calls Try.prog 20 #[.string s] w fun e w' => e = .returned (.bool (plainL s.data.toList)) ∧ Below w.heap.size w w' := by
  go_enter Try.func20, Try.ntmps20
  go_wp2
  go_loopw [3] (fun i wr => ∃ k : Nat, k ≤ s.size ∧ i = .int .i64 k ∧ Hid (plainL s.data.toList = plainL (s.data.toList.drop k)) ∧ Hid (Below w.heap.size w wr)) (fun i _ => s.size - (intOf i).toNat)
  case atStart => exact ⟨0, Nat.zero_le _, rfl, by simp [Hid], Below.refl _ _⟩
  case round =>
    obtain ⟨k, hk, rfl, hp, hB⟩ := hrel
    by_cases hlt : k < s.size
    · have HD := Lib.hid (drop_byte s k hlt)
      have h256 := toNat_lt_256 s[k]
      by_cases h60 : s[k] = 60
      · have g60 : ((s[k].toNat : Int) == 60) = true := eq_u8 _ _ h60
        have HE := Lib.hid (show plainL (s[k] :: s.data.toList.drop (k + 1)) = false from plainL_angle (by rw [h60]; decide))
        clear h60
        go_wp2
        go_ret
        exact ⟨ret_bool (by rw [hp.out, HD.out, HE.out]), hB.out⟩
      have g60 : ((s[k].toNat : Int) == 60) = false := ne_u8 _ _ h60
      have H60 := Lib.hid h60
      clear h60
      by_cases h62 : s[k] = 62
      · have g62 : ((s[k].toNat : Int) == 62) = true := eq_u8 _ _ h62
        have HE := Lib.hid (show plainL (s[k] :: s.data.toList.drop (k + 1)) = false from plainL_angle (by rw [h62]; decide))
        clear h62
        go_wp2
        go_ret
        exact ⟨ret_bool (by rw [hp.out, HD.out, HE.out]), hB.out⟩
      have g62 : ((s[k].toNat : Int) == 62) = false := ne_u8 _ _ h62
      have H62 := Lib.hid h62
      clear h62
      by_cases h34 : s[k] = 34
      · have g34 : ((s[k].toNat : Int) == 34) = true := eq_u8 _ _ h34
        have HE := Lib.hid (show plainL (s[k] :: s.data.toList.drop (k + 1)) = false from plainL_angle (by rw [h34]; decide))
        clear h34
        go_wp2
        go_ret
        exact ⟨ret_bool (by rw [hp.out, HD.out, HE.out]), hB.out⟩
      have g34 : ((s[k].toNat : Int) == 34) = false := ne_u8 _ _ h34
      have H34 := Lib.hid h34
      clear h34
      by_cases h39 : s[k] = 39
      · have g39 : ((s[k].toNat : Int) == 39) = true := eq_u8 _ _ h39
        have HE := Lib.hid (show plainL (s[k] :: s.data.toList.drop (k + 1)) = false from plainL_angle (by rw [h39]; decide))
        clear h39
        go_wp2
        go_ret
        exact ⟨ret_bool (by rw [hp.out, HD.out, HE.out]), hB.out⟩
      have g39 : ((s[k].toNat : Int) == 39) = false := ne_u8 _ _ h39
      have H39 := Lib.hid h39
      clear h39
      have HG := Lib.hid (show angleB s[k] = false by simp [angleB, H60.out, H62.out, H34.out, H39.out])
      by_cases h38 : s[k] = 38
      · have g38 : ((s[k].toNat : Int) == 38) = true := eq_u8 _ _ h38
        have HP := Lib.hid (plainL_amp (l := s.data.toList.drop (k + 1)) HG.out h38)
        have HK := Lib.hid h38
        clear h38
        have HA := Lib.hid (strsAt_new wr wr.heap.size ents 9 rfl)
        have HB2 := Lib.hid (hB.out.alloc hB.out.size (.cells (ents.map Value.string).toArray 9))
        go_wp2
        change Code.wp Try.prog _ _ _ (wr.alloc (Obj.cells (List.map Value.string ents).toArray 9))
        generalize wr.alloc (Obj.cells (List.map Value.string ents).toArray 9) = wq at HA HB2 ⊢
        go_loop [4, 25] (fun q j => ∃ n : Nat, n ≤ 5 ∧ j = .int .i64 n ∧ q = .bool ((ents.take n).any (startsB (s.extract k s.size)))) (fun _ j => 5 - (intOf j).toNat)
        case atStart => exact ⟨0, by omega, rfl, rfl⟩
        case round =>
          obtain ⟨n, hn, rfl, rfl⟩ := hrel
          by_cases hnt : n < 5
          · have hn5 : n < ents.length := hnt
            have HT := Lib.hid (any_take_succ (p := startsB (s.extract k s.size)) ents n hn5)
            obtain ⟨ad, e1, hblk, hc⟩ := HA.out n hn5
            rw [Option.some.injEq] at e1
            rw [← e1] at hc
            have hc' : wq.cell? ⟨wr.heap.size, n, none⟩ = some (.string ents[n]) := by
              rw [← hc]; congr 1; unfold Addr.add; split <;> simp_all
            clear hc e1 hblk
            generalize ents[n] = e at HT hc'
            cases hb : (ents.take n).any (startsB (s.extract k s.size))
            · have HB := Lib.hid hb
              clear hb
              go_wp2_with fail
              refine (specStarts_calls _ e _).mono ?_
              rintro x w' ⟨rfl, rfl⟩
              go_wp2
              go_round
              case rel => exact ⟨n + 1, by omega, by go_num, by rw [HT.out, HB.out]; rfl⟩
              case measure => simp [intOf]; omega
            · have HB := Lib.hid hb
              clear hb
              go_wp2
              go_round
              case rel => exact ⟨n + 1, by omega, by go_num, by rw [HT.out, HB.out]; rfl⟩
              case measure => simp [intOf]; omega
          · obtain rfl : n = 5 := by omega
            have HE := Lib.hid (entL_any s k)
            rw [show ents.take 5 = ents from rfl, HE.out]
            cases he : entL (s.data.toList.drop k)
            · have HF := Lib.hid he
              clear he
              go_wp2
              go_ret
              exact ⟨ret_bool (by rw [hp.out, HD.out, HP.out, ← HD.out, HF.out]; rfl), HB2.out⟩
            · have HF := Lib.hid he
              clear he
              go_wp2
              go_roundw
              case rel => exact ⟨k + 1, by omega, by go_num, by rw [Hid, hp.out, HD.out, HP.out, ← HD.out, HF.out]; rfl, HB2.out⟩
              case measure => simp [intOf]; omega
      · have g38 : ((s[k].toNat : Int) == 38) = false := ne_u8 _ _ h38
        have HP := Lib.hid (plainL_other (l := s.data.toList.drop (k + 1)) HG.out h38)
        clear h38
        go_wp2
        go_roundw
        case rel => exact ⟨k + 1, by omega, by go_num, by rw [Hid, hp.out, HD.out, HP.out], hB.out⟩
        case measure => simp [intOf]; omega
    · go_wp2
      go_ret
      exact ⟨ret_bool (by rw [hp.out, List.drop_eq_nil_of_le (by simp; omega)]; rfl), hB.out⟩
end Go.Proofs.Ytmgkolcpomaceaa
