/- A frame of 239 slots, written out; the statements of StyleFromProperties that go through a list. -/
import Derived.Test.YtmgkolcpomaceaaK21
namespace Go.Proofs.Ytmgkolcpomaceaa
open Go.RowKit
set_option linter.unusedVariables false
set_option linter.unusedSimpArgs false

theorem arr_open (n : Nat) (x : Array Value) (h : x.size = n) : x = ((List.range n).map fun i => x.getD i undef).toArray := by
  apply Array.ext
  · simp [h]
  · intro i h1 h2
    simp [h1]
set_option maxRecDepth 100000 in
theorem frame_open (a : Act) (hs : a.tmps.size = 239) (hd : a.defers = []) : ∃ f : Nat → Value, a = ⟨(f 0 :: f 1 :: f 2 :: f 3 :: f 4 :: f 5 :: f 6 :: f 7 :: f 8 :: f 9 :: f 10 :: f 11 :: f 12 :: f 13 :: f 14 :: f 15 :: f 16 :: f 17 :: f 18 :: f 19 :: f 20 :: f 21 :: f 22 :: f 23 :: f 24 :: f 25 :: f 26 :: f 27 :: f 28 :: f 29 :: f 30 :: f 31 :: f 32 :: f 33 :: f 34 :: f 35 :: f 36 :: f 37 :: f 38 :: f 39 :: f 40 :: f 41 :: f 42 :: f 43 :: f 44 :: f 45 :: f 46 :: f 47 :: f 48 :: f 49 :: f 50 :: f 51 :: f 52 :: f 53 :: f 54 :: f 55 :: f 56 :: f 57 :: f 58 :: f 59 :: f 60 :: f 61 :: f 62 :: f 63 :: f 64 :: f 65 :: f 66 :: f 67 :: f 68 :: f 69 :: f 70 :: f 71 :: f 72 :: f 73 :: f 74 :: f 75 :: f 76 :: f 77 :: f 78 :: f 79 :: f 80 :: f 81 :: f 82 :: f 83 :: f 84 :: f 85 :: f 86 :: f 87 :: f 88 :: f 89 :: f 90 :: f 91 :: f 92 :: f 93 :: f 94 :: f 95 :: f 96 :: f 97 :: f 98 :: f 99 :: f 100 :: f 101 :: f 102 :: f 103 :: f 104 :: f 105 :: f 106 :: f 107 :: f 108 :: f 109 :: f 110 :: f 111 :: f 112 :: f 113 :: f 114 :: f 115 :: f 116 :: f 117 :: f 118 :: f 119 :: f 120 :: f 121 :: f 122 :: f 123 :: f 124 :: f 125 :: f 126 :: f 127 :: f 128 :: f 129 :: f 130 :: f 131 :: f 132 :: f 133 :: f 134 :: f 135 :: f 136 :: f 137 :: f 138 :: f 139 :: f 140 :: f 141 :: f 142 :: f 143 :: f 144 :: f 145 :: f 146 :: f 147 :: f 148 :: f 149 :: f 150 :: f 151 :: f 152 :: f 153 :: f 154 :: f 155 :: f 156 :: f 157 :: f 158 :: f 159 :: f 160 :: f 161 :: f 162 :: f 163 :: f 164 :: f 165 :: f 166 :: f 167 :: f 168 :: f 169 :: f 170 :: f 171 :: f 172 :: f 173 :: f 174 :: f 175 :: f 176 :: f 177 :: f 178 :: f 179 :: f 180 :: f 181 :: f 182 :: f 183 :: f 184 :: f 185 :: f 186 :: f 187 :: f 188 :: f 189 :: f 190 :: f 191 :: f 192 :: f 193 :: f 194 :: f 195 :: f 196 :: f 197 :: f 198 :: f 199 :: f 200 :: f 201 :: f 202 :: f 203 :: f 204 :: f 205 :: f 206 :: f 207 :: f 208 :: f 209 :: f 210 :: f 211 :: f 212 :: f 213 :: f 214 :: f 215 :: f 216 :: f 217 :: f 218 :: f 219 :: f 220 :: f 221 :: f 222 :: f 223 :: f 224 :: f 225 :: f 226 :: f 227 :: f 228 :: f 229 :: f 230 :: f 231 :: f 232 :: f 233 :: f 234 :: f 235 :: f 236 :: f 237 :: f 238 :: []).toArray, []⟩ := by
  obtain ⟨x, d⟩ := a
  obtain rfl : d = [] := hd
  have h := arr_open 239 x hs
  refine ⟨fun i => x.getD i undef, ?_⟩
  have e : ((List.range 239).map fun i => x.getD i undef).toArray = _ := rfl
  exact congrArg (fun y => Act.mk y []) h
def pickC (n : Nat) : Code → Option Code
  | .seq x y => match x with
    | .region m _ _ => if m == n then some (.seq x y) else pickC n y
    | _ => match pickC n x with
      | some c => some c
      | none => pickC n y
  | _ => none
def pickIf (n : Nat) : Code → Option Code
  | .seq x y => match pickIf n x with
    | some c => some c
    | none => pickIf n y
  | .cond c x y => match c with
    | .tmp m => if m == n then some (.cond c x y) else none
    | _ => none
  | _ => none
noncomputable def st0 : Code := (Try.f109.body.bind (pickIf 12)).getD .skip
noncomputable def st1 : Code := (Try.f109.body.bind (pickC 12)).getD .skip

set_option maxHeartbeats 64000000 in
set_option maxRecDepth 100000 in
theorem stage0_calls (l0 : List ByteArray) (A0 : Option Addr) (c0 : Nat) (pc : Nat → Value) (a : Act) (w wx : World) (T0 : ByteArray) (hTs : T0.size ≤ 1000000) (fr : Fr a w.heap.size T0) (h12 : Has a 12 (.bool (decide (0 < l0.length))))
    (h0 : Hid (StrsAt w A0 l0)) (hl0 : l0.length ≤ 201) (hs0 : Hid (∀ x ∈ l0, x.size ≤ 200 ∧ asciiB x = true)) (HPC : Hid (pc 0 = .slice A0 l0.length c0)) (HP : Hid (PropW pc w wx))
    {K : Act → World → Prop} {Q' : Exit → Act → World → Prop}
    (HK : Hid (∀ a' T' wx', Fr a' w.heap.size T' → T'.data.toList = T0.data.toList ++ pieceL false 0 l0 → T'.size ≤ T0.size + 450000 → PropW pc w wx' → K a' wx')) :
    Code.wp Try.prog st0 (Exit.then K Q') a wx := by
  obtain ⟨f, rfl⟩ := frame_open a fr.sz fr.df
  have e1 : f 1 = _ := Option.some.inj fr.p1
  have e2 : f 2 = _ := Option.some.inj fr.p2
  have e3 : f 3 = _ := Option.some.inj fr.p3
  have e12 : f 12 = _ := Option.some.inj h12
  rw [e1, e2, e3, e12]
  clear e1 e2 e3 fr h12 e12
  conv => arg 2; whnf
  have hc0 := HP.out.cell 0 (by decide)
  rw [HPC.out] at hc0
  obtain ⟨P1, hP1⟩ : ∃ P1, P1 = T0.data.toList ++ pieceL false 0 l0 := ⟨_, rfl⟩
  have HT1 := Lib.hid hP1
  rw [← hP1] at HK
  clear hP1
  skip
  by_cases hn : 0 < l0.length
  · have gn : decide (0 < l0.length) = true := decide_eq_true (by omega)
    rw [gn]
    have hnm : (ByteArray.mk #[98, 97, 99, 107, 103, 114, 111, 117, 110, 100, 45, 105, 109, 97, 103, 101, 58]).size = 17 := rfl
    have hadd0 : T0.size + (ByteArray.mk #[98, 97, 99, 107, 103, 114, 111, 117, 110, 100, 45, 105, 109, 97, 103, 101, 58]).size ≤ 9223372036854775807 := by rw [hnm]; omega
    have hne : l0 ≠ [] := by intro h; rw [h] at hn; simp at hn
    have HT2 := Lib.hid (show P1 = T0.data.toList ++ (nmL 0 ++ [58] ++ joinI false l0 ++ [59]) by rw [HT1.out, pieceL, if_neg hne])
    have hst : (T0 ++ ByteArray.mk #[98, 97, 99, 107, 103, 114, 111, 117, 110, 100, 45, 105, 109, 97, 103, 101, 58]).size ≤ T0.size + 20 + 2000 * 0 := by rw [ByteArray.size_append, hnm]; omega
    have HST := Lib.hid (show (T0 ++ ByteArray.mk #[98, 97, 99, 107, 103, 114, 111, 117, 110, 100, 45, 105, 109, 97, 103, 101, 58]).data.toList = T0.data.toList ++ (nmL 0 ++ [58] ++ joinI false (l0.take 0)) by rw [bytes_append]; rfl)
    clear hnm hne
    go_wp2_with fail
    go_loopg [3, 18] l0.length (fun gk v i wr => ∃ (k : Nat) (T : ByteArray), gk = l0.length - k ∧ k ≤ l0.length ∧ i = .int .i64 k ∧ v = .string T ∧ T.size ≤ T0.size + 20 + 2000 * k ∧ Hid (T.data.toList = T0.data.toList ++ (nmL 0 ++ [58] ++ joinI false (l0.take k))) ∧ Hid (PropW pc w wr))
    case atStart => exact ⟨0, _, rfl, Nat.zero_le _, rfl, rfl, hst, HST, HP⟩
    case round =>
      obtain ⟨k, T, hgk, hk, rfl, rfl, hTs, hT, hP⟩ := hrel
      have HG := Lib.hid hgk
      clear hgk hc0 hst
      by_cases hlt : k < l0.length
      · have HTk := Lib.hid (take_snoc1 l0 k hlt)
        have hxs : l0[k].size ≤ 200 := (hs0.out _ (List.getElem_mem _)).1
        have HXa := Lib.hid (hs0.out _ (List.getElem_mem hlt)).2
        obtain ⟨ad, rfl, hblk, hc⟩ := (h0.out.below hP.out.below) k hlt
        generalize l0[k] = x at HTk hxs HXa hc
        have h44 : (ByteArray.mk #[44, 32]).size = 2 := rfl
        have haddc : T.size + (ByteArray.mk #[44, 32]).size ≤ 9223372036854775807 := by rw [h44]; omega
        go_upto_if 24 with fail
        go_cut [3] from 25 to 26 (fun v wx => ∃ T2 : ByteArray, v = .string T2 ∧ T2.size ≤ T0.size + 22 + 2000 * k ∧ Hid (T2.data.toList ++ lineI false x = T0.data.toList ++ (nmL 0 ++ [58] ++ joinI false (l0.take (k + 1)))) ∧ Hid (PropW pc w wx))
        case first =>
          by_cases hk0 : 0 < k
          · have g0 : decide ((0:Int) < (k : Int)) = true := by simp; omega
            have HJ := Lib.hid (show joinI false (l0.take (k + 1)) = joinI false (l0.take k) ++ [44, 32] ++ lineI false x by
              have hlk : (l0.take k).length = k := by simp; omega
              have hne : l0.take k ≠ [] := by intro h; rw [h] at hlk; simp at hlk; omega
              rw [HTk.out, joinI_snoc1 _ _ _ hne])
            have hsz : (T ++ ByteArray.mk #[44, 32]).size ≤ T0.size + 22 + 2000 * k := by rw [ByteArray.size_append, h44]; omega
            clear h44
            go_wp2_with fail
            go_meet
            exact ⟨_, rfl, hsz, by rw [Hid, HJ.out, bytes_append, hT.out]; simp, hP⟩
          · have g0 : decide ((0:Int) < (k : Int)) = false := by simp; omega
            have HJ := Lib.hid (show joinI false (l0.take (k + 1)) = joinI false (l0.take k) ++ lineI false x by
              have hz : l0.take k = [] := by rw [show k = 0 by omega]; rfl
              rw [HTk.out, joinI_snoc0 _ _ _ hz, hz]; rfl)
            have hsz : T.size ≤ T0.size + 22 + 2000 * k := by omega
            go_wp2_with fail
            go_meet
            exact ⟨_, rfl, hsz, by rw [Hid, HJ.out, hT.out]; simp, hP⟩
        clear h44 haddc hT hP hTs hblk hc
        obtain ⟨T2, rfl, hTs2, HT2x, hP⟩ := hcut
        have hus := urlS_size x
        have HUa := Lib.hid (urlS_ascii x HXa.out)
        have HU := Lib.hid (fun w => urlSanitized_calls x w (by omega))
        have HLI := Lib.hid (show lineI false x = [117, 114, 108, 40] ++ (quoS (urlS x)).data.toList ++ [41] from rfl)
        generalize urlS x = u at hus HUa HU HLI
        have HC := Lib.hid (fun w => cssEscape_calls u w (by omega) HUa)
        have hql := quoL_len u.data.toList
        have hul : u.data.toList.length = u.size := by simp
        have HLI2 := Lib.hid (show lineI false x = [117, 114, 108, 40, 34] ++ quoL u.data.toList ++ [34, 41] by rw [HLI.out]; show [117, 114, 108, 40] ++ (34 :: (quoL u.data.toList ++ [34])) ++ [41] = _; simp)
        generalize quoL u.data.toList = q at HC hql HLI2
        have hqs : (ByteArray.mk q.toArray).size = q.length := by show q.toArray.size = _; simp
        have HQd := Lib.hid (show (ByteArray.mk q.toArray).data.toList = q by simp)
        generalize ByteArray.mk q.toArray = X at HC hqs HQd
        have e5 : (ByteArray.mk #[117, 114, 108, 40, 34]).size = 5 := rfl
        have e2 : (ByteArray.mk #[34, 41]).size = 2 := rfl
        have ha1 : (ByteArray.mk #[117, 114, 108, 40, 34]).size + X.size ≤ 9223372036854775807 := by rw [e5]; omega
        have ha2 : (ByteArray.mk #[117, 114, 108, 40, 34] ++ X).size + (ByteArray.mk #[34, 41]).size ≤ 9223372036854775807 := by rw [ByteArray.size_append, e5, e2]; omega
        have ha3 : T2.size + (ByteArray.mk #[117, 114, 108, 40, 34] ++ X ++ ByteArray.mk #[34, 41]).size ≤ 9223372036854775807 := by rw [ByteArray.size_append, ByteArray.size_append, e5, e2]; omega
        have hsz : (T2 ++ (ByteArray.mk #[117, 114, 108, 40, 34] ++ X ++ ByteArray.mk #[34, 41])).size ≤ T0.size + 20 + 2000 * (k + 1) := by rw [ByteArray.size_append, ByteArray.size_append, ByteArray.size_append, e5, e2]; omega
        have HFt := Lib.hid (show (T2 ++ (ByteArray.mk #[117, 114, 108, 40, 34] ++ X ++ ByteArray.mk #[34, 41])).data.toList = T2.data.toList ++ lineI false x by rw [HLI2.out, bytes_append, bytes_append, bytes_append, HQd.out])
        clear e5 e2 hul hql hqs
        go_wp2_with fail
        refine (HU.out _).mono ?_
        rintro e w1 ⟨rfl, hb⟩
        have hP1 := Lib.hid (hP.out.on hb)
        clear hb
        go_wp2_with fail
        refine (urlString_calls _ _).mono ?_
        rintro e w2 ⟨rfl, hb⟩
        have hP2 := Lib.hid (hP1.out.on hb)
        clear hb
        go_wp2_with fail
        refine (HC.out _).mono ?_
        rintro e w3 ⟨rfl, hb⟩
        have hP3 := Lib.hid (hP2.out.on hb)
        clear hb
        go_wp2_with fail
        go_roundg (l0.length - (k + 1))
        case measure => rw [HG.out]; omega
        case rel => exact ⟨k + 1, _, rfl, by omega, by simp, rfl, hsz, by rw [Hid, HFt.out, HT2x.out], hP3⟩
      · have hks : k = l0.length := by omega
        have h59 : (ByteArray.mk #[59]).size = 1 := rfl
        have hadd1 : T.size + (ByteArray.mk #[59]).size ≤ 9223372036854775807 := by rw [h59]; omega
        have hsz : (T ++ ByteArray.mk #[59]).size ≤ T0.size + 450000 := by rw [ByteArray.size_append, h59]; omega
        have HFin := Lib.hid (show (T ++ ByteArray.mk #[59]).data.toList = P1 by
          have h1 := hT.out
          rw [hks, List.take_of_length_le (Nat.le_refl _)] at h1
          rw [bytes_append, h1, HT2.out]; simp)
        clear hks HG h59
        go_wp2_with fail
        exact HK.out _ _ _ ⟨rfl, rfl, rfl, rfl, rfl⟩ HFin.out hsz hP.out
  · have gn : decide (0 < l0.length) = false := decide_eq_false (by omega)
    rw [gn]
    have hne : l0 = [] := List.eq_nil_of_length_eq_zero (by omega)
    have HT2 := Lib.hid (show T0.data.toList = P1 by rw [HT1.out, pieceL, if_pos hne]; simp)
    have hsz : T0.size ≤ T0.size + 450000 := by (first | omega | decide)
    clear hne
    go_wp2_with fail
    exact HK.out _ _ _ ⟨rfl, rfl, rfl, rfl, rfl⟩ HT2.out hsz HP.out
end Go.Proofs.Ytmgkolcpomaceaa
