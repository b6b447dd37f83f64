/- Escapes of URLs; pairs and their map. -/
import Derived.Test.YtlpkdagdfopchaaQ1
import Derived.Deep.DeepCutAuto
import Derived.Deep.CutBlock
import Derived.Laws.BitsLemmas
import Derived.Maps.OwnSet
import Derived.Maps.OwnOps
import Derived.StringKeys
namespace Go.Proofs.Ytlpkdagdfopchaa
open Go.RowKit Go.Maps
set_option linter.unusedVariables false
set_option linter.unusedSimpArgs false

set_option linter.unusedVariables false
set_option linter.unusedSimpArgs false

def unresC (c : UInt8) : Bool := letterC c || digitC c || c == 45 || c == 46 || c == 95 || c == 126
def hexDs : List UInt8 := [48, 49, 50, 51, 52, 53, 54, 55, 56, 57, 97, 98, 99, 100, 101, 102]
def pctX (c : UInt8) : List UInt8 := [37, hexDs.getD (c.toNat / 16) 0, hexDs.getD (c.toNat % 16) 0]
def pctC (c : UInt8) : List UInt8 := if unresC c then [c] else pctX c
def pctL (l : List UInt8) : List UInt8 := l.flatMap pctC
theorem pctL_snoc (l : List UInt8) (c : UInt8) : pctL (l ++ [c]) = pctL l ++ pctC c := by simp [pctL]
theorem pctC_un {c : UInt8} (h : unresC c = true) : pctC c = [c] := by rw [pctC, if_pos h]
theorem pctC_re {c : UInt8} (h : unresC c = false) : pctC c = pctX c := by rw [pctC, if_neg (by rw [h]; simp)]
theorem pctC_len (c : UInt8) : (pctC c).length ≤ 3 := by unfold pctC; split <;> simp [pctX]
theorem pctL_len (l : List UInt8) : (pctL l).length ≤ 3 * l.length := by
  induction l with
  | nil => simp [pctL]
  | cons c l ih => have := pctC_len c; simp only [pctL, List.flatMap_cons, List.length_append, List.length_cons] at ih ⊢; omega
theorem and15 (c : UInt8) : bits .and .u8 (c.toNat : Int) 15 = ((c.toNat % 16 : Nat) : Int) := by
  have : ∀ n : Fin 256, bits .and .u8 ((n.val : Nat) : Int) 15 = ((n.val % 16 : Nat) : Int) := by decide +kernel
  exact this ⟨c.toNat, c.toNat_lt⟩
theorem hexAt (n : Nat) (h : n < 16) : ∃ hb : n < (ByteArray.mk #[48, 49, 50, 51, 52, 53, 54, 55, 56, 57, 97, 98, 99, 100, 101, 102]).size, (ByteArray.mk #[48, 49, 50, 51, 52, 53, 54, 55, 56, 57, 97, 98, 99, 100, 101, 102])[n] = hexDs.getD n 0 := by
  have : ∀ n : Fin 16, ∃ hb : n.val < (ByteArray.mk #[48, 49, 50, 51, 52, 53, 54, 55, 56, 57, 97, 98, 99, 100, 101, 102]).size, (ByteArray.mk #[48, 49, 50, 51, 52, 53, 54, 55, 56, 57, 97, 98, 99, 100, 101, 102])[n.val] = hexDs.getD n.val 0 := by decide
  exact this ⟨n, h⟩


theorem drop_take_succ (s : ByteArray) (m k : Nat) (hm : m ≤ k) (hk : k < s.size) : (s.data.toList.drop m).take (k + 1 - m) = (s.data.toList.drop m).take (k - m) ++ [s[k]] := by
  have e : k + 1 - m = (k - m) + 1 := by omega
  have hl : k - m < (s.data.toList.drop m).length := by simp; omega
  rw [e, List.take_succ_eq_append_getElem hl]
  congr 1
  simp only [List.getElem_drop]
  have : m + (k - m) = k := by omega
  simp only [this]
  rfl

theorem unres_true {c : UInt8} : unresC c = true ↔ (97 ≤ c.toNat ∧ c.toNat ≤ 122) ∨ (65 ≤ c.toNat ∧ c.toNat ≤ 90) ∨ (48 ≤ c.toNat ∧ c.toNat ≤ 57) ∨ c.toNat = 45 ∨ c.toNat = 46 ∨ c.toNat = 95 ∨ c.toNat = 126 := by
  simp [unresC, letterC, digitC, ← UInt8.toNat_inj, or_assoc]
theorem unres_false {c : UInt8} (h : ¬ ((97 ≤ c.toNat ∧ c.toNat ≤ 122) ∨ (65 ≤ c.toNat ∧ c.toNat ≤ 90) ∨ (48 ≤ c.toNat ∧ c.toNat ≤ 57) ∨ c.toNat = 45 ∨ c.toNat = 46 ∨ c.toNat = 95 ∨ c.toNat = 126)) : unresC c = false := by
  cases hc : unresC c with
  | false => rfl
  | true => exact absurd (unres_true.1 hc) h

theorem hex_div (c : UInt8) (hb : ((c.toNat:Int)/16).toNat < (ByteArray.mk #[48, 49, 50, 51, 52, 53, 54, 55, 56, 57, 97, 98, 99, 100, 101, 102]).size) : (ByteArray.mk #[48, 49, 50, 51, 52, 53, 54, 55, 56, 57, 97, 98, 99, 100, 101, 102])[((c.toNat:Int)/16).toNat]'hb = hexDs.getD (c.toNat/16) 0 := by
  have e : ((c.toNat:Int)/16).toNat = c.toNat / 16 := by omega
  have := toNat_lt_256 c
  simp only [e]
  exact (hexAt (c.toNat/16) (by omega)).2
theorem hex_mod (c : UInt8) (hb : ((c.toNat:Int)%16).toNat < (ByteArray.mk #[48, 49, 50, 51, 52, 53, 54, 55, 56, 57, 97, 98, 99, 100, 101, 102]).size) : (ByteArray.mk #[48, 49, 50, 51, 52, 53, 54, 55, 56, 57, 97, 98, 99, 100, 101, 102])[((c.toNat:Int)%16).toNat]'hb = hexDs.getD (c.toNat%16) 0 := by
  have e : ((c.toNat:Int)%16).toNat = c.toNat % 16 := by omega
  simp only [e]
  exact (hexAt (c.toNat%16) (by omega)).2
theorem pct_cells (w : World) (c x y : UInt8) (hx : x = hexDs.getD (c.toNat/16) 0) (hy : y = hexDs.getD (c.toNat%16) 0) (j : Nat) (hj : j < (pctX c).length) :
    (w.alloc (Obj.cells #[.int .u8 37, .int .u8 (x.toNat : Int), .int .u8 (y.toNat : Int)] 5)).drew.cell? ⟨w.heap.size, j, none⟩ = some (byteV (pctX c)[j]) := by
  subst hx; subst hy
  have hj3 : j < 3 := hj
  have e : (w.alloc (Obj.cells #[.int .u8 37, .int .u8 ((hexDs.getD (c.toNat/16) 0).toNat : Int), .int .u8 ((hexDs.getD (c.toNat%16) 0).toNat : Int)] 5)).drew.cell? ⟨w.heap.size, j, none⟩ = (w.alloc (Obj.cells #[.int .u8 37, .int .u8 ((hexDs.getD (c.toNat/16) 0).toNat : Int), .int .u8 ((hexDs.getD (c.toNat%16) 0).toNat : Int)] 5)).cell? ⟨w.heap.size, j, none⟩ := rfl
  rw [e, World.cell?_alloc_new]
  rcases j with _ | _ | _ | j
  · rfl
  · rfl
  · rfl
  · omega
theorem size_pct {B : Nat} {w : World} (h : B ≤ w.heap.size) (o : Obj) : B ≤ (w.alloc o).drew.heap.size := by
  have : (w.alloc o).drew.heap.size = w.heap.size + 1 := Array.size_push _
  omega
theorem buf_pct {w : World} {B : Nat} {v : Value} {l : List UInt8} (h : Buf w B v l) (o : Obj) : Buf (w.alloc o).drew B v l := (h.alloc o).moved fun _ _ => rfl

set_option maxHeartbeats 16000000 in
set_option maxRecDepth 100000 in
theorem urlProc_calls (s : ByteArray) (w : World) (hs : s.size ≤ 2147483647) :
    Calls Try.prog 31 #[.bool false, .string s] w fun e w' => e = .returned (.string ⟨(pctL s.data.toList).toArray⟩) ∧ Below w.heap.size w w' := by
  go_enter Try.func31, Try.ntmps31
  go_wp2
  go_loopg [5, 6, 7] s.size (fun gk v n i wr => ∃ (m k : Nat) (L : List UInt8), gk = s.size - k ∧ m ≤ k ∧ k ≤ s.size ∧ i = .int .i64 k ∧ n = .int .i64 m ∧ Hid (Buf wr w.heap.size v L) ∧ Hid (L ++ (s.data.toList.drop m).take (k - m) = pctL (s.data.toList.take k)) ∧ Hid (m = 0 → L = []) ∧ Hid (Below w.heap.size w wr))
  case atStart => exact ⟨0, 0, [], rfl, Nat.le_refl _, Nat.zero_le _, rfl, rfl, Buf.nil _ _, by simp [Hid, pctL], fun _ => rfl, Below.refl _ _⟩
  case round =>
    obtain ⟨m, k, L, hgk, hmk, hk, rfl, rfl, hbuf, hL, h0, hB⟩ := hrel
    by_cases hlt : k < s.size
    · have HT := Lib.hid (take_succ_byte s k hlt)
      have HD := Lib.hid (drop_take_succ s m k hmk hlt)
      have h256 := toNat_lt_256 s[k]
      have hsz := hB.out.size
      have HP := Lib.hid (pctL_len (s.data.toList.take k))
      have HLn : L.length + (s.extract m k).size ≤ 140737488355328 := by
        have h1 := congrArg List.length hL.out
        have h2 := HP.out
        simp at h1 h2
        simp [ByteArray.size_extract]
        omega
      have hgk' := Lib.hid hgk
      clear hgk
      go_upto_block 2 with fail
      go_cut [9] (fun s9 wx => wx = wr ∧ s9 = .int .u8 s[k].toNat ∧ Hid (unresC s[k] = false))
      case first =>
        go_wp2_with fail
        all_goals (first
          | (go_meet; refine ⟨rfl, rfl, Lib.hid (unres_false ?_)⟩; (try simp only [beq_iff_eq, beq_eq_false_iff_ne] at *); omega)
          | (have hU : unresC s[k] = true := unres_true.2 (by (try simp only [beq_iff_eq, beq_eq_false_iff_ne] at *); omega)
             go_roundg (s.size - (k + 1))
             case measure => rw [hgk'.out]; omega
             case rel => exact ⟨m, k + 1, L, rfl, by omega, by omega, by simp, rfl, hbuf, by rw [Hid, HT.out, pctL_snoc, pctC_un hU, ← hL.out, HD.out, List.append_assoc], h0, hB⟩)
          | (trace_state; fail))
      case rest =>
        obtain ⟨rfl, rfl, hU⟩ := hcut
        go_wp2_with (at_builtin; refine buf_append_str rfl _ _ rfl w.heap.size _ _ rfl hbuf.out _ rfl HLn hsz ?_; intro v' w' hb' hg' hbel')
        have HA15 := and15 s[k]
        have hi1 : (0:Int) ≤ ((s[k].toNat / 16 : Nat) : Int) ∧ ((s[k].toNat / 16 : Nat) : Int) < 16 := by omega
        have hi2 : (0:Int) ≤ ((s[k].toNat % 16 : Nat) : Int) ∧ ((s[k].toNat % 16 : Nat) : Int) < 16 := by omega
        have hi3 : (0:Int) ≤ (s[k].toNat : Int) / 16 ∧ (s[k].toNat : Int) / 16 < 16 := by omega
        have hi4 : (0:Int) ≤ (s[k].toNat : Int) % 16 ∧ (s[k].toNat : Int) % 16 < 16 := by omega
        have HL2 : (L ++ (s.extract m k).data.toList).length + 3 ≤ 140737488355328 := by
          have h1 := congrArg List.length hL.out
          have h2 := HP.out
          simp at h1 h2
          simp [ByteArray.size_extract]
          omega
        have hszw := hbel'.size
        go_region_law (refine step_buf_bytes rfl _ _ rfl w.heap.size _ _ rfl (buf_pct hb' _) _ _ _ rfl (pctX s[k]) rfl (pct_cells w' _ _ _ (hex_div _ _) (hex_mod _ _)) HL2 (size_pct (Nat.le_trans hsz hszw) _) ?_; intro v2 w2 hb2 hg2 hbel2)
        all_goals
          clear hg' hg2
          go_wp2_with fail
          go_roundg (s.size - (k + 1))
          case measure => rw [hgk'.out]; omega
          case rel =>
            refine ⟨k + 1, k + 1, L ++ (s.extract m k).data.toList ++ pctX s[k], rfl, by omega, by omega, by simp, by simp, hb2, ?_, fun h => absurd h (by omega), ?_⟩
            · rw [Hid, HT.out, pctL_snoc, pctC_re hU.out, ← hL.out, Lib.extract_data, Nat.sub_self, List.take_zero, List.append_nil]
            · exact ((hB.out.trans hbel').alloc (Nat.le_trans hsz hszw) _).drew.trans hbel2
    · have hks : k = s.size := by omega
      have hsz := hB.out.size
      by_cases hm0 : m = 0
      · have hmz := Lib.hid hm0
        have gz : ((m : Int) == 0) = true := by simp [hm0]
        have hLe := Lib.hid (h0.out hm0)
        have hks' := Lib.hid hks
        clear hks hm0
        go_wp2_with fail
        go_ret
        have h1 := hL.out
        rw [hLe.out, hmz.out, hks'.out, List.take_of_length_le (l := s.data.toList) (by simp)] at h1
        simp at h1
        exact ⟨ret_string (by rw [← h1, List.take_of_length_le (by simp)]), hB.out⟩
      · have gz : ((m : Int) == 0) = false := by simp; omega
        have hks' := Lib.hid hks
        have HP := Lib.hid (pctL_len s.data.toList)
        have hL2 : Hid (L ++ (s.extract m s.size).data.toList = pctL s.data.toList) := by
          have h1 := hL.out
          rw [hks] at h1
          rw [Hid, Lib.extract_data, h1, List.take_of_length_le (by simp)]
        have HLn : L.length + (s.extract m s.size).size ≤ 140737488355328 := by
          have h1 := congrArg List.length hL2.out
          have h2 := HP.out
          simp at h1 h2
          simp [ByteArray.size_extract]
          omega
        clear hks
        go_wp2_with (at_builtin; refine buf_append_str rfl _ _ rfl w.heap.size _ _ rfl hbuf.out _ rfl HLn hsz ?_; intro v' w' hb' hg' hbel'; have HC := buf_string hb')
        go_ret
        exact ⟨ret_string (by rw [← hL2.out, Lib.extract_data]), hB.out.trans hbel'⟩

set_option maxHeartbeats 16000000 in
set_option maxRecDepth 100000 in
theorem queryEscape_calls (s : ByteArray) (w : World) (hs : s.size ≤ 2147483647) :
    Calls Try.prog 27 #[.string s] w fun e w' => e = .returned (.string ⟨(pctL s.data.toList).toArray⟩) ∧ Below w.heap.size w w' := by
  go_enter Try.func27, Try.ntmps27
  go_wp2_with fail
  refine (urlProc_calls s _ hs).mono ?_
  rintro e w1 ⟨rfl, hb⟩
  go_wp2_with fail
  go_ret
  exact ⟨rfl, hb⟩

set_option linter.unusedVariables false
set_option linter.unusedSimpArgs false

def hexL (f : List UInt8) : Nat → Nat → List UInt8
  | 0, _ => []
  | z + 1, n => hexL f z (n / 16) ++ [f.getD (n % 16) 0]
theorem hexL_len (f : List UInt8) : ∀ z n, (hexL f z n).length = z
  | 0, _ => rfl
  | z + 1, n => by simp [hexL, hexL_len f z]
theorem wrap63 : ∀ n : Int, 0 ≤ n → n < 2 ^ 63 → IntKind.i64.wrap n = n := fun n h h' => by
  have e : (2:Int)^63 = 9223372036854775808 := by decide
  rw [e] at h'
  rw [IntKind.wrap_i64]; omega
theorem and15i (n : Nat) (h : n < 9223372036854775808) : bits .and .i64 (n : Int) 15 = ((n % 16 : Nat) : Int) := by
  have h1 := bits_mask .i64 63 (by decide) wrap63 4 (by decide) (n : Int) (by omega) (by have e : (2:Int)^63 = 9223372036854775808 := by decide
                                                                                         rw [e]; omega)
  have e : ((2:Int)^4 - 1) = 15 := by decide
  have e2 : ((2:Int)^4) = 16 := by decide
  rw [e, e2] at h1
  rw [h1]; omega
theorem getD_byte (s : ByteArray) (k : Nat) (h : k < s.size) : s.data.toList.getD k 0 = s[k] := by
  rw [List.getD_eq_getElem?_getD, List.getElem?_eq_getElem (by simpa using h)]; rfl
/-- The row at block g: z bytes; those from c on are T. -/
def HexAt (w : World) (g z c : Nat) (T : List UInt8) : Prop := (∀ j, j < z → (w.cell? ⟨g, j, none⟩).isSome = true ∧ w.frozen? ⟨g, j, none⟩ = false) ∧ (∀ j (h : j < T.length), w.cell? ⟨g, c + j, none⟩ = some (byteV T[j])) ∧ c + T.length = z
theorem HexAt.set {w : World} {g z c : Nat} {T : List UInt8} (h : HexAt w g z (c + 1) T) (x : UInt8) : HexAt (w.setCell ⟨g, c, none⟩ (byteV x)) g z c (x :: T) := by
  have hz := h.2.2
  refine ⟨fun j hj => ⟨?_, ?_⟩, fun j hj => ?_, by simp; omega⟩
  · by_cases e : j = c
    · subst e
      rw [World.cell?_setCell_same' _ _ _ (h.1 j hj).1]; rfl
    · rw [World.cell?_setCell_other _ _ _ _ (by intro h; simp only [Addr.mk.injEq] at h; omega)]
      exact (h.1 j hj).1
  · rw [World.frozen?_setCell]; exact (h.1 j hj).2
  · rcases j with _ | j
    · exact World.cell?_setCell_same' _ _ _ (h.1 c (by omega)).1
    · rw [World.cell?_setCell_other _ _ _ _ (by intro h; simp only [Addr.mk.injEq] at h; omega)]
      have hj' : j < T.length := by simpa using hj
      have := h.2.1 j hj'
      simpa [Nat.add_assoc, Nat.add_comm 1 j] using this
theorem hexAt_made {w : World} {B g n cap : Nat} (h : Buf w B (.slice (some ⟨g, 0, none⟩) n cap) (List.replicate n 0)) : HexAt w g n n [] := by
  rcases h.2 with ⟨h1, _⟩ | ⟨g', cap', cur, hv, hg, hh, hc, _, hsz, ht⟩
  · simp at h1
  · have e : g = g' := by injection hv with h1 h2 h3; injection h1 with h4; injection h4
    subst e
    have hn : n ≤ cur.size := by
      have h1 := congrArg List.length ht
      simp at h1
      omega
    refine ⟨fun j hj => ⟨?_, ?_⟩, fun j hj => by simp at hj, by simp⟩
    · rw [cell_of_row w g j cur 5 (0, 0) hh, Array.getElem?_eq_getElem (by omega)]; rfl
    · simp [World.frozen?, hh]

set_option maxHeartbeats 16000000 in
set_option maxRecDepth 100000 in
theorem hex_calls (F : ByteArray) (hF : F.size = 16) (n z : Nat) (hz : 1 ≤ z) (hz2 : z ≤ 64) (hn : n < 4611686018427387904) (w : World) :
    Calls Try.prog 15 #[.int .i64 n, .int .i64 z, .string F] w fun e w' => e = .returned (.string ⟨(hexL F.data.toList z n).toArray⟩) ∧ Below w.heap.size w w' := by
  obtain ⟨i0, hi, hz0, hz1, hz3⟩ := info_parts info5
  have hbz : i0.bytes * z ≤ 281474976710656 := by rw [hz3]; omega
  have hml : z ≤ maxLen := by unfold maxLen; omega
  have Hi := Lib.hid hi
  have Hz0 := Lib.hid hz0
  have Hz1 := Lib.hid hz1
  clear hi hz0 hz1 hz3
  go_enter Try.func15, Try.ntmps15
  go_wp2_with (at_make; refine wpList_make_full w rfl _ _ _ rfl w.heap.size 5 i0 _ 1 Try.underlying48 Hi.out Hz0.out Hz1.out .i64 .i64 _ _ z rfl rfl rfl rfl hbz hml (Nat.le_refl _) ?_; intro w1 hown hg1)
  have hmade : HexAt w1 w.heap.size z z [] := hexAt_made (B := w.heap.size) (cap := z) (by
    have e : (madeCells (Value.int IntKind.u8 0).cells (z * 1)).toList = (List.replicate z (0 : UInt8)).map byteV := by
      simp [madeCells, Value.cells, byteV]
      refine List.ext_getElem (by simp) fun i h1 h2 => ?_
      simp [Nat.mod_one]
    rw [e] at hown
    have e2 : z = (List.replicate z (0:UInt8)).length := by simp
    unfold Buf
    rw [← e2]
    exact hown)
  have Hmade := Lib.hid hmade
  have hB1 := Lib.hid ((Below.refl w.heap.size w).grown hg1 (Nat.le_refl _) (fun k hk => by simp at hk))
  clear hmade hown hg1 hbz hml Hi Hz0 Hz1
  go_loopg [0, 8] z (fun c v0 v8 wr => ∃ (N : Nat) (T : List UInt8) (I : Int), c ≤ z ∧ v0 = .int .i64 N ∧ v8 = .int .i64 I ∧ I = (c:Int) - 1 ∧ N < 4611686018427387904 ∧ Hid (HexAt wr w.heap.size z c T) ∧ Hid (hexL F.data.toList c N ++ T = hexL F.data.toList z n) ∧ Hid (Below w.heap.size w wr))
  case atStart =>
    exact ⟨n, [], _, Nat.le_refl _, rfl, rfl, by omega, hn, Hmade, by simp [Hid], hB1⟩
  case round =>
    obtain ⟨N, T, I, hc, rfl, rfl, hI, hN, hat, hT, hB⟩ := hrel
    rcases gk with _ | c
    · obtain rfl : I = -1 := by omega
      have HC : Hid (hexL F.data.toList z n = T) := by rw [Hid, ← hT.out]; rfl
      have hTl : T.length = z := by have := hat.out.2.2; omega
      have hadd : ∀ j, (⟨w.heap.size, 0, none⟩ : Addr).add j = ⟨w.heap.size, j, none⟩ := fun j => by unfold Addr.add; split <;> simp_all
      have hcv := run_convert_bytes_back wr 48 9 5 ⟨w.heap.size, 0, none⟩ z T Try.underlying48 Try.underlying5 Try.underlying9 (fun j hj => by rw [hadd]; have h5 := hat.out.2.1 j hj; rw [Nat.zero_add] at h5; exact h5)
      rw [hTl] at hcv
      clear hadd hTl hI
      go_wp2_with fail
      go_ret
      exact ⟨ret_string (by rw [HC.out]), hB.out⟩
    · obtain rfl : I = (c : Int) := by omega
      have hA := and15i N (by omega)
      have h0 : (0:Int) ≤ (c:Int) := by omega
      clear hI
      have hix : (0:Int) ≤ ((N % 16 : Nat) : Int) ∧ ((N % 16 : Nat) : Int) < 16 := by omega
      have hfz := (hat.out.1 c (by omega)).2
      obtain ⟨u, hcl⟩ := Option.isSome_iff_exists.1 (hat.out.1 c (by omega)).1
      have hD : Hid (F.data.toList.getD (N % 16) 0 = F[N % 16]'(by omega)) := getD_byte F _ (by omega)
      go_wp2_with fail
      go_roundg c
      case measure => omega
      case rel =>
        refine ⟨N / 16, F[N % 16]'(by omega) :: T, _, by omega, by simp, rfl, rfl, by omega, HexAt.set hat.out _, ?_, hB.out.setCell (Nat.le_refl _) _⟩
        rw [Hid, ← hT.out, hexL, hD.out]
        simp

theorem bytes_append (a b : ByteArray) : (a ++ b).data.toList = a.data.toList ++ b.data.toList := by simp
theorem hex2 (c : UInt8) : hexL hexDs 2 c.toNat = [hexDs.getD (c.toNat / 16) 0, hexDs.getD (c.toNat % 16) 0] := by
  have := toNat_lt_256 c
  have e : c.toNat / 16 % 16 = c.toNat / 16 := by omega
  simp [hexL, e]

set_option maxHeartbeats 16000000 in
set_option maxRecDepth 100000 in
theorem percent_calls (s : ByteArray) (w : World) (hs : s.size ≤ 2147483647) :
    Calls Try.prog 7 #[.string s] w fun e w' => e = .returned (.string ⟨(pctL s.data.toList).toArray⟩) ∧ Below w.heap.size w w' := by
  go_enter Try.func7, Try.ntmps7
  go_wp2
  go_loopg [3, 4] s.size (fun gk v i wr => ∃ (k : Nat) (A : ByteArray), gk = s.size - k ∧ k ≤ s.size ∧ i = .int .i64 k ∧ v = .string A ∧ Hid (A.data.toList = pctL (s.data.toList.take k)) ∧ Hid (Below w.heap.size w wr))
  case atStart => exact ⟨0, ⟨#[]⟩, rfl, Nat.zero_le _, rfl, rfl, by simp [Hid, pctL], Below.refl _ _⟩
  case round =>
    obtain ⟨k, A, hgk, hk, rfl, rfl, hA, hB⟩ := hrel
    by_cases hlt : k < s.size
    · have HT := Lib.hid (take_succ_byte s k hlt)
      have h256 := toNat_lt_256 s[k]
      have HP := Lib.hid (pctL_len (s.data.toList.take k))
      have hAl : A.size ≤ 6442450941 := by
        have h1 := congrArg List.length hA.out
        have h2 := HP.out
        simp at h1 h2
        omega
      have hgk' := Lib.hid hgk
      clear hgk
      go_upto_region 6 with fail
      go_cut [36] (fun v wx => v = .bool (unresC s[k]) ∧ wx = wr)
      case first =>
        have HU := Lib.hid (show unresC s[k] = (letterC s[k] || digitC s[k] || s[k] == 45 || s[k] == 46 || s[k] == 95 || s[k] == 126) from rfl)
        cases hL : letterC s[k] with
        | true =>
          have HL := Lib.hid hL
          go_wp2_with fail
          refine (specLetter_calls s[k] _).mono ?_
          rintro e w1 ⟨rfl, rfl⟩
          go_wp2_with fail
          go_meet
          exact ⟨by rw [HU.out, HL.out]; rfl, rfl⟩
        | false =>
          have HL := Lib.hid hL
          cases hD : digitC s[k] with
          | true =>
            have HD := Lib.hid hD
            go_wp2_with fail
            refine (specLetter_calls s[k] _).mono ?_
            rintro e w1 ⟨rfl, rfl⟩
            go_wp2_with fail
            refine (specFigure_calls s[k] _).mono ?_
            rintro e w1 ⟨rfl, rfl⟩
            go_wp2_with fail
            go_meet
            exact ⟨by rw [HU.out, HL.out, HD.out]; rfl, rfl⟩
          | false =>
            have HD := Lib.hid hD
            have HE := Lib.hid (u8_beq s[k] 45)
            have HE2 := Lib.hid (u8_beq s[k] 46)
            have HE3 := Lib.hid (u8_beq s[k] 95)
            have HE4 := Lib.hid (u8_beq s[k] 126)
            go_wp2_with fail
            refine (specLetter_calls s[k] _).mono ?_
            rintro e w1 ⟨rfl, rfl⟩
            go_wp2_with fail
            refine (specFigure_calls s[k] _).mono ?_
            rintro e w1 ⟨rfl, rfl⟩
            cases h45 : ((s[k].toNat : Int) == 45) with
            | true =>
              have H45 := Lib.hid h45
              go_wp2_with fail
              go_meet
              exact ⟨by rw [HU.out, HL.out, HD.out, ← HE.out]; simp only [show (45 : UInt8).toNat = 45 from rfl]; erw [H45.out]; rfl, rfl⟩
            | false =>
              have H45 := Lib.hid h45
              cases h46 : ((s[k].toNat : Int) == 46) with
              | true =>
                have H46 := Lib.hid h46
                go_wp2_with fail
                go_meet
                exact ⟨by rw [HU.out, HL.out, HD.out, ← HE.out, ← HE2.out]; erw [H45.out, H46.out]; rfl, rfl⟩
              | false =>
                have H46 := Lib.hid h46
                cases h95 : ((s[k].toNat : Int) == 95) with
                | true =>
                  have H95 := Lib.hid h95
                  go_wp2_with fail
                  go_meet
                  exact ⟨by rw [HU.out, HL.out, HD.out, ← HE.out, ← HE2.out, ← HE3.out]; erw [H45.out, H46.out, H95.out]; rfl, rfl⟩
                | false =>
                  have H95 := Lib.hid h95
                  have H126 := Lib.hid (show ((s[k].toNat : Int) == 126) = ((s[k].toNat : Int) == 126) from rfl)
                  go_wp2_with fail
                  go_meet
                  exact ⟨by rw [HU.out, HL.out, HD.out, ← HE.out, ← HE2.out, ← HE3.out, ← HE4.out]; erw [H45.out, H46.out, H95.out]; rfl, rfl⟩
      case rest =>
        obtain ⟨rfl, rfl⟩ := hcut
        cases hU : unresC s[k] with
        | true =>
          have HU := Lib.hid hU
          have hadd : A.size + (s.extract k (k + 1)).size ≤ 9223372036854775807 := by simp [ByteArray.size_extract]; omega
          go_wp2_with fail
          go_roundg (s.size - (k + 1))
          case measure => rw [hgk'.out]; omega
          case rel =>
            refine ⟨k + 1, A ++ s.extract k (k + 1), rfl, by omega, by simp, rfl, ?_, hB⟩
            rw [Hid, HT.out, pctL_snoc, pctC_un HU.out, ← hA.out]
            have h1 := drop_take_succ s k k (Nat.le_refl _) hlt
            simp only [Nat.sub_self, List.take_zero, List.nil_append] at h1
            rw [bytes_append, Lib.extract_data, h1]
        | false =>
          have HU := Lib.hid hU
          go_wp2_with fail
          refine (hex_calls ⟨#[48, 49, 50, 51, 52, 53, 54, 55, 56, 57, 97, 98, 99, 100, 101, 102]⟩ rfl s[k].toNat 2 (by omega) (by omega) (by omega) _).mono ?_
          rintro e w1 ⟨rfl, hb⟩
          generalize hX : (⟨(hexL (ByteArray.mk #[48, 49, 50, 51, 52, 53, 54, 55, 56, 57, 97, 98, 99, 100, 101, 102]).data.toList 2 s[k].toNat).toArray⟩ : ByteArray) = X
          have HX : Hid (X.data.toList = [hexDs.getD (s[k].toNat / 16) 0, hexDs.getD (s[k].toNat % 16) 0]) := by
            rw [Hid, ← hX, ← hex2]; rfl
          have hXs : X.size = 2 := by rw [← hX]; rfl
          have hbw := Lib.hid hb
          clear hX hb
          have hadd0 : (ByteArray.mk #[37]).size + X.size ≤ 9223372036854775807 := by rw [hXs]; decide
          have hXsz : ((ByteArray.mk #[37]) ++ X).size = 3 := by rw [ByteArray.size_append, hXs]; rfl
          have hadd : A.size + ((ByteArray.mk #[37]) ++ X).size ≤ 9223372036854775807 := by rw [hXsz]; omega
          go_wp2_with fail
          go_roundg (s.size - (k + 1))
          case measure => rw [hgk'.out]; omega
          case rel =>
            refine ⟨k + 1, A ++ ((ByteArray.mk #[37]) ++ X), rfl, by omega, by simp, rfl, ?_, below_then hB.out hB.out.size hbw.out⟩
            rw [Hid, HT.out, pctL_snoc, pctC_re HU.out, ← hA.out, bytes_append, bytes_append, HX.out]
            rfl
    · have hks : k = s.size := by omega
      have hfin : Hid (A = ⟨(pctL s.data.toList).toArray⟩) := by
        have h1 := hA.out
        rw [hks, List.take_of_length_le (by simp)] at h1
        rw [Hid, ← h1]
      clear hks hgk
      go_wp2_with fail
      go_ret
      exact ⟨ret_string hfin.out, hB.out⟩

set_option linter.unusedVariables false
set_option linter.unusedSimpArgs false
set_option maxHeartbeats 400000 in
set_option maxRecDepth 100000 in
theorem ascii_calls (s : ByteArray) (w : World) (hs : s.size ≤ 2147483647) :
    Calls Try.prog 5 #[.string s, .int .i64 200] w fun e w' => e = .returned (.bool (asciiB s && smallB s)) ∧ w = w' := by
  go_enter Try.func5, Try.ntmps5
  go_wp2
  go_loop [5] (fun i => ∃ k : Nat, k ≤ s.size ∧ i = .int .i64 k ∧ Hid ((s.data.toList.take k).all asciiC = true)) (fun i => s.size - (intOf i).toNat)
  case atStart => exact ⟨0, Nat.zero_le _, rfl, by simp [Hid]⟩
  case round =>
    obtain ⟨k, hk, rfl, ha⟩ := hrel
    by_cases hlt : k < s.size
    · have H := Lib.hid (all_take_succ (p := asciiC) s k hlt)
      by_cases h1 : 127 < s[k].toNat
      · have g1 : decide (128 ≤ (s[k].toNat : Int)) = true := decide_eq_true (by omega)
        go_wp2
        go_ret
        exact ⟨ret_bool (by rw [asciiB, all_false_of s k hlt (by simp [asciiC]; omega)]; rfl), rfl⟩
      · have g1 : decide (128 ≤ (s[k].toNat : Int)) = false := decide_eq_false (by omega)
        go_wp2
        go_round
        case rel => exact ⟨k + 1, by omega, by go_num, by rw [Hid, H.out, ha.out]; simp [asciiC]; omega⟩
        case measure => simp [intOf]; omega
    · have HA := Lib.hid (all_of_take s k (by omega) ha.out)
      cases h2 : smallB s
      · have g1 : decide ((s.size : Int) ≤ 200) = false := decide_eq_false (by simp [smallB] at h2; omega)
        have g2 : decide (s.size ≤ 200) = false := decide_eq_false (by simp [smallB] at h2; omega)
        have H2 := Lib.hid h2
        clear h2
        go_wp2
        go_ret
        exact ⟨ret_bool (by rw [asciiB, HA.out, H2.out]; rfl), rfl⟩
      · have g1 : decide ((s.size : Int) ≤ 200) = true := decide_eq_true (by simp [smallB] at h2; omega)
        have g2 : decide (s.size ≤ 200) = true := decide_eq_true (by simp [smallB] at h2; omega)
        have H2 := Lib.hid h2
        clear h2
        go_wp2
        go_ret
        exact ⟨ret_bool (by rw [asciiB, HA.out, H2.out]; rfl), rfl⟩

set_option linter.unusedVariables false
set_option linter.unusedSimpArgs false

/-- Two texts are the same. -/
def sameN (n m : ByteArray) : Bool := n.toList == m.toList
theorem sameN_iff {n m : ByteArray} : sameN n m = true ↔ n = m := by
  rw [sameN, beq_iff_eq, ByteArray.toList_eq, ByteArray.toList_eq]
  constructor
  · intro h
    exact WideShapes.bytes_inj h
  · rintro rfl; rfl
theorem Below.own (w : World) (o : Obj) : Below w.heap.size w (w.alloc o) := (Below.refl _ _).alloc (Nat.le_refl _) _
theorem enters12 : Enters 12 := fun args w => by simp [go_sem, Try.func12]

set_option maxRecDepth 100000 in
theorem sameName_calls (n v m : ByteArray) (g : Nat) (w : World) (hc : w.cell? ⟨g, 0, none⟩ = some (.string m)) :
    Calls Try.prog 12 #[.agg #[.string n, .string v], .pointer (some ⟨g, 0, none⟩)] w fun e w' => e = .returned (.bool (sameN n m)) ∧ Below w.heap.size w w' := by
  have hlt : g < w.heap.size := World.block_lt_of_cell? w _ hc
  go_enter Try.func12, Try.ntmps12
  go_wp2_with fail
  go_ret
  exact ⟨rfl, (Below.refl _ _).alloc (Nat.le_refl _) _⟩

set_option maxHeartbeats 400000 in
set_option maxRecDepth 100000 in
theorem indexPair_calls (m : FuncId) (c : Value) (p : Pr → Bool) (l : List Pr) (hcf : Enters m) (w : World)
    (hm : Hid (∀ q ∈ l, ∀ w' : World, Below w.heap.size w w' → Calls Try.prog m #[.agg #[.string q.1, .string q.2], c] w' fun e w'' => e = .returned (.bool (p q)) ∧ Below w'.heap.size w' w''))
    (A : Option Addr) (cap : Nat) (hA : Hid (PairsAt w A l)) (hl : l.length ≤ 2147483647) :
    Calls Try.prog 24 #[.slice A l.length cap, .func (.func m) #[] #[c]] w (IdxIs (l.any p) w) := by
  unfold Enters at hcf
  go_enter Try.func24, Try.ntmps24
  go_wp2
  go_loopg [8] l.length (fun gk i wr => ∃ k : Nat, gk = l.length - k ∧ k ≤ l.length ∧ i = .int .i64 k ∧ Hid ((l.take k).any p = false) ∧ Hid (Below w.heap.size w wr))
  case atStart => exact ⟨0, rfl, Nat.zero_le _, rfl, by simp [Hid], Below.refl _ _⟩
  case round =>
    obtain ⟨k, hgk, hk, rfl, ha, hB⟩ := hrel
    have HG := Lib.hid hgk
    clear hgk
    by_cases hlt : k < l.length
    · have H := Lib.hid (any_take_succ (p := p) l k hlt)
      obtain ⟨ad, rfl, hblk, hc, hd⟩ := (hA.out.below hB.out) k hlt
      cases hp : p l[k]
      · have HP := Lib.hid hp
        clear hp
        go_wp2_with fail
        refine (hm.out l[k] (List.getElem_mem _) _ hB.out).mono ?_
        rintro e w' ⟨rfl, hb⟩
        have hp := HP.out
        go_wp2
        go_roundg (l.length - (k + 1))
        case rel => exact ⟨k + 1, rfl, by omega, by go_num, by rw [Hid, H.out, ha.out, hp]; rfl, below_then hB.out hB.out.size hb⟩
        case measure => rw [HG.out]; omega
      · have HP := Lib.hid hp
        clear hp
        go_wp2_with fail
        refine (hm.out l[k] (List.getElem_mem _) _ hB.out).mono ?_
        rintro e w' ⟨rfl, hb⟩
        have hp := HP.out
        go_wp2
        go_ret
        exact ⟨k, rfl, by rw [any_true_of l k hlt hp]; simp, below_then hB.out hB.out.size hb⟩
    · go_wp2
      go_ret
      exact ⟨-1, rfl, by rw [any_of_take l k (by omega) ha.out]; rfl, hB.out⟩

set_option maxHeartbeats 400000 in
set_option maxRecDepth 100000 in
theorem containsPair_calls (m : FuncId) (c : Value) (p : Pr → Bool) (l : List Pr) (hcf : Enters m) (w : World)
    (hm : Hid (∀ q ∈ l, ∀ w' : World, Below w.heap.size w w' → Calls Try.prog m #[.agg #[.string q.1, .string q.2], c] w' fun e w'' => e = .returned (.bool (p q)) ∧ Below w'.heap.size w' w''))
    (A : Option Addr) (cap : Nat) (hA : Hid (PairsAt w A l)) (hl : l.length ≤ 2147483647) :
    Calls Try.prog 11 #[.slice A l.length cap, .func (.func m) #[] #[c]] w fun e w' => e = .returned (.bool (l.any p)) ∧ Below w.heap.size w w' := by
  go_enter Try.func11, Try.ntmps11
  go_wp2_with fail
  refine (indexPair_calls m c p l hcf _ hm A cap hA hl).mono ?_
  rintro e w' ⟨r, rfl, hr, hb⟩
  have HR := Lib.hid hr
  clear hr
  go_wp2
  go_ret
  exact ⟨ret_bool HR.out, hb⟩

def okP (p : Pr) : Bool := (asciiB p.1 && smallB p.1) && (asciiB p.2 && smallB p.2)
/-- Name k is none of those before. -/
def freshAt (l : List Pr) (k : Nat) : Bool := match l[k]? with
  | some p => okP p && !((l.take k).any fun q => sameN q.1 p.1)
  | none => true
def pairsOkB (l : List Pr) : Bool := decide (l.length ≤ 20) && (List.range l.length).all (freshAt l)
theorem freshAt_at (l : List Pr) (k : Nat) (h : k < l.length) : freshAt l k = (okP l[k] && !((l.take k).any fun q => sameN q.1 l[k].1)) := by
  rw [freshAt, List.getElem?_eq_getElem h]
theorem range_all_succ (f : Nat → Bool) (k : Nat) : (List.range (k + 1)).all f = ((List.range k).all f && f k) := by
  rw [List.range_succ, List.all_append]; simp
theorem range_all_false (f : Nat → Bool) (n k : Nat) (h : k < n) (hf : f k = false) : (List.range n).all f = false := by
  rw [Bool.eq_false_iff]
  intro h1
  have := List.all_eq_true.1 h1 k (by simpa using h)
  rw [hf] at this; cases this
theorem PairsAt.take {w : World} {A : Option Addr} {l : List Pr} (h : PairsAt w A l) (n : Nat) : PairsAt w A (l.take n) := fun k hk => by
  have h1 : k < l.length := by have := hk; simp at this; omega
  have e : (l.take n)[k] = l[k] := by simp
  rw [e]
  exact h k h1

set_option maxHeartbeats 4000000 in
set_option maxRecDepth 100000 in
theorem pairsOk_calls (l : List Pr) (A : Option Addr) (cap : Nat) (w : World) (hA : Hid (PairsAt w A l)) (hf : fitsB l = true) (hcap : l.length ≤ cap) :
    Calls Try.prog 6 #[.slice A l.length cap] w fun e w' => e = .returned (.bool (pairsOkB l)) ∧ Below w.heap.size w w' := by
  have hfl : l.length ≤ 2147483647 := by simp [fitsB] at hf; exact hf.1
  have HF := Lib.hid (show ∀ p ∈ l, p.1.size ≤ 2147483647 ∧ p.2.size ≤ 2147483647 by
    simp [fitsB, fitB] at hf
    exact fun p hp => hf.2 p.1 p.2 hp)
  clear hf
  have hmf : ∀ (fn : Fn) (first cap : Array Value) (w : World), (Instr.makeFunc fn first cap).run Try.prog w = .ok (.func fn first cap) w := fun _ _ _ _ => rfl
  by_cases h20 : 20 < l.length
  · have HL := Lib.hid (show pairsOkB l = false by rw [pairsOkB, decide_eq_false (by omega)]; rfl)
    have g1 : decide ((20:Int) < (l.length : Int)) = true := by simp; omega
    go_enter Try.func6, Try.ntmps6
    go_wp2_with fail
    go_ret
    exact ⟨ret_bool HL.out.symm, Below.refl _ _⟩
  · have HL := Lib.hid (show pairsOkB l = (List.range l.length).all (freshAt l) by rw [pairsOkB, decide_eq_true (by omega)]; rfl)
    have g1 : decide ((20:Int) < (l.length : Int)) = false := by simp; omega
    go_enter Try.func6, Try.ntmps6
    go_wp2_with fail
    go_loopg [10] l.length (fun gk i wr => ∃ k : Nat, gk = l.length - k ∧ k ≤ l.length ∧ i = .int .i64 k ∧ Hid ((List.range k).all (freshAt l) = true) ∧ Hid (Below w.heap.size w wr))
    case atStart => exact ⟨0, rfl, Nat.zero_le _, rfl, by simp [Hid], Below.refl _ _⟩
    case round =>
      obtain ⟨k, hgk, hk, rfl, ha, hB⟩ := hrel
      have HG := Lib.hid hgk
      clear hgk
      by_cases hlt : k < l.length
      · have H := Lib.hid (range_all_succ (freshAt l) k)
        have HFr := Lib.hid (freshAt_at l k hlt)
        have hpn : Hid (l[k].1.size ≤ 2147483647 ∧ l[k].2.size ≤ 2147483647) := HF.out _ (List.getElem_mem _)
        obtain ⟨ad, rfl, hblk, hc, hd⟩ := (hA.out.below hB.out) k hlt
        go_wp2_with fail
        refine (ascii_calls l[k].1 _ hpn.out.1).mono ?_
        rintro e w1 ⟨rfl, rfl⟩
        cases ho1 : (asciiB l[k].1 && smallB l[k].1) with
        | false =>
          have HO1 := Lib.hid ho1
          go_wp2_with fail
          go_ret
          exact ⟨ret_bool (by rw [HL.out, range_all_false (freshAt l) _ k hlt (by rw [HFr.out, okP, HO1.out]; rfl)]), hB.out.alloc hB.out.size _⟩
        | true =>
          have HO1 := Lib.hid ho1
          go_wp2_with fail
          refine (ascii_calls l[k].2 _ hpn.out.2).mono ?_
          rintro e w1 ⟨rfl, rfl⟩
          cases ho2 : (asciiB l[k].2 && smallB l[k].2) with
          | false =>
            have HO2 := Lib.hid ho2
            go_wp2_with fail
            go_ret
            exact ⟨ret_bool (by rw [HL.out, range_all_false (freshAt l) _ k hlt (by rw [HFr.out, okP, HO1.out, HO2.out]; rfl)]), hB.out.alloc hB.out.size _⟩
          | true =>
            have HO2 := Lib.hid ho2
            have hkl : (l.take k).length = k := by simp; omega
            have hkc : k ≤ cap := by omega
            have HA2 := Lib.hid (((hA.out.below hB.out).take k).below (Below.own wr (Obj.cells #[.string l[k].1, .string l[k].2] 27)))
            have HS := Lib.hid (fun (w' : World) (hw : Below (wr.alloc (Obj.cells #[.string l[k].1, .string l[k].2] 27)).heap.size (wr.alloc (Obj.cells #[.string l[k].1, .string l[k].2] 27)) w') (q : Pr) =>
              sameName_calls q.1 q.2 l[k].1 wr.heap.size w' (by rw [own_cell hw]; rfl))
            have HC := Lib.hid (containsPair_calls 12 (.pointer (some ⟨wr.heap.size, 0, none⟩)) (fun q => sameN q.1 l[k].1) (l.take k) enters12 _ (Lib.hid (fun q _ w' hw => HS.out w' hw q)) (some ad) cap HA2 (by omega))
            rw [hkl] at HC
            go_wp2_with fail
            refine HC.out.mono ?_
            rintro e w1 ⟨rfl, hb⟩
            have hb1 := Lib.hid (below_then hB.out hB.out.size (below_own hb))
            clear hb
            cases hany : ((l.take k).any fun q => sameN q.1 l[k].1) with
            | true =>
              have HN := Lib.hid hany
              go_wp2_with fail
              go_ret
              exact ⟨ret_bool (by rw [HL.out, range_all_false (freshAt l) _ k hlt (by rw [HFr.out, HN.out]; simp)]), hb1.out⟩
            | false =>
              have HN := Lib.hid hany
              go_wp2_with fail
              go_roundg (l.length - (k + 1))
              case measure => rw [HG.out]; omega
              case rel => exact ⟨k + 1, rfl, by omega, by simp, by rw [Hid, H.out, ha.out, HFr.out, okP, HO1.out, HO2.out, HN.out]; rfl, hb1.out⟩
      · have hkk : k = l.length := by omega
        have HT := Lib.hid (show (List.range l.length).all (freshAt l) = true by rw [← hkk]; exact ha.out)
        clear hkk HG
        go_wp2_with fail
        go_ret
        exact ⟨ret_bool (by rw [HL.out, HT.out]), hB.out⟩

set_option linter.unusedVariables false
set_option linter.unusedSimpArgs false

def keyL (s : ByteArray) : Lit := .string s.data.toList
def dPut (D : DataW Unit) (p : Pr) : DataW Unit := D.put (keyL p.1) (.lit (.string p.2.data.toList))
def dOf (l : List Pr) : DataW Unit := l.foldl dPut (.map [])
theorem dOf_snoc (l : List Pr) (p : Pr) : dOf (l ++ [p]) = dPut (dOf l) p := by simp [dOf]
theorem keyL_key (s : ByteArray) : WideAt.IsKeyLit (keyL s) := trivial
theorem keyL_inj {a b : ByteArray} : keyL a = keyL b ↔ sameN a b = true := by
  rw [sameN_iff]
  constructor
  · intro h; injection h with h; exact WideShapes.bytes_inj h
  · rintro rfl; rfl
theorem put_isMap {D : DataW Unit} (h : IsMap D) (k : Lit) (d : DataW Unit) : IsMap (D.put k d) := by
  obtain ⟨es, rfl⟩ := h
  exact ⟨_, rfl⟩
theorem dOf_isMap (l : List Pr) : IsMap (dOf l) := by
  induction l using revInd with
  | nil => exact isMap_empty
  | snoc l p ih => rw [dOf_snoc]; exact put_isMap ih _ _
def hasN (l : List Pr) (n : ByteArray) : Bool := l.any fun q => sameN q.1 n
def findN (l : List Pr) (n : ByteArray) : Option Pr := l.find? fun q => sameN q.1 n
theorem has_dOf (l : List Pr) (n : ByteArray) : has (dOf l) (keyL n) = hasN l n := by
  induction l using revInd with
  | nil => rfl
  | snoc l p ih =>
    rw [dOf_snoc, dPut, hasN, List.any_append]
    cases h : sameN p.1 n with
    | true =>
      have e : keyL p.1 = keyL n := keyL_inj.2 h
      rw [e, has_put_same (dOf_isMap l) (keyL_key n)]
      simp [h]
    | false =>
      have e : keyL n ≠ keyL p.1 := fun e => by have := keyL_inj.1 e.symm; rw [h] at this; cases this
      rw [has_put_other e, ih]
      simp [h, hasN]
def Fresh (l : List Pr) : Prop := ∀ k (h : k < l.length), hasN (l.take k) l[k].1 = false
theorem fresh_of_ok {l : List Pr} (h : pairsOkB l = true) : Fresh l := by
  intro k hk
  rw [pairsOkB, Bool.and_eq_true] at h
  have h1 := List.all_eq_true.1 h.2 k (by simpa using hk)
  rw [freshAt_at l k hk, Bool.and_eq_true] at h1
  simpa [hasN] using h1.2
theorem okP_of_ok {l : List Pr} (h : pairsOkB l = true) : ∀ p ∈ l, okP p = true := by
  intro p hp
  obtain ⟨k, hk, rfl⟩ := List.mem_iff_getElem.1 hp
  rw [pairsOkB, Bool.and_eq_true] at h
  have h1 := List.all_eq_true.1 h.2 k (by simpa using hk)
  rw [freshAt_at l k hk, Bool.and_eq_true] at h1
  exact h1.1
theorem len_of_ok {l : List Pr} (h : pairsOkB l = true) : l.length ≤ 20 := by
  rw [pairsOkB, Bool.and_eq_true] at h
  simpa using h.1
def valD (o : Option Pr) (z : DataW Unit) : DataW Unit := match o with | some q => .lit (.string q.2.data.toList) | none => z
theorem take_snoc (l : List Pr) (k : Nat) (h : k < l.length) : l.take (k + 1) = l.take k ++ [l[k]] := by
  rw [List.take_succ_eq_append_getElem h]
theorem at_dOf (l : List Pr) (hf : Fresh l) (n : ByteArray) (z : DataW Unit) : (dOf l).atKey (keyL n) z = valD (findN l n) z := by
  have H : ∀ k, k ≤ l.length → (dOf (l.take k)).atKey (keyL n) z = valD (findN (l.take k) n) z := by
    intro k
    induction k with
    | zero => intro _; rfl
    | succ k ih =>
      intro hk
      have hlt : k < l.length := hk
      rw [take_snoc l k hlt, dOf_snoc, dPut, findN, List.find?_append]
      cases h : sameN l[k].1 n with
      | true =>
        have e : keyL l[k].1 = keyL n := keyL_inj.2 h
        rw [e, atKey_put_same (dOf_isMap _) (keyL_key n)]
        have e2 : l[k].1 = n := sameN_iff.1 h
        have h2 := hf k hlt
        rw [e2, hasN] at h2
        have h3 : (l.take k).find? (fun q => sameN q.1 n) = none := by
          rw [List.find?_eq_none]
          intro q hq
          have := List.any_eq_false.1 h2 q hq
          simpa using this
        rw [h3]
        simp [h, valD]
      | false =>
        have e : keyL n ≠ keyL l[k].1 := fun e => by have := keyL_inj.1 e.symm; rw [h] at this; cases this
        rw [atKey_put_other e, ih (by omega), findN]
        simp [h]
  have := H l.length (Nat.le_refl _)
  rw [List.take_of_length_le (Nat.le_refl _)] at this
  exact this

theorem law9 : Keyed Try.prog 9 := string_keyed Try.underlying9
theorem zero9 (w : World) : (zeroValue 9).run Try.prog w = .ok (.string ⟨#[]⟩) w := by kernel_rfl
theorem under37 : Try.prog.underlying 37 = some (.map 9 9) := by kernel_rfl
theorem key9 (s : ByteArray) (hs : s.size ≤ 2147483647) : keyOf Try.prog 9 (.string s) = some (keyL s) := WideMaps.keyOf_string_mk Try.underlying9 (by unfold maxLen; omega)
theorem elem9 (s : ByteArray) (hs : s.size ≤ 2147483647) : plainElem (H := Unit) Try.prog 9 (.string s) = some (.lit (.string s.data.toList), []) := plainElem_string Try.underlying9 (by unfold maxLen; omega)
set_option maxRecDepth 100000 in
theorem elem9_inv {v : Value} {z : DataW Unit × List MemPlace} (h : plainElem (H := Unit) Try.prog 9 v = some z) : ∃ s : ByteArray, v = .string s ∧ z = (.lit (.string s.data.toList), []) := by
  cases v <;> simp [plainElem, Try.underlying9] at h
  rename_i s
  exact ⟨s, rfl, h.2.symm⟩
def Own79 (w : World) (b n : Nat) (l : List Pr) : Prop := w.ownsMap Try.prog 9 (plainElem (H := Unit) Try.prog 9) b n (dOf l)

set_option maxHeartbeats 8000000 in
set_option maxRecDepth 100000 in
theorem implPairs_calls (l : List Pr) (A : Option Addr) (cap : Nat) (w : World) (hA : Hid (PairsAt w A l)) (hok : pairsOkB l = true) :
    Calls Try.prog 16 #[.slice A l.length cap] w fun e w' => ∃ b, e = .returned (.tuple #[.map (some b), .bool true]) ∧ w.heap.size ≤ b ∧ Own79 w' b l.length l ∧ Below w.heap.size w w' := by
  have hl := len_of_ok hok
  have HFr := Lib.hid (fresh_of_ok hok)
  have HOk := Lib.hid (okP_of_ok hok)
  have hmm := @run_makeMap Try.prog
  clear hok
  go_enter Try.func16, Try.ntmps16
  go_wp2_with fail
  go_loopg [12] l.length (fun gk i wr => ∃ k : Nat, gk = l.length - k ∧ k ≤ l.length ∧ i = .int .i64 k ∧ Hid (Own79 wr w.heap.size k (l.take k)) ∧ Hid (Below w.heap.size w wr))
  case atStart => exact ⟨0, rfl, Nat.zero_le _, rfl, World.ownsMap_made _ _ _ _, (Below.refl _ _).alloc (Nat.le_refl _) _⟩
  case round =>
    obtain ⟨k, hgk, hk, rfl, hown, hB⟩ := hrel
    have HG := Lib.hid hgk
    clear hgk
    by_cases hlt : k < l.length
    · have hopn : Hid (okP l[k] = true) := HOk.out _ (List.getElem_mem _)
      have hs1 : l[k].1.size ≤ 2147483647 := by have := hopn.out; simp [okP, smallB] at this; omega
      have hs2 : l[k].2.size ≤ 2147483647 := by have := hopn.out; simp [okP, smallB] at this; omega
      have HK1 := Lib.hid (key9 l[k].1 hs1)
      have HE2 := Lib.hid (elem9 l[k].2 hs2)
      have HE0 := Lib.hid (elem9 ⟨#[]⟩ (by decide))
      have HN := Lib.hid (show has (dOf (l.take k)) (keyL l[k].1) = false by rw [has_dOf]; exact HFr.out k hlt)
      obtain ⟨ad, rfl, hblk, hc, hd⟩ := (hA.out.below hB.out) k hlt
      go_wp2_with (at_lookup; refine wpList_lookup_own_ok _ rfl _ _ 37 rfl 9 9 law9 under37 _ (zero9 _) _ [] HE0.out w.heap.size k _ rfl (World.ownsMap.alloc hown.out _) _ _ rfl HK1.out ?_; rw [HN.out]; intro v ps hv)
      have HPl := Lib.hid (show ((asciiB l[k].1 && asciiB l[k].2) && (smallB l[k].1 && smallB l[k].2)) = true by have := hopn.out; simp [okP] at this ⊢; simp [this])
      refine (isPlain_two l[k].1 l[k].2 _ _ _ (by exact strsAt_new _ _ [l[k].1, l[k].2] 9 (by simp)) hs1 hs2).mono ?_
      rw [HPl.out]
      rintro e w1 ⟨rfl, rfl⟩
      go_wp2_with (at_mapUpdate; refine wpList_mapUpdate_own _ rfl _ _ _ 37 rfl 9 9 law9 under37 (plainElem (H := Unit) Try.prog 9) w.heap.size k _ rfl (World.ownsMap.alloc (World.ownsMap.alloc hown.out _) _) (by unfold maxLen; omega) _ _ _ rfl rfl HK1.out _ [] HE2.out ?_; intro w2 hown2 hgrow2)
      go_roundg (l.length - (k + 1))
      case measure => rw [HG.out]; omega
      case rel =>
        refine ⟨k + 1, rfl, by omega, by simp, ?_, ?_⟩
        · rw [Hid, Own79, take_snoc l k hlt, dOf_snoc]; exact hown2
        · exact ((hB.out.alloc hB.out.size _).alloc (Nat.le_trans hB.out.size (by simp)) _).grown hgrow2 (by simp; have := hB.out.size; omega) (fun j hj => by cases hj; exact Nat.le_refl _)
    · have hks : k = l.length := by omega
      have HO : Hid (Own79 wr w.heap.size l.length l) := by
        have := hown.out
        rw [hks, List.take_of_length_le (Nat.le_refl _)] at this
        exact this
      have g1 : decide ((l.length : Int) ≤ 20) = true := by simp; omega
      clear hks HG
      go_wp2_with fail
      go_ret2
      exact ⟨w.heap.size, rfl, Nat.le_refl _, HO.out, hB.out⟩

end Go.Proofs.Ytlpkdagdfopchaa
