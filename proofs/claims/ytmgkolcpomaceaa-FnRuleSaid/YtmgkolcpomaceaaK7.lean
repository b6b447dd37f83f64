/- zzCSS of a sign of ASCII. -/
import Derived.Test.YtmgkolcpomaceaaK5
import Derived.ArgAppend
import Derived.Test.YtmgkolcpomaceaaJ1
import Derived.Lib.SmallJoins
namespace Go.Proofs.Ytmgkolcpomaceaa
open Go.RowKit
set_option linter.unusedVariables false
set_option linter.unusedSimpArgs false

theorem wrap31 : ∀ n : Int, 0 ≤ n → n < 2 ^ 31 → IntKind.i32.wrap n = n := fun n h h' => by
  have e : (2:Int)^31 = 2147483648 := by decide
  rw [e] at h'
  first | (rw [IntKind.wrap_i32]; omega) | (simp [IntKind.wrap, IntKind.signed, IntKind.bits]; omega)
theorem and15r (n : Nat) (h : n < 2147483648) : bits .and .i32 (n : Int) 15 = ((n % 16 : Nat) : Int) := by
  have h1 := bits_mask .i32 31 (by decide) wrap31 4 (by decide) (n : Int) (by omega) (by have e : (2:Int)^31 = 2147483648 := by decide
                                                                                         rw [e]; omega)
  have e : ((2:Int)^4 - 1) = 15 := by decide
  have e2 : ((2:Int)^4) = 16 := by decide
  rw [e, e2] at h1
  rw [h1]; omega
def cssL (n : Nat) : List UInt8 := [92, 48, 48, 48, 48, hexUp.getD (n / 16) 0, hexUp.getD (n % 16) 0]
theorem cssL_eq (c : UInt8) (h : c.toNat < 128) : cssL c.toNat = 92 :: hexL hexUp 6 c.toNat := by
  have h1 : ∀ n : Fin 128, cssL n.val = 92 :: hexL hexUp 6 n.val := by decide +kernel
  exact h1 ⟨c.toNat, h⟩
theorem upAt16 (n : Nat) (h : n < 16) (hb : n < (ByteArray.mk #[48, 49, 50, 51, 52, 53, 54, 55, 56, 57, 65, 66, 67, 68, 69, 70]).size) : (ByteArray.mk #[48, 49, 50, 51, 52, 53, 54, 55, 56, 57, 65, 66, 67, 68, 69, 70])[n]'hb = hexUp.getD n 0 := by
  have : ∀ n : Fin 16, ∃ hb : n.val < (ByteArray.mk #[48, 49, 50, 51, 52, 53, 54, 55, 56, 57, 65, 66, 67, 68, 69, 70]).size, (ByteArray.mk #[48, 49, 50, 51, 52, 53, 54, 55, 56, 57, 65, 66, 67, 68, 69, 70])[n.val] = hexUp.getD n.val 0 := by decide
  exact (this ⟨n, h⟩).2
theorem one_cell (w : World) (x d : UInt8) (h : x = d) (j : Nat) (hj : j < [d].length) : (w.alloc (Obj.cells #[.int .u8 (x.toNat : Int)] 5)).cell? ⟨w.heap.size, j, none⟩ = some (byteV [d][j]) := by
  subst h
  have hj1 : j < 1 := hj
  obtain rfl : j = 0 := by omega
  rw [World.cell?_alloc_new]; rfl
section
variable {w : World} {ops : Array Oper} {rest : List Oper} {o : Oper} {a : Act} {Q : Exit → Act → World → Prop}
/-- The first append onto a full row that is no buffer. -/
theorem buf_first (hgd : o.guard = none) (sl x : Operand) (ho : o.op = .call { callee := .builtin .append, args := #[sl, x], argTypes := #[47, 47] })
    (b n : Nat) (l : List UInt8) (hs : a.eval sl = .slice (some ⟨b, 0, none⟩) n n) (hln : l.length = n) (hlc : ∀ j (hj : j < l.length), w.cell? ⟨b, j, none⟩ = some (byteV l[j]))
    (g k c : Nat) (hx : a.eval x = .slice (some ⟨g, 0, none⟩) k c) (m : List UInt8) (hn : m.length = k) (hk : 0 < k)
    (hm : ∀ j (hj : j < m.length), w.cell? ⟨g, j, none⟩ = some (byteV m[j])) (hl : n + k ≤ 140737488355328)
    (h : ∀ v' w', Buf w' w.heap.size v' (l ++ m) → w.grownBy w' none → wpList Try.prog ops Q rest (a.put o.dst v') w') : wpList Try.prog ops Q (o :: rest) a w := by
  obtain ⟨i0, hi, hz0, hz1, hz2⟩ := info_parts info5
  have hadd : ∀ j, (⟨g, 0, none⟩ : Addr).add j = ⟨g, j, none⟩ := fun j => by unfold Addr.add; split <;> simp_all
  refine wpList_append_arg w hgd sl x 47 ho 5 i0 (.int .u8 0) 1 1 Try.underlying47 hi hz0 hz1 hz2 rfl (by omega) b 0 n n (l.map byteV) hs (by simp [hln]) ?_ ⟨g, 0, none⟩ k c (m.map byteV) hx (by simp [hn]) ?_ ?_ (fun h => absurd h (by omega)) (by unfold maxLen; omega) (by omega) (fun h => absurd h (by omega)) ?_
  · intro j u hu
    rw [Nat.zero_add]
    rw [List.getElem?_map] at hu
    by_cases hj : j < l.length
    · rw [List.getElem?_eq_getElem hj] at hu
      rw [hlc j hj]; exact hu
    · rw [List.getElem?_eq_none (by omega)] at hu; simp at hu
  · intro j u hu
    rw [hadd]
    rw [List.getElem?_map] at hu
    by_cases hj : j < m.length
    · rw [List.getElem?_eq_getElem hj] at hu
      rw [hm j hj]; exact hu
    · rw [List.getElem?_eq_none (by omega)] at hu; simp at hu
  · intro u hu
    rw [List.mem_map] at hu
    obtain ⟨c, _, rfl⟩ := hu
    rfl
  · intro _ v' w' hown hg
    refine h v' w' ?_ hg
    have e1 : n + k = (l ++ m).length := by simp [hn, hln]
    rw [e1, ← List.map_append] at hown
    exact hown
end

def CssAt (w : World) (B : Nat) (v : Value) (n m : Nat) : Prop :=
  (m = 6 ∧ v = .slice (some ⟨B, 0, none⟩) 1 1 ∧ w.cell? ⟨B, 0, none⟩ = some (byteV 92) ∧ B < w.heap.size) ∨ (m < 6 ∧ Buf w B v ((cssL n).take (7 - m)))

set_option maxHeartbeats 16000000 in
set_option maxRecDepth 100000 in
theorem zzCSS_calls (n : Nat) (hn : n < 128) (w : World) :
    Calls Try.prog 157 #[.int .i32 n] w fun e w' => e = .returned (.string ⟨(cssL n).toArray⟩) ∧ Below w.heap.size w w' := by
  have hcv := Lib.run_convert_bytes_const (P := Try.prog) w 47 5 #[.int .u8 92] 1 1 Try.underlying47 Try.underlying5
  have hq1 : (n:Int) / 1048576 = 0 := by omega
  have hq2 : (n:Int) / 65536 = 0 := by omega
  have hq3 : (n:Int) / 4096 = 0 := by omega
  have hq4 : (n:Int) / 256 = 0 := by omega
  have hz15 : bits .and .i32 0 15 = 0 := by decide
  have hq5 : bits .and .i32 ((n:Int) / 16) 15 = ((n / 16 : Nat) : Int) := by
    have h1 := and15r (n / 16) (by omega)
    rw [show n / 16 % 16 = n / 16 by omega] at h1
    simpa using h1
  have hq6 := and15r n (by omega)
  go_enter Try.func157, Try.ntmps157
  go_wp2_with fail
  have hc0 : (w.alloc (Obj.cells #[Value.int IntKind.u8 92] 5 (1, 2))).cell? ⟨w.heap.size, 0, none⟩ = some (byteV 92) := World.cell?_alloc_mark w _ _ _ 0
  go_loopg [3, 4] 6 (fun m v i wr => m ≤ 6 ∧ i = .int .i64 (4 * (m : Int) - 4) ∧ Hid (CssAt wr w.heap.size v n m) ∧ Hid (Below w.heap.size w wr))
  case atStart => exact ⟨Nat.le_refl _, rfl, .inl ⟨rfl, rfl, hc0, by simp⟩, Below.own w _⟩
  case round =>
    obtain ⟨hm6, rfl, hat, hB⟩ := hrel
    clear hc0 hcv
    rcases (show gk = 0 ∨ gk = 1 ∨ gk = 2 ∨ gk = 3 ∨ gk = 4 ∨ gk = 5 ∨ gk = 6 by omega) with rfl | rfl | rfl | rfl | rfl | rfl | rfl
    · have hb : Buf wr w.heap.size u3 (cssL n) := by
        rcases hat.out with ⟨h, _⟩ | ⟨_, h⟩
        · omega
        · exact h
      have hcv := buf_string hb
      have HB1 := Lib.hid hb
      clear hb
      go_wp2_with fail
      go_ret
      exact ⟨rfl, hB.out⟩
    · have hb : Hid (Buf wr w.heap.size u3 ((cssL n).take 6)) := by
        rcases hat.out with ⟨h, _⟩ | ⟨_, h⟩
        · omega
        · exact h
      have hsz := Lib.hid hB.out.size
      have hl : ((cssL n).take 6).length + 1 ≤ 140737488355328 := by simp [cssL]
      have hszA : ∀ o : Obj, w.heap.size ≤ (wr.alloc o).heap.size := fun o => Nat.le_trans hsz.out (Below.own wr o).size
      go_wp2_with (at_builtin; refine buf_append_byte rfl _ _ rfl w.heap.size _ _ rfl (hb.out.alloc _) _ _ _ rfl [hexUp.getD (n % 16) 0] rfl (one_cell wr _ _ (upAt16 _ (by omega) _)) hl (hszA _) ?_; intro v' w' hb' hg' hbel')
      have HB' := Lib.hid hb'
      have HBl := Lib.hid ((hB.out.alloc hsz.out _).trans hbel')
      clear hb' hg' hbel'
      go_roundg 0
      case measure => omega
      case rel => exact ⟨by omega, by simp, .inr ⟨by omega, HB'.out⟩, HBl⟩
    · have hb : Hid (Buf wr w.heap.size u3 ((cssL n).take 5)) := by
        rcases hat.out with ⟨h, _⟩ | ⟨_, h⟩
        · omega
        · exact h
      have hsz := Lib.hid hB.out.size
      have hl : ((cssL n).take 5).length + 1 ≤ 140737488355328 := by simp [cssL]
      have hszA : ∀ o : Obj, w.heap.size ≤ (wr.alloc o).heap.size := fun o => Nat.le_trans hsz.out (Below.own wr o).size
      go_wp2_with (at_builtin; refine buf_append_byte rfl _ _ rfl w.heap.size _ _ rfl (hb.out.alloc _) _ _ _ rfl [hexUp.getD (n / 16) 0] rfl (one_cell wr _ _ (upAt16 _ (by omega) _)) hl (hszA _) ?_; intro v' w' hb' hg' hbel')
      have HB' := Lib.hid hb'
      have HBl := Lib.hid ((hB.out.alloc hsz.out _).trans hbel')
      clear hb' hg' hbel'
      go_roundg 1
      case measure => omega
      case rel => exact ⟨by omega, by simp, .inr ⟨by omega, HB'.out⟩, HBl⟩
    · have hb : Hid (Buf wr w.heap.size u3 ((cssL n).take 4)) := by
        rcases hat.out with ⟨h, _⟩ | ⟨_, h⟩
        · omega
        · exact h
      have hsz := Lib.hid hB.out.size
      have hl : ((cssL n).take 4).length + 1 ≤ 140737488355328 := by simp [cssL]
      have hszA : ∀ o : Obj, w.heap.size ≤ (wr.alloc o).heap.size := fun o => Nat.le_trans hsz.out (Below.own wr o).size
      go_wp2_with (at_builtin; refine buf_append_byte rfl _ _ rfl w.heap.size _ _ rfl (hb.out.alloc _) _ _ _ rfl [48] rfl (one_cell wr _ _ rfl) hl (hszA _) ?_; intro v' w' hb' hg' hbel')
      have HB' := Lib.hid hb'
      have HBl := Lib.hid ((hB.out.alloc hsz.out _).trans hbel')
      clear hb' hg' hbel'
      go_roundg 2
      case measure => omega
      case rel => exact ⟨by omega, by simp, .inr ⟨by omega, HB'.out⟩, HBl⟩
    · have hb : Hid (Buf wr w.heap.size u3 ((cssL n).take 3)) := by
        rcases hat.out with ⟨h, _⟩ | ⟨_, h⟩
        · omega
        · exact h
      have hsz := Lib.hid hB.out.size
      have hl : ((cssL n).take 3).length + 1 ≤ 140737488355328 := by simp [cssL]
      have hszA : ∀ o : Obj, w.heap.size ≤ (wr.alloc o).heap.size := fun o => Nat.le_trans hsz.out (Below.own wr o).size
      go_wp2_with (at_builtin; refine buf_append_byte rfl _ _ rfl w.heap.size _ _ rfl (hb.out.alloc _) _ _ _ rfl [48] rfl (one_cell wr _ _ rfl) hl (hszA _) ?_; intro v' w' hb' hg' hbel')
      have HB' := Lib.hid hb'
      have HBl := Lib.hid ((hB.out.alloc hsz.out _).trans hbel')
      clear hb' hg' hbel'
      go_roundg 3
      case measure => omega
      case rel => exact ⟨by omega, by simp, .inr ⟨by omega, HB'.out⟩, HBl⟩
    · have hb : Hid (Buf wr w.heap.size u3 ((cssL n).take 2)) := by
        rcases hat.out with ⟨h, _⟩ | ⟨_, h⟩
        · omega
        · exact h
      have hsz := Lib.hid hB.out.size
      have hl : ((cssL n).take 2).length + 1 ≤ 140737488355328 := by simp [cssL]
      have hszA : ∀ o : Obj, w.heap.size ≤ (wr.alloc o).heap.size := fun o => Nat.le_trans hsz.out (Below.own wr o).size
      go_wp2_with (at_builtin; refine buf_append_byte rfl _ _ rfl w.heap.size _ _ rfl (hb.out.alloc _) _ _ _ rfl [48] rfl (one_cell wr _ _ rfl) hl (hszA _) ?_; intro v' w' hb' hg' hbel')
      have HB' := Lib.hid hb'
      have HBl := Lib.hid ((hB.out.alloc hsz.out _).trans hbel')
      clear hb' hg' hbel'
      go_roundg 4
      case measure => omega
      case rel => exact ⟨by omega, by simp, .inr ⟨by omega, HB'.out⟩, HBl⟩
    · obtain ⟨rfl, hc, hlt⟩ : u3 = Value.slice (some ⟨w.heap.size, 0, none⟩) 1 1 ∧ wr.cell? ⟨w.heap.size, 0, none⟩ = some (byteV 92) ∧ w.heap.size < wr.heap.size := by
        rcases hat.out with ⟨_, h1, h2, h3⟩ | ⟨h, _⟩
        · exact ⟨h1, h2, h3⟩
        · omega
      have hca : Hid (∀ (o : Obj) (j : Nat) (hj : j < [(92 : UInt8)].length), (wr.alloc o).cell? ⟨w.heap.size, j, none⟩ = some (byteV [(92 : UInt8)][j])) := fun o j hj => by
        have hj1 : j < 1 := hj
        obtain rfl : j = 0 := by omega
        rw [World.cell?_alloc_lt _ _ _ hlt]; exact hc
      have hsz := Lib.hid hB.out.size
      clear hc
      go_wp2_with (at_builtin; refine buf_first rfl _ _ rfl w.heap.size 1 [92] rfl rfl (hca.out _) _ _ _ rfl [48] rfl (by omega) (one_cell wr _ _ rfl) (by omega) ?_; intro v' w' hb' hg')
      have HB' := Lib.hid (hb'.lower (B' := w.heap.size) (Nat.le_trans hsz.out (Below.own wr _).size))
      have HBl := Lib.hid ((hB.out.alloc hsz.out _).grown hg' (Nat.le_trans hsz.out (Below.own wr _).size) (fun k hk => by simp at hk))
      clear hb' hg'
      go_roundg 5
      case measure => omega
      case rel => exact ⟨by omega, by simp, .inr ⟨by omega, HB'.out⟩, HBl⟩
end Go.Proofs.Ytmgkolcpomaceaa
