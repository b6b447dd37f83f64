/- FnParams answers true for every text and every list of pairs; they read as they did. No condition. -/
import Derived.Test.YtlpkdagdfopchaaR0
import Derived.Test.YtlpkdagdfopchaaQ10
import Derived.Test.YtlpkdagdfopchaaR1
namespace Go.Proofs.Ytlpkdagdfopchaa
open Go.RowKit Go.ChangeShapes Go.WideShapes Go.ChangeAt Go.Deep
open Go.ChangeMaps (open_string shut_string)
set_option linter.unusedVariables false
set_option linter.unusedSimpArgs false

set_option maxRecDepth 100000 in
theorem fnParams_lifted (os : Os) (started : os.Started) (H : Type) (enc : TypeId × Value → H) :
    ReturnsInHanded {} Try.checked os 3 .any (Rows.fnParamsSpec.pre6 enc Try.prog Try.f3 Rows.fnParamsRow.domain false) (Rows.fnParamsSpec.post enc Try.prog Try.f3 false true false false) := by
  refine returnsInHanded_of_change (C := Try.checked) Try.own started (by kernel_rfl) Try.func3
    (ChangeSpec.witness6 (enc := enc) (C := Try.checked) false ⟨#[], #[.string ⟨#[]⟩, .slice none 0 0], []⟩ 8 (by kernel_rfl) (by kernel_rfl) (by kernel_rfl) (by kernel_rfl)) ?_
  intro W base args ds gs before hval0 hW hcnd _
  have hval : ∀ (j : Nat) t v, Try.f3.params[j]? = some t → args[j]? = some v → Value.okWide Try.prog W .any base t v := hval0
  have hW' := hW
  have hlt : ∀ p ∈ before, p.block < W.heap.size := fun p hp => hW.lt p hp
  obtain ⟨p, q, hA0, hV, rfl, hfz, hnd⟩ := hW
  have hA : DataW.TrodAll enc Try.prog W 0 (fun _ => true) true Try.f3.params.toList args.toList ds p := hA0
  rw [Try.params3] at hA hval
  obtain ⟨v0, v1, d0, d1, p0, p1, rfl, rfl, rfl, h0, h1⟩ := trodAll_two hA
  obtain ⟨rfl, rfl⟩ := trodVars_none hV
  obtain ⟨s0, rfl, rfl, rfl, hs0⟩ := open_string Try.underlying9 (hval 0 9 v0 rfl rfl) h0
  obtain ⟨A1, l1, cap1, rfl, hC1, hP1⟩ := pairsCap_open (hval 1 22 v1 rfl rfl) h1
  clear hA0 hval0
  simp only [List.append_nil, List.nil_append] at hW' hlt
  refine (fnParams_any s0 l1 A1 cap1 W hs0 hP1 hC1).mono fun e W' ⟨he, hb⟩ => ?_
  subst he
  exact ⟨_, rfl, post_of_below (pa := p1) (pv := []) hW' (fun _ _ _ => trodAll_mk1 (shut_bool Try.underlying4 _))
    (fun sp hs => by
      have := trodAll_mk2 (shut_string (w := W') (base := 0) (sp := sp) (held := true) (enc := enc) Try.underlying9 hs0) (stay (by kernel_rfl) (of_decide_eq_true (by kernel_rfl)) h1 hb hlt hs)
      rw [List.nil_append] at this
      exact this)
    (fun _ _ => rfl) (by simp) hb (ok_one (by kernel_rfl) rfl (okWide_bool_mk Try.underlying4 _))⟩

theorem fnParams_holds : Rows.FnParamsSaid :=
  OpenClaim.holds_of_wide 3 Try.f3 rfl rfl rfl rfl rfl rfl rfl ⟨rfl, rfl, rfl, rfl, rfl⟩ rfl rfl rfl rfl rfl (by kernel_rfl) Try.func3 (by kernel_rfl)
    (of_decide_eq_true (by kernel_rfl)) (by unfold Func.isWrapper; first | (rw [if_pos (by decide +kernel)]; kernel_rfl) | (rw [if_neg (by decide +kernel)]; exact ⟨rfl, rfl⟩))
    (fun os started H enc _ => fnParams_lifted os started H enc)
end Go.Proofs.Ytlpkdagdfopchaa
