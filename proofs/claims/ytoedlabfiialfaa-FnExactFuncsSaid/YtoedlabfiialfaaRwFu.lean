/-
  The law FnExactFuncs holds for every input: the thin package tells the functions as the reference does. No condition.
-/
import Derived.Test.YtoedlabfiialfaaLwFu
import Derived.Test.YtoedlabfiialfaaPost
namespace Go.Proofs.Ytoedlabfiialfaa
open Go.ChangeShapes Go.WideShapes Go.ChangeAt Go.RowKit Go.Joins

set_option maxRecDepth 100000 in
theorem exactFuncs_lifted (os : Os) (started : os.Started) (H : Type) (enc : TypeId × Value → H) :
    ReturnsInHanded {} Try.checked os 5 .any (Rows.fnExactFuncsSpec.pre6 enc Try.prog Try.f5 Rows.fnExactFuncsRow.domain false) (Rows.fnExactFuncsSpec.post enc Try.prog Try.f5 false true false false) := by
  refine returnsInHanded_of_change (C := Try.checked) own started (by kernel_rfl) Try.func5
    (ChangeSpec.witness6 (enc := enc) (C := Try.checked) false ⟨#[], #[.agg #[.int .u64 0, .slice none 0 0, .slice none 0 0, .bool false, .bool false, .int .i64 0]], []⟩ 8 (by kernel_rfl) (by kernel_rfl) (by kernel_rfl) (by kernel_rfl)) ?_
  intro W base args ds gs before hval0 hW hcnd0 _
  have hval : ∀ (j : Nat) t v, Try.f5.params[j]? = some t → args[j]? = some v → Value.okWide Try.prog W .any base t v := hval0
  have hW' := hW
  obtain ⟨p, q, hA0, hV, rfl, hfz, hnd⟩ := hW
  have hA : DataW.TrodAll enc Try.prog W 0 (fun _ => true) true Try.f5.params.toList args.toList ds p := hA0
  rw [Try.params5] at hA hval
  obtain ⟨v0, d0, rfl, rfl, h0⟩ := trodAll_one hA
  obtain ⟨rfl, rfl⟩ := trodVars_none hV
  have hlt : ∀ x ∈ p, x.block < W.heap.size := fun x hx => hW'.lt x (by simp [hx])
  have hstay := pg_stays h0 hlt
  obtain ⟨FA, SA, fc, sc, pg, rfl, hpg⟩ := pg_of (hval 0 _ v0 rfl rfl) h0
  clear hA0 hval0
  simp only [List.append_nil] at hW'
  have hc := exactFuncs_any FA SA fc sc pg W.heap.size W hpg
  refine hc.mono fun e W' ⟨he, hb⟩ => ?_
  subst he
  exact ⟨_, rfl, post_of_below (pa := p) (pv := []) hW' (fun _ _ _ => trodAll_mk1 (shut_bool Try.underlying4 _)) (fun sp hsp => trodAll_mk1 (hstay W' hb sp (fun x hx => hsp x (by simp [hx])))) (fun _ _ => rfl) (by simp) hb
    (ok_one (by kernel_rfl) rfl (okWide_bool_mk Try.underlying4 _))⟩

theorem exactFuncs_holds : Rows.FnExactFuncsSaid :=
  OpenClaim.holds_of_wide 5 Try.f5 rfl rfl rfl rfl rfl rfl rfl ⟨rfl, rfl, rfl, rfl, rfl⟩ rfl rfl rfl rfl rfl (by kernel_rfl) Try.func5 (by kernel_rfl)
    (of_decide_eq_true (by kernel_rfl)) (by unfold Func.isWrapper; first | (rw [if_pos (by decide +kernel)]; kernel_rfl) | (rw [if_neg (by decide +kernel)]; exact ⟨rfl, rfl⟩))
    (fun os started H enc _ => exactFuncs_lifted os started H enc)
end Go.Proofs.Ytoedlabfiialfaa
