/-
  The law FnExactFind holds for every input: by its name the first function of the program that has it is found. No condition.
-/
import Derived.Test.YtoedlabfiialfaaLwFi
import Derived.Test.YtoedlabfiialfaaPost
namespace Go.Proofs.Ytoedlabfiialfaa
open Go.ChangeShapes Go.WideShapes Go.ChangeAt Go.RowKit Go.Joins

set_option maxRecDepth 100000 in
theorem exactFind_lifted (os : Os) (started : os.Started) (H : Type) (enc : TypeId × Value → H) :
    ReturnsInHanded {} Try.checked os 4 .any (Rows.fnExactFindSpec.pre6 enc Try.prog Try.f4 Rows.fnExactFindRow.domain false) (Rows.fnExactFindSpec.post enc Try.prog Try.f4 false true false false) := by
  refine returnsInHanded_of_change (C := Try.checked) own started (by kernel_rfl) Try.func4
    (ChangeSpec.witness6 (enc := enc) (C := Try.checked) false ⟨#[], #[.agg #[.int .u64 0, .slice none 0 0, .slice none 0 0, .bool false, .bool false, .int .i64 0], .string ⟨#[]⟩], []⟩ 8 (by kernel_rfl) (by kernel_rfl) (by kernel_rfl) (by kernel_rfl)) ?_
  intro W base args ds gs before hval0 hW hcnd0 _
  have hval : ∀ (j : Nat) t v, Try.f4.params[j]? = some t → args[j]? = some v → Value.okWide Try.prog W .any base t v := hval0
  have hW' := hW
  obtain ⟨p, q, hA0, hV, rfl, hfz, hnd⟩ := hW
  have hA : DataW.TrodAll enc Try.prog W 0 (fun _ => true) true Try.f4.params.toList args.toList ds p := hA0
  rw [Try.params4] at hA hval
  obtain ⟨v0, v1, d0, d1, p0, p1, rfl, rfl, rfl, h0, h1⟩ := trodAll_two hA
  obtain ⟨rfl, rfl⟩ := trodVars_none hV
  have hlt : ∀ x ∈ p0, x.block < W.heap.size := fun x hx => hW'.lt x (by simp [hx])
  have hstay := pg_stays h0 hlt
  obtain ⟨FA, SA, fc, sc, pg, rfl, hpg⟩ := pg_of (hval 0 _ v0 rfl rfl) h0
  obtain ⟨nm, rfl, rfl, rfl, hn⟩ := Go.ChangeMaps.open_string Try.underlying9 (hval 1 _ v1 rfl rfl) h1
  clear hA0 hval0
  simp only [List.append_nil] at hW'
  have hc := exactFind_any FA SA fc sc pg nm W.heap.size W hpg hn
  refine hc.mono fun e W' ⟨he, hb⟩ => ?_
  subst he
  exact ⟨_, rfl, post_of_below (pa := p0 ++ []) (pv := []) hW' (fun _ _ _ => trodAll_mk1 (shut_bool Try.underlying4 _)) (fun sp hsp => trodAll_mk2 (hstay W' hb sp (fun x hx => hsp x (by simp [hx]))) (Go.ChangeMaps.shut_string Try.underlying9 hn)) (fun _ _ => rfl) (by simp) hb
    (ok_one (by kernel_rfl) rfl (okWide_bool_mk Try.underlying4 _))⟩

theorem exactFind_holds : Rows.FnExactFindSaid :=
  OpenClaim.holds_of_wide 4 Try.f4 rfl rfl rfl rfl rfl rfl rfl ⟨rfl, rfl, rfl, rfl, rfl⟩ rfl rfl rfl rfl rfl (by kernel_rfl) Try.func4 (by kernel_rfl)
    (of_decide_eq_true (by kernel_rfl)) (by unfold Func.isWrapper; first | (rw [if_pos (by decide +kernel)]; kernel_rfl) | (rw [if_neg (by decide +kernel)]; exact ⟨rfl, rfl⟩))
    (fun os started H enc _ => exactFind_lifted os started H enc)
end Go.Proofs.Ytoedlabfiialfaa
