/-
  The law FnExactPlace holds for every input: of a line of a file the first place is told, in programs whose functions have one file each; another file, and a line that none has, are told as such. No condition.
-/
import Derived.Test.YtoedlabfiialfaaGreatLwPc
import Derived.Test.YtoedlabfiialfaaGreatPost
namespace Go.Proofs.YtoedlabfiialfaaGreat
open Go.ChangeShapes Go.WideShapes Go.ChangeAt Go.RowKit Go.Joins

set_option maxRecDepth 100000 in
theorem exactPlace_lifted (os : Os) (started : os.Started) (H : Type) (enc : TypeId × Value → H) :
    ReturnsInHanded {} Tryz.checked os 5 .any (Rows.fnExactPlaceSpec.pre6 enc Tryz.prog Tryz.f5 Rows.fnExactPlaceRow.domain false) (Rows.fnExactPlaceSpec.post enc Tryz.prog Tryz.f5 false true false false) := by
  refine returnsInHanded_of_change (C := Tryz.checked) own started (by kernel_rfl) Tryz.func5
    (ChangeSpec.witness6 (enc := enc) (C := Tryz.checked) false ⟨#[], #[.agg #[.int .u64 0, .slice none 0 0, .slice none 0 0, .bool false, .bool false, .int .i64 0], .string ⟨#[]⟩, .int .i64 0], []⟩ 8 (by kernel_rfl) (by kernel_rfl) (by kernel_rfl) (by kernel_rfl)) ?_
  intro W base args ds gs before hval0 hW hcnd0 _
  have hval : ∀ (j : Nat) t v, Tryz.f5.params[j]? = some t → args[j]? = some v → Value.okWide Tryz.prog W .any base t v := hval0
  have hW' := hW
  obtain ⟨p, q, hA0, hV, rfl, hfz, hnd⟩ := hW
  have hA : DataW.TrodAll enc Tryz.prog W 0 (fun _ => true) true Tryz.f5.params.toList args.toList ds p := hA0
  rw [Tryz.params5] at hA hval
  obtain ⟨v0, v1, v2, d0, d1, d2, p0, p1, p2, rfl, rfl, rfl, h0, h1, h2⟩ := trodAll_three hA
  obtain ⟨rfl, rfl⟩ := trodVars_none hV
  have hlt : ∀ x ∈ p0, x.block < W.heap.size := fun x hx => hW'.lt x (by simp [hx])
  have hstay := pg_stays h0 hlt
  obtain ⟨FA, SA, fc, sc, pg, rfl, hpg⟩ := pg_of (hval 0 _ v0 rfl rfl) h0
  obtain ⟨nm, rfl, rfl, rfl, hn⟩ := Go.ChangeMaps.open_string Tryz.underlying9 (hval 1 _ v1 rfl rfl) h1
  obtain ⟨n, rfl, rfl, rfl, hn2⟩ := open_int Tryz.underlying3 (hval 2 _ v2 rfl rfl) h2
  clear hA0 hval0
  simp only [List.append_nil] at hW'
  rw [Lit.wf_int_iff] at hn2
  simp [IntKind.min, IntKind.max, IntKind.signed, IntKind.bits] at hn2
  have hc := exactPlace_any FA SA fc sc pg nm n W.heap.size W hpg (by omega)
  refine hc.mono fun e W' ⟨he, hb⟩ => ?_
  subst he
  have hwf : (Lit.int .i64 n).wf = true := WalkArith.wf_i64 (by omega)
  exact ⟨_, rfl, post_of_below (pa := p0 ++ ([] ++ [])) (pv := []) hW' (fun _ _ _ => trodAll_mk1 (shut_bool Tryz.underlying4 _)) (fun sp hsp => trodAll_mk3 (hstay W' hb sp (fun x hx => hsp x (by simp [hx]))) (Go.ChangeMaps.shut_string Tryz.underlying9 hn) (shut_int Tryz.underlying3 hwf)) (fun _ _ => rfl) (by simp) hb
    (ok_one (by kernel_rfl) rfl (okWide_bool_mk Tryz.underlying4 _))⟩

theorem exactPlace_holds : Rows.FnExactPlaceSaid :=
  OpenClaim.holds_of_wide 5 Tryz.f5 rfl rfl rfl rfl rfl rfl rfl ⟨rfl, rfl, rfl, rfl, rfl⟩ rfl rfl rfl rfl rfl (by kernel_rfl) Tryz.func5 (by kernel_rfl)
    (of_decide_eq_true (by kernel_rfl)) (by unfold Func.isWrapper; first | (rw [if_pos (by decide +kernel)]; kernel_rfl) | (rw [if_neg (by decide +kernel)]; exact ⟨rfl, rfl⟩))
    (fun os started H enc _ => exactPlace_lifted os started H enc)
end Go.Proofs.YtoedlabfiialfaaGreat
