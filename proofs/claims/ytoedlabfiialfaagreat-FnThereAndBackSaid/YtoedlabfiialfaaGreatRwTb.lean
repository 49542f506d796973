/-
  The law FnThereAndBack holds for every input: the line of a place is found again, at that place or ahead of it, and the place that is found has this line and this file. No condition.
-/
import Derived.Test.YtoedlabfiialfaaGreatLwTb
import Derived.Test.YtoedlabfiialfaaGreatPost
namespace Go.Proofs.YtoedlabfiialfaaGreat
open Go.ChangeShapes Go.WideShapes Go.ChangeAt Go.RowKit Go.Joins

set_option maxRecDepth 100000 in
theorem thereAndBack_lifted (os : Os) (started : os.Started) (H : Type) (enc : TypeId × Value → H) :
    ReturnsInHanded {} Tryz.checked os 7 .any (Rows.fnThereAndBackSpec.pre6 enc Tryz.prog Tryz.f7 Rows.fnThereAndBackRow.domain false) (Rows.fnThereAndBackSpec.post enc Tryz.prog Tryz.f7 false true false false) := by
  refine returnsInHanded_of_change (C := Tryz.checked) own started (by kernel_rfl) Tryz.func7
    (ChangeSpec.witness6 (enc := enc) (C := Tryz.checked) false ⟨#[], #[.agg #[.int .u64 0, .slice none 0 0, .slice none 0 0, .bool false, .bool false, .int .i64 0], .int .u64 0], []⟩ 8 (by kernel_rfl) (by kernel_rfl) (by kernel_rfl) (by kernel_rfl)) ?_
  intro W base args ds gs before hval0 hW hcnd0 _
  have hval : ∀ (j : Nat) t v, Tryz.f7.params[j]? = some t → args[j]? = some v → Value.okWide Tryz.prog W .any base t v := hval0
  have hW' := hW
  obtain ⟨p, q, hA0, hV, rfl, hfz, hnd⟩ := hW
  have hA : DataW.TrodAll enc Tryz.prog W 0 (fun _ => true) true Tryz.f7.params.toList args.toList ds p := hA0
  rw [Tryz.params7] at hA hval
  obtain ⟨v0, v1, d0, d1, p0, p1, rfl, rfl, rfl, h0, h1⟩ := trodAll_two hA
  obtain ⟨rfl, rfl⟩ := trodVars_none hV
  have hlt : ∀ x ∈ p0, x.block < W.heap.size := fun x hx => hW'.lt x (by simp [hx])
  have hstay := pg_stays h0 hlt
  obtain ⟨FA, SA, fc, sc, pg, rfl, hpg⟩ := pg_of (hval 0 _ v0 rfl rfl) h0
  obtain ⟨n, rfl, rfl, rfl, hn⟩ := open_int Tryz.underlying22 (hval 1 _ v1 rfl rfl) h1
  clear hA0 hval0
  simp only [List.append_nil] at hW'
  rw [Lit.wf_int_iff] at hn
  simp [IntKind.min, IntKind.max, IntKind.signed, IntKind.bits] at hn
  have hc := thereAndBack_any FA SA fc sc pg n.toNat W.heap.size W hpg (by omega)
  rw [Int.toNat_of_nonneg hn.1] at hc
  refine hc.mono fun e W' ⟨he, hb⟩ => ?_
  subst he
  have hwf : (Lit.int .u64 n).wf = true := WalkArith.wf_u64 (by omega)
  exact ⟨_, rfl, post_of_below (pa := p0 ++ []) (pv := []) hW' (fun _ _ _ => trodAll_mk1 (shut_bool Tryz.underlying4 _)) (fun sp hsp => trodAll_mk2 (hstay W' hb sp (fun x hx => hsp x (by simp [hx]))) (shut_int Tryz.underlying22 hwf)) (fun _ _ => rfl) (by simp) hb
    (ok_one (by kernel_rfl) rfl (okWide_bool_mk Tryz.underlying4 _))⟩

theorem thereAndBack_holds : Rows.FnThereAndBackSaid :=
  OpenClaim.holds_of_wide 7 Tryz.f7 rfl rfl rfl rfl rfl rfl rfl ⟨rfl, rfl, rfl, rfl, rfl⟩ rfl rfl rfl rfl rfl (by kernel_rfl) Tryz.func7 (by kernel_rfl)
    (of_decide_eq_true (by kernel_rfl)) (by unfold Func.isWrapper; first | (rw [if_pos (by decide +kernel)]; kernel_rfl) | (rw [if_neg (by decide +kernel)]; exact ⟨rfl, rfl⟩))
    (fun os started H enc _ => thereAndBack_lifted os started H enc)
end Go.Proofs.YtoedlabfiialfaaGreat
