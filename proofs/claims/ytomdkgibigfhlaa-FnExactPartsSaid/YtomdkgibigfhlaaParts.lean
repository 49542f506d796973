/-
  The law FnExactParts holds for every input: of a name that is well the package, the receiver and the own name are told. No condition.
-/
import Derived.Test.YtomdkgibigfhlaaExact
import Derived.Lib.SmallJoins
import Derived.SliceStrings
import Derived.ProofKit
import Derived.OpenShut
import Derived.ChangeSame
namespace Go.Proofs.Ytomdkgibigfhlaa
open Go.ChangeShapes Go.WideShapes Go.ChangeAt Go.RowKit
open Go.ChangeMaps (open_string shut_string)

section
variable {H : Type} {enc : TypeId × Value → H} {P : Program}
/-- the last step of a row whose call has left all that was there as it was -/
theorem post_of_below2 {f : Func} {s : ChangeSpec} {apart fresh handsOn again : Bool} {W W' : World} {args : Array Value} {v : Value} {ds gs : List (DataW H)} {before pa pv : List MemPlace}
    (hW : DataW.Whole enc P f.params.toList s.vars apart W args.toList ds gs before)
    (hres : ∀ (b : Nat) (sp : Nat → Bool) (hd : Bool), DataW.TrodAll enc P W' b sp hd f.resultTypes.toList (v.resultList f.resultTypes.size) (s.fn H (ds ++ gs)).results [])
    (hargs : ∀ sp : Nat → Bool, (∀ p ∈ before, sp p.block = true) → DataW.TrodAll enc P W' 0 sp true f.params.toList args.toList (s.fn H (ds ++ gs)).args pa)
    (hvars : ∀ sp : Nat → Bool, (∀ p ∈ before, sp p.block = true) → DataW.TrodVars enc P W' sp s.vars (s.fn H (ds ++ gs)).vars pv)
    (hps : before = pa ++ pv) (hb : Below W.heap.size W W')
    (hok : ∀ (j : Nat) (t : TypeId) (r : Value), f.resultTypes[j]? = some t → (v.resultList f.resultTypes.size)[j]? = some r → Value.okWide P W' .any 0 t r) :
    s.post enc P f apart fresh handsOn again W args v W' := by
  have hlt : ∀ p ∈ before, p.block < W.heap.size := fun p hp => hW.lt p hp
  have hold : ∀ p ∈ before, (fun b => decide (b < W.heap.size)) p.block = true := fun p hp => by simpa using hlt p hp
  refine ⟨ds, gs, before, [], pa, pv, hW, hres _ _ _, hargs _ hold, hvars _ hold, World.keptBut_mono (fun p hp => ⟨hp, ?_⟩) (hb.frame (· ∈ before)), fun _ => ?_⟩
  · rw [hps, List.mem_append] at hp
    exact Or.inr hp
  · obtain ⟨_, _, _, _, _, hz, hn⟩ := hW
    refine ⟨hok, _, _, ([] ++ pa) ++ pv, ⟨[] ++ pa, pv, trodAll_append (hargs _ (fun _ _ => rfl)) (hres _ _ _), hvars _ (fun _ _ => rfl), rfl, ?_, ?_⟩, ?_⟩
    · intro b off hp
      have hin : MemPlace.cell b off ∈ before := by rw [hps]; simpa using hp
      rw [hb.frozen (hlt _ hin)]
      exact hz b off hin
    · intro ha
      have := hn ha
      rw [hps] at this
      simpa using this
    · intro p hp _
      rw [hps]
      simpa using hp
end


open Go.Joins
theorem own2 : ownKnob Try.prog.godebug = none := by kernel_rfl
theorem laidOut : laidOutB Try.prog = true := by kernel_rfl
theorem cells24 : Try.prog.cellsOf 24 = 4 := by kernel_rfl
theorem cells9 : Try.prog.cellsOf 9 = 1 := by kernel_rfl

section
variable {H : Type} {enc : TypeId × Value → H} {W : World}
theorem spot_none {w : World} {a : Addr} {v : Value} (h : w.cell? a = some v) : a.spot = none := by
  unfold World.cell? at h
  split at h
  · split at h
    · cases h
    · rename_i hs; simpa using hs
  · cases h

theorem strSl_of (fuel : Nat) (v0 : Value) (y : DataW H × List MemPlace) (h : DataW.trod enc Try.prog W 0 (fun _ => true) true fuel 22 [v0] = some y) :
    ∃ A c l, v0 = .slice A l.length c ∧ l.length ≤ maxLen ∧ (∀ k (h : k < l.length), l[k].size ≤ maxLen) ∧ StrSl W W.heap.size A l := by
  rcases open_strings Try.underlying22 Try.underlying9 cells9 h with ⟨hcs, _⟩ | ⟨a, len, cap, ss, hcs, _, hl, hm, hz, _, hcell, hws⟩
  · refine ⟨none, 0, [], by simpa using hcs, by simp, fun k h => absurd h (by simp), fun k h => absurd h (by simp)⟩
  · have hlen : (ss.take len).length = len := by
      rw [List.length_take, hz, if_pos rfl]
      exact Nat.min_eq_left hl
    have hz' : ss.length = cap := by rw [hz, if_pos rfl]
    refine ⟨some a, cap, ss.take len, by rw [hlen]; simpa using hcs, by omega, fun k hk => ?_, fun k hk => ?_⟩
    · rw [List.getElem_take]
      exact hws _ (List.getElem_mem _)
    · have h0 := hcell 0 (by omega)
      have hs := spot_none h0
      have ha : a.add 0 = a := rfl
      rw [ha] at hs
      have hk' := hcell k (by omega)
      have hak : a.add k = ⟨a.block, a.off + k, none⟩ := by
        obtain ⟨b, o, s⟩ := a
        obtain rfl : s = none := hs
        exact Addr.add_lit _ _ _
      refine ⟨a.block, a.off, by obtain ⟨b, o, s⟩ := a; obtain rfl : s = none := hs; rfl, ?_, ?_⟩
      · have := World.block_lt_of_cell? W _ hk'
        rw [hak] at this
        exact this
      · rw [← hak, hk']
        rw [List.getElem_take, List.getD, List.getElem?_eq_getElem (by omega)]
        rfl
end

set_option maxRecDepth 100000 in
theorem exact_lifted (os : Os) (started : os.Started) (H : Type) (enc : TypeId × Value → H) :
    ReturnsInHanded {} Try.checked os 3 .any (Rows.fnExactPartsSpec.pre6 enc Try.prog Try.f3 Rows.fnExactPartsRow.domain false) (Rows.fnExactPartsSpec.post enc Try.prog Try.f3 false true false false) := by
  refine returnsInHanded_of_change (C := Try.checked) own2 started (by kernel_rfl) Try.func3
    (ChangeSpec.witness6 (enc := enc) (C := Try.checked) false ⟨#[], #[.agg #[.slice none 0 0, .string ⟨#[]⟩, .bool false, .string ⟨#[]⟩]], []⟩ 8 (by kernel_rfl) (by kernel_rfl) (by kernel_rfl) (by kernel_rfl)) ?_
  intro W base args ds gs before hval0 hW hcnd0 _
  have hval : ∀ (j : Nat) t v, Try.f3.params[j]? = some t → args[j]? = some v → Value.okWide Try.prog W .any base t v := hval0
  have hW' := hW
  obtain ⟨p, q, hA0, hV, rfl, hfz, hnd⟩ := hW
  have hA : DataW.TrodAll enc Try.prog W 0 (fun _ => true) true Try.f3.params.toList args.toList ds p := hA0
  rw [Try.params3] at hA hval
  obtain ⟨v0, d0, rfl, rfl, h0⟩ := trodAll_one hA
  obtain ⟨rfl, rfl⟩ := trodVars_none hV
  have hlt : ∀ x ∈ p, x.block < W.heap.size := fun x hx => hW'.lt x (by simpa using hx)
  have hstay : ∀ (W' : World), Below W.heap.size W W' → ∀ sp : Nat → Bool, (∀ x ∈ p, sp x.block = true) → DataW.Trod enc Try.prog W' 0 sp true 24 v0 d0 p := fun W' hb sp hsp =>
    WideElems.Trod_stays laidOut (by kernel_rfl) (of_decide_eq_true (by kernel_rfl)) h0 (fun x hx => hb.same (hlt x hx)) hsp
  obtain ⟨w0, w1, w2, w3, y0, y1, y2, y3, n, rfl, _, _, t0, t1, t2, t3⟩ := open_agg4 Try.underlying24 (by kernel_rfl) cells24 (hval 0 24 v0 rfl rfl) h0
  obtain ⟨A, c, l, rfl, hl, hls, hsl⟩ := strSl_of _ _ _ t0
  obtain ⟨T, e1, _, hT⟩ := DataW.trod_string Try.underlying9 t1
  obtain ⟨pt, e2, _⟩ := DataW.trod_bool Try.underlying4 t2
  obtain ⟨Bs, e3, _, hBs⟩ := DataW.trod_string Try.underlying9 t3
  simp at e1 e2 e3
  subst e1 e2 e3
  clear hA0 hval0
  simp only [List.append_nil] at hW'
  refine (exactParts_any A c l T Bs pt W.heap.size W ⟨hl, hls, hT, hBs, hsl, Nat.le_refl _⟩).mono fun e W' ⟨he, hb⟩ => ?_
  subst he
  exact ⟨_, rfl, post_of_below2 (pa := p) (pv := []) hW' (fun _ _ _ => trodAll_mk1 (shut_bool Try.underlying4 _)) (fun sp hsp => trodAll_mk1 (hstay W' hb sp (fun x hx => hsp x hx))) (fun _ _ => rfl) (by simp) hb
    (ok_one (by kernel_rfl) rfl (okWide_bool_mk Try.underlying4 _))⟩

theorem exactParts_holds : Rows.FnExactPartsSaid :=
  OpenClaim.holds_of_wide 3 Try.f3 rfl rfl rfl rfl rfl rfl rfl ⟨rfl, rfl, rfl, rfl, rfl⟩ rfl rfl rfl rfl rfl (by kernel_rfl) Try.func3 (by kernel_rfl)
    (of_decide_eq_true (by kernel_rfl)) (by unfold Func.isWrapper; first | (rw [if_pos (by decide +kernel)]; kernel_rfl) | (rw [if_neg (by decide +kernel)]; exact ⟨rfl, rfl⟩))
    (fun os started H enc _ => exact_lifted os started H enc)
end Go.Proofs.Ytomdkgibigfhlaa
