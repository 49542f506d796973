/-
  The plain law of places: the first place of a line of a file lies in the function that has it, and at it this line and this file are told again.
-/
import Derived.Test.YtoedlabfiialfaaGreatPlc
import Derived.Test.YtoedlabfiialfaaGreatUni
namespace Go.Proofs.YtoedlabfiialfaaGreat
open Go.RowKit

theorem quN_cons (r : Run) (l : List Run) : quN (r :: l) = r.q + quN l := by unfold quN; rw [List.map_cons, List.sum_cons]
theorem firstL_bnd (qm : Nat) (l : List Run) (line : Int) (pc : Nat) (h1 : ∀ r ∈ l, 1 ≤ r.q * qm) (h : firstL qm l line pc ≠ 0) :
    pc ≤ firstL qm l line pc ∧ firstL qm l line pc < pc + quN l * qm ∧ valN qm l (firstL qm l line pc - pc) = line := by
  induction l generalizing pc with
  | nil => exact absurd rfl h
  | cons r l ih =>
    have hr := h1 r (by simp)
    rw [quN_cons, Nat.add_mul]
    simp only [firstL, valN] at h ⊢
    by_cases hv : r.v = line
    · simp only [if_pos hv]
      refine ⟨Nat.le_refl _, by omega, ?_⟩
      rw [Nat.sub_self, if_pos (by omega), hv]
    · simp only [if_neg hv] at h ⊢
      obtain ⟨a, b, c⟩ := ih (pc + r.q * qm) (fun x hx => h1 x (by simp [hx])) h
      refine ⟨by omega, by omega, ?_⟩
      rw [if_neg (by omega), show firstL qm l line (pc + r.q * qm) - pc - r.q * qm = firstL qm l line (pc + r.q * qm) - (pc + r.q * qm) by omega]
      exact c
theorem firstL_of (qm : Nat) (l : List Run) (line : Int) (pc n : Nat) (hpc : pc ≠ 0) (hv : valN qm l n = line) (hn : n < quN l * qm) :
    firstL qm l line pc ≠ 0 ∧ firstL qm l line pc ≤ pc + n := by
  induction l generalizing pc n with
  | nil => simp [quN] at hn
  | cons r l ih =>
    rw [quN_cons, Nat.add_mul] at hn
    simp only [valN] at hv
    simp only [firstL]
    by_cases h : r.v = line
    · rw [if_pos h]
      exact ⟨hpc, by omega⟩
    · rw [if_neg h]
      by_cases h2 : n < r.q * qm
      · rw [if_pos h2] at hv
        exact absurd hv h
      · rw [if_neg h2] at hv
        obtain ⟨a, b⟩ := ih (pc + r.q * qm) (n - r.q * qm) (by omega) hv (by omega)
        exact ⟨a, by omega⟩
theorem val_behind (qm : Nat) (l : List Run) (n : Nat) (hn : quN l * qm ≤ n) : valN qm l n = -1 := by
  induction l generalizing n with
  | nil => rfl
  | cons r l ih =>
    rw [quN_cons, Nat.add_mul] at hn
    simp only [valN]
    rw [if_neg (by omega)]
    exact ih _ (by omega)
theorem val_in (qm : Nat) (l : List Run) (n : Nat) (hn : n < quN l * qm) : ∃ r ∈ l, valN qm l n = r.v := by
  induction l generalizing n with
  | nil => simp [quN] at hn
  | cons r l ih =>
    rw [quN_cons, Nat.add_mul] at hn
    simp only [valN]
    by_cases h : n < r.q * qm
    · rw [if_pos h]
      exact ⟨r, by simp, rfl⟩
    · rw [if_neg h]
      obtain ⟨x, hx, e⟩ := ih (n - r.q * qm) (by omega)
      exact ⟨x, by simp [hx], e⟩

theorem getD_funcs {p : Pg} (k : Nat) (hk : k < p.funcs.length) : p.funcs.getD k default = p.funcs[k] := by
  rw [List.getD_eq_getElem?_getD, List.getElem?_eq_getElem hk]; rfl
/-- the one file of a function -/
theorem one_get {p : Pg} (H : WellP p) (hone : ∀ k (hk : k < p.funcs.length), p.funcs[k].files.length = 1) (k : Nat) (hk : k < p.funcs.length) :
    ∃ rf, p.funcs[k].files = [rf] ∧ rf.q = quN p.funcs[k].lines ∧ 1 ≤ rf.v ∧ rf.v ≤ p.files.length ∧ fvN p k = rf.v := by
  obtain ⟨rf, hrf⟩ := List.length_eq_one_iff.1 (hone k hk)
  have hg := (H.funcs k hk).files
  have hsame : quN p.funcs[k].lines = rf.q := by
    have h1 := quantaTo_all (H.funcs k hk).lines
    have h2 := quantaTo_all hg
    have h3 := (H.funcs k hk).same
    rw [h1, h2, hrf] at h3
    have h4 : quN [rf] = rf.q := by simp [quN]
    omega
  rw [hrf] at hg
  have h0 := hg.each 0 (by simp)
  have h1 : 1 ≤ rf.v := h0.v1
  have h2 : rf.v ≤ p.files.length := h0.v2
  exact ⟨rf, hrf, hsame.symm, h1, h2, by unfold fvN; rw [getD_funcs k hk, hrf]; rfl⟩
theorem qm_pos {p : Pg} (H : WellP p) : 1 ≤ p.quantum.toNat := by rcases H.head.qm with h | h | h <;> omega
theorem runs_pos {l : List Run} {most : Int} (h : RunsGood l most) (qm : Nat) (hq : 1 ≤ qm) : ∀ r ∈ l, 1 ≤ r.q * qm := by
  intro r hr
  obtain ⟨k, hk, rfl⟩ := List.getElem_of_mem hr
  exact Nat.mul_pos (h.each k hk).q1 hq
theorem fsz_ge {p : Pg} (f : Fn) : quN f.lines * p.quantum.toNat ≤ fsz p f := by
  unfold fsz
  exact Nat.mul_le_mul_right _ (by omega)
theorem atL_bnd {p : Pg} (H : WellP p) (z line : Int) (k : Nat) (hk : k < p.funcs.length) (h : atL p z line k ≠ 0) :
    fvN p k = z ∧ bndN p k ≤ atL p z line k ∧ atL p z line k < bndN p (k + 1) ∧ atL p z line k - bndN p k < quN p.funcs[k].lines * p.quantum.toNat ∧ valN p.quantum.toNat p.funcs[k].lines (atL p z line k - bndN p k) = line := by
  unfold atL placeL at h ⊢
  rw [getD_funcs k hk] at h ⊢
  by_cases hv : fvN p k = z
  · rw [if_pos hv] at h ⊢
    obtain ⟨a, b, c⟩ := firstL_bnd p.quantum.toNat p.funcs[k].lines line (bndN p k) (runs_pos (H.funcs k hk).lines _ (qm_pos H)) h
    have := bndN_succ p k hk
    have := fsz_ge (p := p) p.funcs[k]
    exact ⟨hv, a, by omega, by omega, c⟩
  · rw [if_neg hv] at h
    exact absurd rfl h
theorem placeG_some {p : Pg} {z line : Int} (m k : Nat) (h : placeG p z line m k ≠ 0) :
    ∃ j, k ≤ j ∧ j < k + m ∧ placeG p z line m k = atL p z line j ∧ atL p z line j ≠ 0 ∧ ∀ i, k ≤ i → i < j → atL p z line i = 0 := by
  induction m generalizing k with
  | zero => exact absurd rfl h
  | succ m ih =>
    simp only [placeG] at h ⊢
    by_cases h0 : atL p z line k = 0
    · rw [if_pos h0] at h ⊢
      obtain ⟨j, a, b, c, d, e⟩ := ih (k + 1) h
      refine ⟨j, by omega, by omega, c, d, fun i hi hj => ?_⟩
      rcases Nat.lt_or_eq_of_le hi with h | rfl
      · exact e i h hj
      · exact h0
    · rw [if_neg h0] at h ⊢
      exact ⟨k, Nat.le_refl _, by omega, rfl, h0, fun i hi hj => by omega⟩
theorem placeG_of {p : Pg} {z line : Int} (m k j : Nat) (hk : k ≤ j) (hj : j < k + m) (h : atL p z line j ≠ 0) : placeG p z line m k ≠ 0 := by
  induction m generalizing k with
  | zero => omega
  | succ m ih =>
    simp only [placeG]
    by_cases h0 : atL p z line k = 0
    · rw [if_pos h0]
      have : k ≠ j := fun e => h (by rw [← e]; exact h0)
      exact ih (k + 1) (by omega) (by omega)
    · rw [if_neg h0]
      exact h0
theorem files_one {p : Pg} (H : WellP p) {i j : Nat} (hi : i < p.files.length) (hj : j < p.files.length) (e : p.files[i] = p.files[j]) : i = j := by
  rcases Nat.lt_trichotomy i j with h | h | h
  · exact absurd ⟨i, by simp; omega, by simp [e]⟩ (H.files j hj).2
  · exact h
  · exact absurd ⟨j, by simp; omega, by simp [e]⟩ (H.files i hi).2

theorem PlIs.noFile {p : Pg} {s : ByteArray} {line : Int} {e : Ending} (h : PlIs p s line e) (hs : ¬ InL p.files s) : e = .returned (.tuple #[.int .u64 0, .string ⟨#[]⟩, .int .i64 1]) := by
  rcases h with ⟨_, h⟩ | ⟨i, hi, his, _⟩
  · exact h
  · exact absurd ⟨i, hi, his⟩ hs
theorem PlIs.noLine {p : Pg} {s : ByteArray} {line : Int} {e : Ending} (H : WellP p) (h : PlIs p s line e) {i : Nat} (hi : i < p.files.length) (his : p.files[i] = s) (h0 : placeG p ((1 + i : Nat) : Int) line p.funcs.length 0 = 0) :
    e = .returned (.tuple #[.int .u64 0, .string ⟨#[]⟩, .int .i64 2]) := by
  rcases h with ⟨hs, _⟩ | ⟨i', hi', his', h⟩
  · exact absurd ⟨i, hi, his⟩ hs
  · obtain rfl := files_one H hi hi' (his.trans his'.symm)
    rcases h with ⟨_, h⟩ | ⟨h1, _⟩
    · exact h
    · exact absurd h0 h1
theorem PlIs.at {p : Pg} {s : ByteArray} {line : Int} {e : Ending} (H : WellP p) (h : PlIs p s line e) {i : Nat} (hi : i < p.files.length) (his : p.files[i] = s) {k : Nat} (hk : k < p.funcs.length)
    (hg : placeG p ((1 + i : Nat) : Int) line p.funcs.length 0 = atL p ((1 + i : Nat) : Int) line k) (h0 : atL p ((1 + i : Nat) : Int) line k ≠ 0) :
    e = .returned (.tuple #[.int .u64 ((atL p ((1 + i : Nat) : Int) line k : Nat) : Int), .string p.funcs[k].name, .int .i64 0]) := by
  rcases h with ⟨hs, _⟩ | ⟨i', hi', his', h⟩
  · exact absurd ⟨i, hi, his⟩ hs
  · obtain rfl := files_one H hi hi' (his.trans his'.symm)
    obtain ⟨_, b1, b2, _, _⟩ := atL_bnd H _ line k hk h0
    rw [hg] at h
    generalize atL p ((1 + i : Nat) : Int) line k = x at *
    rcases h with ⟨h, _⟩ | ⟨h1, nm, rfl, ⟨ho, _⟩ | ⟨j, hj, j1, j2, rfl⟩⟩
    · exact absurd h h0
    · exfalso
      rcases ho with h | h
      · rcases Nat.eq_zero_or_pos k with rfl | h0
        · omega
        · have := H.bnd_mono 0 k h0 (Nat.le_of_lt hk); omega
      · rcases Nat.lt_or_eq_of_le (show k + 1 ≤ p.funcs.length from hk) with h' | h'
        · have := H.bnd_mono _ _ h' (Nat.le_refl _); omega
        · rw [h'] at b2; omega
    · obtain rfl := bnd_unique H hk hj b1 b2 j1 j2
      rfl

theorem fileN_in {p : Pg} (H : WellP p) (hone : ∀ k (hk : k < p.funcs.length), p.funcs[k].files.length = 1) (k : Nat) (hk : k < p.funcs.length) (n : Nat) (hn : n < quN p.funcs[k].lines * p.quantum.toNat) :
    ∃ i, ∃ hi : i < p.files.length, fvN p k = ((1 + i : Nat) : Int) ∧ fileN p k n = p.files[i] := by
  obtain ⟨rf, hrf, hq, h1, h2, hf⟩ := one_get H hone k hk
  have hv : valN p.quantum.toNat p.funcs[k].files n = rf.v := by
    rw [hrf, valN, if_pos (by rw [hq]; exact hn)]
  have hi : (rf.v - 1).toNat < p.files.length := by omega
  refine ⟨(rf.v - 1).toNat, hi, by rw [hf]; omega, ?_⟩
  unfold fileN
  rw [getD_funcs k hk, hv, if_pos (by omega), List.getD_eq_getElem?_getD, List.getElem?_eq_getElem hi]
  rfl
theorem fileN_out {p : Pg} (H : WellP p) (hone : ∀ k (hk : k < p.funcs.length), p.funcs[k].files.length = 1) (k : Nat) (hk : k < p.funcs.length) (n : Nat) (hn : quN p.funcs[k].lines * p.quantum.toNat ≤ n) :
    fileN p k n = default ∧ valN p.quantum.toNat p.funcs[k].lines n = -1 := by
  obtain ⟨rf, hrf, hq, h1, h2, hf⟩ := one_get H hone k hk
  refine ⟨?_, val_behind _ _ _ hn⟩
  unfold fileN
  have h4 : quN [rf] = rf.q := by simp [quN]
  rw [getD_funcs k hk, hrf, val_behind _ _ _ (by rw [h4, hq]; exact hn), if_neg (by omega)]
theorem LnIs.at {p : Pg} {pc i : Nat} {e : Ending} (H : WellP p) (h : LnIs p pc e) (hi : i < p.funcs.length) (h1 : bndN p i ≤ pc) (h2 : pc < bndN p (i + 1)) :
    e = .returned (.tuple #[.string (fileN p i (pc - bndN p i)), .int .i64 (valN p.quantum.toNat p.funcs[i].lines (pc - bndN p i)), .string p.funcs[i].name, .bool true]) := by
  rcases h with ⟨ho, _⟩ | ⟨k, hk, k1, k2, he⟩
  · exfalso
    rcases ho with h | h
    · rcases Nat.eq_zero_or_pos i with rfl | h0
      · omega
      · have := H.bnd_mono 0 i h0 (Nat.le_of_lt hi); omega
    · rcases Nat.lt_or_eq_of_le (show i + 1 ≤ p.funcs.length from hi) with h' | h'
      · have := H.bnd_mono _ _ h' (Nat.le_refl _); omega
      · rw [h'] at h2; omega
  · obtain rfl := bnd_unique H hi hk h1 h2 k1 k2
    exact he
/-- there and back: the line of a place is found again, at this place or ahead of it, and there it is the same line of the same file -/
theorem there_and_back {p : Pg} (H : WellP p) (hone : ∀ k (hk : k < p.funcs.length), p.funcs[k].files.length = 1) {k pl : Nat} (hk : k < p.funcs.length) (h1 : bndN p k ≤ pl) (hn : pl - bndN p k < quN p.funcs[k].lines * p.quantum.toNat) :
    ∃ s L at_ nm nm', fileN p k (pl - bndN p k) = s ∧ valN p.quantum.toNat p.funcs[k].lines (pl - bndN p k) = L ∧ s.size ≠ 0 ∧ -2147483648 ≤ L ∧ L ≤ 2147483647 ∧ at_ ≤ pl ∧
      (∀ e, PlIs p s L e → e = .returned (.tuple #[.int .u64 ((at_ : Nat) : Int), .string nm, .int .i64 0])) ∧
      ∀ e, LnIs p at_ e → e = .returned (.tuple #[.string s, .int .i64 L, .string nm', .bool true]) := by
  obtain ⟨i, hi, hz, hs⟩ := fileN_in H hone k hk _ hn
  have hbl := H.bnd_le k (Nat.le_of_lt hk)
  have hst := H.head.start0
  have hlv := (H.funcs k hk).lines.val p.quantum.toNat (pl - bndN p k)
  have hfa := firstL_of p.quantum.toNat p.funcs[k].lines (valN p.quantum.toNat p.funcs[k].lines (pl - bndN p k)) (bndN p k) (pl - bndN p k) (by omega) rfl hn
  have hat : atL p ((1 + i : Nat) : Int) (valN p.quantum.toNat p.funcs[k].lines (pl - bndN p k)) k = firstL p.quantum.toNat p.funcs[k].lines (valN p.quantum.toNat p.funcs[k].lines (pl - bndN p k)) (bndN p k) := by
    unfold atL placeL
    rw [if_pos hz, getD_funcs k hk]
  rw [← hat] at hfa
  obtain ⟨j, _, hj, hg, hj0, hfirst⟩ := placeG_some p.funcs.length 0 (placeG_of p.funcs.length 0 k (Nat.zero_le _) (by omega) hfa.1)
  have hjl : j < p.funcs.length := by omega
  obtain ⟨hjz, b1, b2, b3, b4⟩ := atL_bnd H _ _ j hjl hj0
  have hjk : j ≤ k := by
    rcases Nat.lt_or_ge k j with h | h
    · exact absurd (hfirst k (Nat.zero_le _) h) hfa.1
    · exact h
  have hle : atL p ((1 + i : Nat) : Int) (valN p.quantum.toNat p.funcs[k].lines (pl - bndN p k)) j ≤ pl := by
    rcases Nat.lt_or_eq_of_le hjk with h | rfl
    · have : bndN p (j + 1) ≤ bndN p k := by
        rcases Nat.lt_or_eq_of_le (show j + 1 ≤ k from h) with h' | h'
        · exact Nat.le_of_lt (H.bnd_mono _ _ h' (by omega))
        · rw [h']; exact Nat.le_refl _
      omega
    · omega
  obtain ⟨i', hi', hz', hs'⟩ := fileN_in H hone j hjl _ b3
  have hii : i' = i := by omega
  subst hii
  refine ⟨_, _, _, p.funcs[j].name, p.funcs[j].name, rfl, rfl, ?_, by omega, by omega, hle, fun e he => ?_, fun e he => ?_⟩
  · rw [hs]
    have := (H.files i' hi).1.pos
    omega
  · exact he.at H hi hs.symm hjl hg hj0
  · have := he.at H hjl b1 b2
    rw [this, b4, hs', hs]
end Go.Proofs.YtoedlabfiialfaaGreat
