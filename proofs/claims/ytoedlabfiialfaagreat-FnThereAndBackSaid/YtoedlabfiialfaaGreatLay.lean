/-
  The bytes of a program's table, as a list; where each number and text lies in it; bounds. Plain Lean, no program in sight.
-/
import Derived.Test.YtoedlabfiialfaaGreatDefs
namespace Go.Proofs.YtoedlabfiialfaaGreat

/-! ### the bytes of numbers -/
def leB (n : Nat) : Nat → List UInt8
  | 0 => []
  | k + 1 => UInt8.ofNat n :: leB (n / 256) k
def numB (big : Bool) (n k : Nat) : List UInt8 := if big then (leB n k).reverse else leB n k
def leV : List UInt8 → Nat
  | [] => 0
  | x :: l => x.toNat + 256 * leV l
def numV (big : Bool) (l : List UInt8) : Nat := leV (if big then l.reverse else l)
theorem leB_length (n k : Nat) : (leB n k).length = k := by
  induction k generalizing n with
  | zero => rfl
  | succ k ih => simp [leB, ih]
theorem numB_length (big : Bool) (n k : Nat) : (numB big n k).length = k := by unfold numB; split <;> simp [leB_length]
theorem leV_leB (n k : Nat) : leV (leB n k) = n % 256 ^ k := by
  induction k generalizing n with
  | zero => simp [leB, leV, Nat.mod_one]
  | succ k ih =>
    simp only [leB, leV, ih]
    rw [Nat.pow_succ, Nat.mul_comm (256 ^ k) 256, Nat.mod_mul, UInt8.toNat_ofNat']
theorem numV_numB (big : Bool) (n k : Nat) : numV big (numB big n k) = n % 256 ^ k := by
  unfold numV numB
  cases big <;> simp [leV_leB]
theorem leB_get (n k i : Nat) (h : i < k) : (leB n k)[i]? = some (UInt8.ofNat (n / 256 ^ i)) := by
  induction k generalizing n i with
  | zero => omega
  | succ k ih =>
    cases i with
    | zero => simp [leB]
    | succ i =>
      simp only [leB, List.getElem?_cons_succ]
      rw [ih _ _ (by omega), Nat.div_div_eq_div_mul, Nat.pow_succ, Nat.mul_comm]

/-! ### lying at a place of a list -/
def At (d : List UInt8) (o : Nat) (x : List UInt8) : Prop := ∃ a b, d = a ++ (x ++ b) ∧ a.length = o
theorem At.here (x b : List UInt8) : At (x ++ b) 0 x := ⟨[], b, by simp, rfl⟩
theorem At.self (x : List UInt8) : At x 0 x := ⟨[], [], by simp, rfl⟩
theorem At.left {d : List UInt8} {o : Nat} {x y : List UInt8} (h : At d o (x ++ y)) : At d o x := by
  obtain ⟨a, b, e, l⟩ := h
  exact ⟨a, y ++ b, by simp [e], l⟩
theorem At.right {d : List UInt8} {o : Nat} {x y : List UInt8} (h : At d o (x ++ y)) : At d (o + x.length) y := by
  obtain ⟨a, b, e, l⟩ := h
  exact ⟨a ++ x, b, by simp [e], by simp [l]⟩
theorem At.right' {d : List UInt8} {o o' : Nat} {x y : List UInt8} (h : At d o (x ++ y)) (e : o' = o + x.length) : At d o' y := e ▸ h.right
theorem At.trans {d : List UInt8} {o o' : Nat} {l x : List UInt8} (h : At d o l) (h' : At l o' x) : At d (o + o') x := by
  obtain ⟨a, b, e, l⟩ := h
  obtain ⟨a', b', e', l'⟩ := h'
  exact ⟨a ++ a', b' ++ b, by simp [e, e'], by simp [l, l']⟩
theorem At.trans' {d : List UInt8} {o o' o2 : Nat} {l x : List UInt8} (h : At d o l) (h' : At l o' x) (e : o2 = o + o') : At d o2 x := e ▸ h.trans h'
theorem At.app {l m : List UInt8} {o : Nat} {x : List UInt8} (h : At l o x) : At (l ++ m) o x := by
  obtain ⟨a, b, e, l⟩ := h
  exact ⟨a, b ++ m, by simp [e], l⟩
theorem At.pre {l m : List UInt8} {o : Nat} {x : List UInt8} (h : At m o x) : At (l ++ m) (l.length + o) x := by
  obtain ⟨a, b, e, hl⟩ := h
  exact ⟨l ++ a, b, by simp [e], by simp [hl]⟩
theorem At.get {d : List UInt8} {o : Nat} {x : List UInt8} (h : At d o x) (k : Nat) (hk : k < x.length) : d[o + k]? = x[k]? := by
  obtain ⟨a, b, rfl, rfl⟩ := h
  rw [List.getElem?_append_right (by omega), List.getElem?_append_left (by omega)]
  congr 1; omega
theorem At.le {d : List UInt8} {o : Nat} {x : List UInt8} (h : At d o x) : o + x.length ≤ d.length := by
  obtain ⟨a, b, rfl, rfl⟩ := h
  simp [← Nat.add_assoc]
theorem At.eq {d : List UInt8} {o : Nat} {x y : List UInt8} (h : At d o x) (h' : At d o y) (e : x.length = y.length) : x = y := by
  apply List.ext_getElem? 
  intro k
  by_cases hk : k < x.length
  · rw [← h.get k hk, ← h'.get k (by omega)]
  · rw [List.getElem?_eq_none (by omega), List.getElem?_eq_none (by omega)]

/-! ### numbers in groups of seven bits; runs -/
def varB (n : Nat) : List UInt8 := if 128 ≤ n then UInt8.ofNat (n % 128 + 128) :: varB (n / 128) else [UInt8.ofNat n]
termination_by n
decreasing_by omega
theorem varB_big {n : Nat} (h : 128 ≤ n) : varB n = UInt8.ofNat (n % 128 + 128) :: varB (n / 128) := by rw [varB, if_pos h]
theorem varB_small {n : Nat} (h : n < 128) : varB n = [UInt8.ofNat n] := by rw [varB, if_neg (by omega)]
theorem varB_pos (n : Nat) : 0 < (varB n).length := by
  by_cases h : 128 ≤ n
  · rw [varB_big h]; simp
  · rw [varB_small (by omega)]; simp
theorem varB_le (k n : Nat) (h : n < 128 ^ (k + 1)) : (varB n).length ≤ k + 1 := by
  induction k generalizing n with
  | zero => rw [varB_small (by simpa using h)]; simp
  | succ k ih =>
    by_cases hb : 128 ≤ n
    · rw [varB_big hb]
      have := ih (n / 128) (by rw [Nat.div_lt_iff_lt_mul (by omega)]; rw [Nat.pow_succ] at h; exact h)
      simp; omega
    · rw [varB_small (by omega)]; simp
theorem varB_le5 (n : Nat) (h : n < 4294967296) : (varB n).length ≤ 5 := varB_le 4 n (by simp only [Nat.reducePow, Nat.reduceAdd]; omega)

def zz (d : Int) : Nat := if d < 0 then ((-1 - d) * 2 + 1).toNat else (d * 2).toNat
def pairsFrom (last : Int) : List Run → List UInt8
  | [] => [0]
  | r :: l => varB (zz (r.v - last)) ++ (varB r.q ++ pairsFrom r.v l)
def pairsB (l : List Run) : List UInt8 := pairsFrom (-1) l
theorem pairsFrom_pos (last : Int) (l : List Run) : 0 < (pairsFrom last l).length := by
  cases l with
  | nil => simp [pairsFrom]
  | cons r l => have := varB_pos (zz (r.v - last)); simp [pairsFrom]; omega
theorem pairsFrom_le (l : List Run) (last : Int) (h0 : -1 ≤ last ∧ last ≤ 65536) (h : ∀ k (h : k < l.length), 1 ≤ l[k].v ∧ l[k].v ≤ 65536 ∧ l[k].q ≤ 65536) : (pairsFrom last l).length ≤ 10 * l.length + 1 := by
  induction l generalizing last with
  | nil => simp [pairsFrom]
  | cons r l ih =>
    have hr := h 0 (by simp)
    simp only [List.getElem_cons_zero] at hr
    have := ih r.v (by omega) (fun k hk => by have := h (k + 1) (by simp; omega); simpa using this)
    have h1 := varB_le5 (zz (r.v - last)) (by unfold zz; split <;> omega)
    have h2 := varB_le5 r.q (by omega)
    simp only [pairsFrom, List.length_append, List.length_cons]
    omega

/-! ### the table -/
def strZ (s : ByteArray) : List UInt8 := s.data.toList ++ [0]
theorem strZ_length (s : ByteArray) : (strZ s).length = s.size + 1 := by simp [strZ]
def filesB (fs : List ByteArray) : List UInt8 := fs.flatMap strZ
def namesB (big : Bool) (a : Nat) : List ByteArray → List UInt8
  | [] => []
  | f :: fs => numB big a 4 ++ namesB big (a + (strZ f).length) fs
def wszN (p : Pg) : Nat := if p.wide then 8 else 4
def wordB (p : Pg) (n : Nat) : List UInt8 := numB p.big n (wszN p)
def headN (p : Pg) : Nat := 8 + wszN p + (2 * p.funcs.length + 1) * wszN p + 4
def recN (p : Pg) : Nat := wszN p + 32
def baseN (p : Pg) : Nat := headN p + p.funcs.length * recN p
def behind0 (p : Pg) : List UInt8 := filesB p.files ++ (numB p.big (p.files.length + 1) 4 ++ namesB p.big (baseN p) p.files)
def filesOff (p : Pg) : Nat := baseN p + (filesB p.files).length
def fnBehind (f : Fn) : List UInt8 := strZ f.name ++ (pairsB f.files ++ pairsB f.lines)
/-- the numbers of a record behind its place -/
def recNums (a : Nat) (f : Fn) : List Nat := [a, 0, f.frame.toNat, 0, a + (strZ f.name).length, a + (strZ f.name).length + (pairsB f.files).length, 0, 0]
def recB (p : Pg) (frm a : Nat) (f : Fn) : List UInt8 := wordB p frm ++ (recNums a f).flatMap (fun x => numB p.big x 4)
/-- how many quanta runs have -/
def quN (l : List Run) : Nat := (l.map (·.q)).sum
/-- how many bytes a function has -/
def fsz (p : Pg) (f : Fn) : Nat := (quN f.lines + f.free) * p.quantum.toNat
def tabB (p : Pg) (frm ro : Nat) : List Fn → List UInt8
  | [] => wordB p frm
  | f :: fs => wordB p frm ++ (wordB p ro ++ tabB p (frm + fsz p f) (ro + recN p) fs)
def recsB (p : Pg) (frm a : Nat) : List Fn → List UInt8
  | [] => []
  | f :: fs => recB p frm a f ++ recsB p (frm + fsz p f) (a + (fnBehind f).length) fs
def behB (fs : List Fn) : List UInt8 := fs.flatMap fnBehind
def hdrB (p : Pg) : List UInt8 := numB p.big 4294967291 4 ++ [0, 0, UInt8.ofNat p.quantum.toNat, UInt8.ofNat (wszN p)] ++ wordB p p.funcs.length
def bytesB (p : Pg) : List UInt8 :=
  hdrB p ++ (tabB p p.start (headN p) p.funcs ++ (numB p.big (filesOff p) 4 ++ (recsB p p.start (baseN p + (behind0 p).length) p.funcs ++ (behind0 p ++ behB p.funcs))))

theorem wordB_length (p : Pg) (n : Nat) : (wordB p n).length = wszN p := numB_length _ _ _
theorem hdrB_length (p : Pg) : (hdrB p).length = 8 + wszN p := by simp [hdrB, numB_length, wordB_length]; omega
theorem tabB_length (p : Pg) (frm ro : Nat) (fs : List Fn) : (tabB p frm ro fs).length = (2 * fs.length + 1) * wszN p := by
  induction fs generalizing frm ro with
  | nil => simp [tabB, wordB_length]
  | cons f fs ih => simp only [tabB, List.length_append, wordB_length, ih, List.length_cons]; rw [show 2 * (fs.length + 1) + 1 = (2 * fs.length + 1) + 1 + 1 by omega, Nat.add_mul (2 * fs.length + 1 + 1), Nat.add_mul (2 * fs.length + 1)]; omega
theorem recB_length (p : Pg) (frm a : Nat) (f : Fn) : (recB p frm a f).length = recN p := by
  simp [recB, recNums, wordB_length, numB_length, recN]
theorem recsB_length (p : Pg) (frm a : Nat) (fs : List Fn) : (recsB p frm a fs).length = fs.length * recN p := by
  induction fs generalizing frm a with
  | nil => simp [recsB]
  | cons f fs ih => simp only [recsB, List.length_append, recB_length, ih, List.length_cons]; rw [Nat.add_mul]; omega
theorem namesB_length (big : Bool) (a : Nat) (fs : List ByteArray) : (namesB big a fs).length = 4 * fs.length := by
  induction fs generalizing a with
  | nil => rfl
  | cons f fs ih => simp only [namesB, List.length_append, numB_length, ih, List.length_cons]; omega

/-- where function k begins -/
def frmN (p : Pg) : List Fn → Nat → Nat → Nat
  | _, frm, 0 => frm
  | [], frm, _ => frm
  | f :: fs, frm, k + 1 => frmN p fs (frm + fsz p f) k
/-- where what stands behind of function k begins -/
def behN : List Fn → Nat → Nat → Nat
  | _, a, 0 => a
  | [], a, _ => a
  | f :: fs, a, k + 1 => behN fs (a + (fnBehind f).length) k
def bndN (p : Pg) (k : Nat) : Nat := frmN p p.funcs p.start k
def offN (p : Pg) (k : Nat) : Nat := behN p.funcs (baseN p + (behind0 p).length) k
/-- where text k of the files lies -/
def fofN : List ByteArray → Nat → Nat → Nat
  | _, a, 0 => a
  | [], a, _ => a
  | f :: fs, a, k + 1 => fofN fs (a + (strZ f).length) k

theorem tabB_at (p : Pg) (fs : List Fn) (frm ro k : Nat) (hk : k < fs.length) :
    At (tabB p frm ro fs) (2 * k * wszN p) (wordB p (frmN p fs frm k)) ∧ At (tabB p frm ro fs) ((2 * k + 1) * wszN p) (wordB p (ro + k * recN p)) := by
  induction fs generalizing frm ro k with
  | nil => simp at hk
  | cons f fs ih =>
    cases k with
    | zero =>
      simp only [tabB, frmN]
      refine ⟨by simpa using At.here _ _, ?_⟩
      have := (At.self (wordB p frm ++ (wordB p ro ++ tabB p (frm + fsz p f) (ro + recN p) fs))).right.left
      simpa [wordB_length] using this
    | succ k =>
      simp only [List.length_cons] at hk
      obtain ⟨h1, h2⟩ := ih (frm + fsz p f) (ro + recN p) k (by omega)
      simp only [tabB, frmN]
      have hh := (At.self (wordB p frm ++ (wordB p ro ++ tabB p (frm + fsz p f) (ro + recN p) fs))).right.right
      simp only [wordB_length, Nat.zero_add] at hh
      refine ⟨hh.trans' h1 ?_, ?_⟩
      · rw [show 2 * (k + 1) = 1 + 1 + 2 * k by omega, Nat.add_mul, Nat.add_mul, Nat.one_mul]
      · have := hh.trans' h2 (o2 := (2 * (k + 1) + 1) * wszN p) (by rw [show 2 * (k + 1) + 1 = 1 + 1 + (2 * k + 1) by omega, Nat.add_mul, Nat.add_mul, Nat.one_mul])
        rw [show ro + recN p + k * recN p = ro + (k + 1) * recN p by rw [Nat.add_mul]; omega] at this
        exact this
theorem tabB_last (p : Pg) (fs : List Fn) (frm ro : Nat) : At (tabB p frm ro fs) (2 * fs.length * wszN p) (wordB p (frmN p fs frm fs.length)) := by
  induction fs generalizing frm ro with
  | nil => simpa [tabB, frmN] using At.self _
  | cons f fs ih =>
    simp only [tabB, frmN, List.length_cons]
    have hh := (At.self (wordB p frm ++ (wordB p ro ++ tabB p (frm + fsz p f) (ro + recN p) fs))).right.right
    simp only [wordB_length, Nat.zero_add] at hh
    exact hh.trans' (ih _ _) (by rw [show 2 * (fs.length + 1) = 1 + 1 + 2 * fs.length by omega, Nat.add_mul, Nat.add_mul, Nat.one_mul])
theorem recsB_at (p : Pg) (fs : List Fn) (frm a k : Nat) (hk : k < fs.length) :
    At (recsB p frm a fs) (k * recN p) (recB p (frmN p fs frm k) (behN fs a k) fs[k]) := by
  induction fs generalizing frm a k with
  | nil => simp at hk
  | cons f fs ih =>
    cases k with
    | zero => simpa [recsB, frmN, behN] using At.here _ _
    | succ k =>
      simp only [List.length_cons] at hk
      have hh := (At.self (recB p frm a f ++ recsB p (frm + fsz p f) (a + (fnBehind f).length) fs)).right
      simp only [recB_length, Nat.zero_add] at hh
      simp only [recsB, frmN, behN, List.getElem_cons_succ]
      exact hh.trans' (ih _ _ k (by omega)) (by rw [Nat.add_mul]; omega)
theorem behB_at (fs : List Fn) (a k : Nat) (hk : k < fs.length) : ∃ o, behN fs a k = a + o ∧ At (behB fs) o (fnBehind fs[k]) := by
  induction fs generalizing a k with
  | nil => simp at hk
  | cons f fs ih =>
    cases k with
    | zero => exact ⟨0, by simp [behN], by simpa [behB] using At.here _ _⟩
    | succ k =>
      simp only [List.length_cons] at hk
      obtain ⟨o, e, h⟩ := ih (a + (fnBehind f).length) k (by omega)
      have hh := (At.self (fnBehind f ++ behB fs)).right
      simp only [Nat.zero_add] at hh
      refine ⟨(fnBehind f).length + o, by simp only [behN, e]; omega, ?_⟩
      have := hh.trans h
      simpa [behB] using this
theorem filesB_at (fs : List ByteArray) (a k : Nat) (hk : k < fs.length) : ∃ o, fofN fs a k = a + o ∧ At (filesB fs) o (strZ fs[k]) := by
  induction fs generalizing a k with
  | nil => simp at hk
  | cons f fs ih =>
    cases k with
    | zero => exact ⟨0, by simp [fofN], by simpa [filesB] using At.here _ _⟩
    | succ k =>
      simp only [List.length_cons] at hk
      obtain ⟨o, e, h⟩ := ih (a + (strZ f).length) k (by omega)
      have hh := (At.self (strZ f ++ filesB fs)).right
      simp only [Nat.zero_add] at hh
      refine ⟨(strZ f).length + o, by simp only [fofN, e]; omega, ?_⟩
      have := hh.trans h
      simpa [filesB] using this
theorem namesB_at (big : Bool) (fs : List ByteArray) (a k : Nat) (hk : k < fs.length) : At (namesB big a fs) (4 * k) (numB big (fofN fs a k) 4) := by
  induction fs generalizing a k with
  | nil => simp at hk
  | cons f fs ih =>
    cases k with
    | zero => simpa [namesB, fofN] using At.here _ _
    | succ k =>
      simp only [List.length_cons] at hk
      have hh := (At.self (numB big a 4 ++ namesB big (a + (strZ f).length) fs)).right
      simp only [numB_length, Nat.zero_add] at hh
      simp only [namesB, fofN]
      exact hh.trans' (ih _ k (by omega)) (by omega)

/-! ### where all lies -/
theorem bytes_hdr (p : Pg) : At (bytesB p) 0 (hdrB p) := At.here _ _
theorem bytes_tab (p : Pg) : At (bytesB p) (8 + wszN p) (tabB p p.start (headN p) p.funcs) := by
  have := (At.self (bytesB p)).right.left (x := tabB p p.start (headN p) p.funcs)
  simpa [hdrB_length] using this
theorem bytes_foff (p : Pg) : At (bytesB p) (8 + wszN p + (2 * p.funcs.length + 1) * wszN p) (numB p.big (filesOff p) 4) := by
  have := (At.self (bytesB p)).right.right.left (x := numB p.big (filesOff p) 4)
  simpa [hdrB_length, tabB_length] using this
theorem bytes_recs (p : Pg) : At (bytesB p) (headN p) (recsB p p.start (baseN p + (behind0 p).length) p.funcs) := by
  have := (At.self (bytesB p)).right.right.right.left (x := recsB p p.start (baseN p + (behind0 p).length) p.funcs)
  simpa [hdrB_length, tabB_length, numB_length, headN] using this
theorem bytes_beh0 (p : Pg) : At (bytesB p) (baseN p) (behind0 p) := by
  have := (At.self (bytesB p)).right.right.right.right.left (x := behind0 p)
  simpa [hdrB_length, tabB_length, numB_length, recsB_length, headN, baseN] using this
theorem bytes_beh (p : Pg) : At (bytesB p) (baseN p + (behind0 p).length) (behB p.funcs) := by
  have := (At.self (bytesB p)).right.right.right.right.right
  simpa [hdrB_length, tabB_length, numB_length, recsB_length, headN, baseN] using this

theorem bytes_frm (p : Pg) (k : Nat) (hk : k ≤ p.funcs.length) : At (bytesB p) (8 + wszN p + 2 * k * wszN p) (wordB p (bndN p k)) := by
  rcases Nat.lt_or_eq_of_le hk with h | rfl
  · exact (bytes_tab p).trans (tabB_at p p.funcs p.start (headN p) k h).1
  · exact (bytes_tab p).trans (tabB_last p p.funcs p.start (headN p))
theorem bytes_ro (p : Pg) (k : Nat) (hk : k < p.funcs.length) : At (bytesB p) (8 + wszN p + (2 * k + 1) * wszN p) (wordB p (headN p + k * recN p)) :=
  (bytes_tab p).trans (tabB_at p p.funcs p.start (headN p) k hk).2
theorem bytes_rec (p : Pg) (k : Nat) (hk : k < p.funcs.length) : At (bytesB p) (headN p + k * recN p) (recB p (bndN p k) (offN p k) p.funcs[k]) :=
  (bytes_recs p).trans (recsB_at p p.funcs p.start _ k hk)
theorem flat4_at (big : Bool) (l : List Nat) (k : Nat) (hk : k < l.length) : At (l.flatMap fun x => numB big x 4) (4 * k) (numB big l[k] 4) := by
  induction l generalizing k with
  | nil => simp at hk
  | cons x l ih =>
    cases k with
    | zero => simpa using At.here _ _
    | succ k =>
      simp only [List.length_cons] at hk
      have hh := (At.self (numB big x 4 ++ l.flatMap fun x => numB big x 4)).right
      simp only [numB_length, Nat.zero_add] at hh
      simp only [List.flatMap_cons, List.getElem_cons_succ]
      exact hh.trans' (ih k (by omega)) (by omega)
/-- number j of record k, from 0 on -/
theorem bytes_field (p : Pg) (k : Nat) (hk : k < p.funcs.length) (j : Nat) (hj : j < 8) : At (bytesB p) (headN p + k * recN p + (wszN p + 4 * j)) (numB p.big ((recNums (offN p k) p.funcs[k])[j]'(by simpa [recNums] using hj)) 4) := by
  have h := (bytes_rec p k hk)
  unfold recB at h
  have h2 := h.right
  rw [wordB_length] at h2
  exact h2.trans' (flat4_at p.big _ j (by simpa [recNums] using hj)) (by omega)
theorem bytes_entry (p : Pg) (k : Nat) (hk : k < p.funcs.length) : At (bytesB p) (headN p + k * recN p) (wordB p (bndN p k)) := by
  have h := (bytes_rec p k hk)
  unfold recB at h
  exact h.left
theorem bytes_fn (p : Pg) (k : Nat) (hk : k < p.funcs.length) : At (bytesB p) (offN p k) (fnBehind p.funcs[k]) := by
  obtain ⟨o, e, h⟩ := behB_at p.funcs (baseN p + (behind0 p).length) k hk
  unfold offN
  rw [e]
  exact (bytes_beh p).trans h
theorem bytes_name (p : Pg) (k : Nat) (hk : k < p.funcs.length) : At (bytesB p) (offN p k) (strZ p.funcs[k].name) := (bytes_fn p k hk).left
theorem bytes_pcfile (p : Pg) (k : Nat) (hk : k < p.funcs.length) : At (bytesB p) (offN p k + (strZ p.funcs[k].name).length) (pairsB p.funcs[k].files) := (bytes_fn p k hk).right.left
theorem bytes_pcln (p : Pg) (k : Nat) (hk : k < p.funcs.length) : At (bytesB p) (offN p k + (strZ p.funcs[k].name).length + (pairsB p.funcs[k].files).length) (pairsB p.funcs[k].lines) := (bytes_fn p k hk).right.right
theorem bytes_nfiles (p : Pg) : At (bytesB p) (filesOff p) (numB p.big (p.files.length + 1) 4) := (bytes_beh0 p).right.left
theorem bytes_fno (p : Pg) (k : Nat) (hk : k < p.files.length) : At (bytesB p) (filesOff p + 4 * (k + 1)) (numB p.big (fofN p.files (baseN p) k) 4) := by
  have := (bytes_beh0 p).right.right
  rw [numB_length] at this
  exact this.trans' (namesB_at p.big p.files (baseN p) k hk) (by unfold filesOff; omega)
theorem bytes_file (p : Pg) (k : Nat) (hk : k < p.files.length) : At (bytesB p) (fofN p.files (baseN p) k) (strZ p.files[k]) := by
  obtain ⟨o, e, h⟩ := filesB_at p.files (baseN p) k hk
  rw [e]
  exact (bytes_beh0 p).left.trans h

/-! ### bounds -/
theorem sum_le (l : List Nat) (c : Nat) (h : ∀ x ∈ l, x ≤ c) : l.sum ≤ l.length * c := by
  induction l with
  | nil => simp
  | cons x l ih =>
    have := ih (fun y hy => h y (by simp [hy]))
    have := h x (by simp)
    simp only [List.sum_cons, List.length_cons, Nat.add_mul]
    omega
theorem quN_le {l : List Run} {most : Int} (h : RunsGood l most) : quN l ≤ 6553600 := by
  have := sum_le (l.map (·.q)) 65536 (fun x hx => by
    obtain ⟨r, hr, rfl⟩ := List.mem_map.1 hx
    obtain ⟨k, hk, rfl⟩ := List.getElem_of_mem hr
    exact (h.each k hk).q2)
  have hl := h.le
  unfold quN
  simp only [List.length_map] at this
  have : l.length * 65536 ≤ 100 * 65536 := Nat.mul_le_mul_right _ hl
  omega
theorem quN_pos {l : List Run} {most : Int} (h : RunsGood l most) : 1 ≤ quN l := by
  have h1 := (h.each 0 h.pos).q1
  have hp := h.pos
  unfold quN
  cases l with
  | nil => simp at hp
  | cons r l => simp at h1 ⊢; omega
theorem WellHead.qm {p : Pg} (h : WellHead p) : p.quantum.toNat = 1 ∨ p.quantum.toNat = 2 ∨ p.quantum.toNat = 4 := by have := h.quantum; omega
theorem WellP.fsz_le {p : Pg} (H : WellP p) {f : Fn} (h : FnGood p.files.length f) : 1 ≤ fsz p f ∧ fsz p f ≤ 26476544 := by
  have h1 := quN_le h.lines
  have h2 := quN_pos h.lines
  have h3 := h.free
  unfold fsz
  rcases H.head.qm with e | e | e <;> rw [e] <;> omega
theorem frmN_le (p : Pg) (c : Nat) (fs : List Fn) (h : ∀ f ∈ fs, fsz p f ≤ c) (frm k : Nat) (hk : k ≤ fs.length) : frm ≤ frmN p fs frm k ∧ frmN p fs frm k ≤ frm + k * c := by
  induction fs generalizing frm k with
  | nil => simp at hk; subst hk; simp [frmN]
  | cons f fs ih =>
    cases k with
    | zero => simp [frmN]
    | succ k =>
      simp only [List.length_cons] at hk
      have h1 := ih (fun g hg => h g (by simp [hg])) (frm + fsz p f) k (by omega)
      have h2 := h f (by simp)
      simp only [frmN, Nat.add_mul]
      omega
theorem WellP.mem {p : Pg} (H : WellP p) {f : Fn} (hf : f ∈ p.funcs) : FnGood p.files.length f := by
  obtain ⟨k, hk, rfl⟩ := List.getElem_of_mem hf
  exact H.funcs k hk
theorem WellP.bnd_le {p : Pg} (H : WellP p) (k : Nat) (hk : k ≤ p.funcs.length) : p.start ≤ bndN p k ∧ bndN p k ≤ 2664431616 := by
  have h := frmN_le p 26476544 p.funcs (fun f hf => (H.fsz_le (H.mem hf)).2) p.start k hk
  have := H.head.start1
  have := H.head.fl
  have : k * 26476544 ≤ 100 * 26476544 := Nat.mul_le_mul_right _ (by omega)
  unfold bndN
  omega
theorem frmN_succ (p : Pg) (fs : List Fn) (frm k : Nat) (hk : k < fs.length) : frmN p fs frm (k + 1) = frmN p fs frm k + fsz p fs[k] := by
  induction fs generalizing frm k with
  | nil => simp at hk
  | cons f fs ih =>
    cases k with
    | zero => simp [frmN]
    | succ k => simp only [List.length_cons] at hk; simpa [frmN] using ih (frm + fsz p f) k (by omega)
theorem bndN_succ (p : Pg) (k : Nat) (hk : k < p.funcs.length) : bndN p (k + 1) = bndN p k + fsz p p.funcs[k] := frmN_succ p p.funcs p.start k hk
theorem WellP.bnd_lt {p : Pg} (H : WellP p) (k : Nat) (hk : k < p.funcs.length) : bndN p k < bndN p (k + 1) := by
  rw [bndN_succ p k hk]
  have := (H.fsz_le (H.funcs k hk)).1
  omega
theorem WellP.bnd_mono {p : Pg} (H : WellP p) (i j : Nat) (hij : i < j) (hj : j ≤ p.funcs.length) : bndN p i < bndN p j := by
  induction j with
  | zero => omega
  | succ j ih =>
    have := H.bnd_lt j (by omega)
    rcases Nat.lt_or_eq_of_le (Nat.le_of_lt_succ hij) with h | rfl
    · have := ih h (by omega); omega
    · exact this
theorem flatMap_le {α : Type} (g : α → List UInt8) (c : Nat) (l : List α) (h : ∀ x ∈ l, (g x).length ≤ c) : (l.flatMap g).length ≤ l.length * c := by
  rw [List.length_flatMap]
  have := sum_le (l.map fun a => (g a).length) c (fun y hy => by obtain ⟨a, ha, rfl⟩ := List.mem_map.1 hy; exact h a ha)
  simpa using this
theorem pairsB_le {l : List Run} {most : Int} (h : RunsGood l most) (hm : most ≤ 65536) : (pairsB l).length ≤ 1001 := by
  have := pairsFrom_le l (-1) (by omega) (fun k hk => by have := h.each k hk; exact ⟨this.v1, by have := this.v2; omega, this.q2⟩)
  have := h.le
  unfold pairsB
  omega
theorem WellP.fnBehind_le {p : Pg} (H : WellP p) {f : Fn} (h : FnGood p.files.length f) : (fnBehind f).length ≤ 3003 := by
  have h1 := pairsB_le h.lines (by omega)
  have h2 := pairsB_le h.files (by have := H.head.sl; omega)
  have h3 := h.name.le
  simp only [fnBehind, List.length_append, strZ_length]
  omega
theorem wszN_or (p : Pg) : (p.wide = true ∧ wszN p = 8) ∨ (p.wide = false ∧ wszN p = 4) := by unfold wszN; cases p.wide <;> simp
theorem WellP.parts_le {p : Pg} (H : WellP p) : headN p ≤ 1700 ∧ recN p ≤ 40 ∧ baseN p ≤ 5700 ∧ (filesB p.files).length ≤ 100100 ∧ (behind0 p).length ≤ 100504 ∧ (behB p.funcs).length ≤ 300300 ∧ filesOff p ≤ 105800 := by
  have h1 := H.head.fl
  have h2 := H.head.sl
  have a1 : (2 * p.funcs.length + 1) * wszN p ≤ 201 * 8 := Nat.mul_le_mul (by omega) (by rcases wszN_or p with h | h <;> omega)
  have a2 : p.funcs.length * recN p ≤ 100 * 40 := Nat.mul_le_mul (by omega) (by unfold recN; rcases wszN_or p with h | h <;> omega)
  have a3 : (filesB p.files).length ≤ p.files.length * 1001 := flatMap_le _ _ _ (fun x hx => by
    obtain ⟨k, hk, rfl⟩ := List.getElem_of_mem hx
    have := (H.files k hk).1.le
    rw [strZ_length]; omega)
  have a4 : (behB p.funcs).length ≤ p.funcs.length * 3003 := flatMap_le _ _ _ (fun x hx => H.fnBehind_le (H.mem hx))
  have a5 : p.files.length * 1001 ≤ 100 * 1001 := Nat.mul_le_mul_right _ h2
  have a6 : p.funcs.length * 3003 ≤ 100 * 3003 := Nat.mul_le_mul_right _ h1
  have h3 : headN p ≤ 1700 := by unfold headN; rcases wszN_or p with h | h <;> omega
  have h4 : recN p ≤ 40 := by unfold recN; rcases wszN_or p with h | h <;> omega
  have h5 : baseN p ≤ 5700 := by unfold baseN; omega
  have h6 : (behind0 p).length ≤ 100504 := by simp only [behind0, List.length_append, numB_length, namesB_length]; omega
  exact ⟨h3, h4, h5, by omega, h6, by omega, by unfold filesOff; omega⟩
theorem WellP.len_le {p : Pg} (H : WellP p) : (bytesB p).length ≤ 500000 ∧ 16 ≤ (bytesB p).length := by
  obtain ⟨h1, h2, h3, h4, h5, h6, h7⟩ := H.parts_le
  have hp := H.head.pos
  have h := H.head.fl
  have e : (bytesB p).length = 8 + wszN p + ((2 * p.funcs.length + 1) * wszN p + (4 + (p.funcs.length * recN p + ((behind0 p).length + (behB p.funcs).length)))) := by
    simp only [bytesB, List.length_append, hdrB_length, tabB_length, numB_length, recsB_length]
  have e2 : baseN p = 8 + wszN p + (2 * p.funcs.length + 1) * wszN p + 4 + p.funcs.length * recN p := rfl
  have a1 : 1 * wszN p ≤ (2 * p.funcs.length + 1) * wszN p := Nat.mul_le_mul_right _ (by omega)
  rcases wszN_or p with h | h <;> omega
theorem WellP.off_le {p : Pg} (H : WellP p) (k : Nat) (hk : k < p.funcs.length) : offN p k + (fnBehind p.funcs[k]).length ≤ 500000 := by
  have := (bytes_fn p k hk).le
  have := H.len_le.1
  omega
theorem WellP.fof_le {p : Pg} (H : WellP p) (k : Nat) (hk : k < p.files.length) : fofN p.files (baseN p) k + (strZ p.files[k]).length ≤ 500000 := by
  have := (bytes_file p k hk).le
  have := H.len_le.1
  omega
/-! ### the value of runs at a place -/
def valN (qm : Nat) : List Run → Nat → Int
  | [], _ => -1
  | r :: l, n => if n < r.q * qm then r.v else valN qm l (n - r.q * qm)
end Go.Proofs.YtoedlabfiialfaaGreat
