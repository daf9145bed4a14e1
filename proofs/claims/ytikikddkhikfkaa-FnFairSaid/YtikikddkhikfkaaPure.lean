/-
  Plain facts of the seats of a set: no program runs here. By the session.
-/
import Derived.Test.YtikikddkhikfkaaSet2
import Derived.Test.YtikikddkhikfkaaRow
set_option linter.unusedSimpArgs false
namespace Go.Proofs.Ytikikddkhikfkaa
open Go.RowKit

theorem insR_perm (acc : List Sd) (x : Sd) : (insR acc x).Perm (x :: acc) := by
  unfold insR
  exact List.perm_middle.trans (List.Perm.cons _ (by rw [List.take_append_drop]))
theorem rankedL_perm (l : List Sd) : (rankedL l).Perm l := by
  have : ∀ (l acc : List Sd), (l.foldl insR acc).Perm (acc ++ l) := by
    intro l
    induction l with
    | nil => intro acc; simp
    | cons x r ih =>
      intro acc
      rw [List.foldl_cons]
      exact (ih _).trans (((insR_perm acc x).append_right r).trans (List.perm_middle.symm))
  simpa [rankedL] using this l []
/-- a seat as the laws' set has it -/
structure Sd.good (s : Sd) : Prop where
  adr : s.adr.toList ≠ []
  key : s.key.toList ≠ []
  adrM : s.adr.size ≤ maxLen
  keyM : s.key.size ≤ maxLen
  pow : 1 ≤ s.pow ∧ s.pow ≤ 1125899906842624
  pri : -1152921504606846976 < s.pri ∧ s.pri < 1152921504606846976
def apartS (x y : Sd) : Prop := sameB x y = false
theorem norm_good {s : Sd} (h : s.fits) (ha : s.adr.toList ≠ []) (hk : s.key.toList ≠ []) : (norm s).good := by
  obtain ⟨h1, h2, h3, h4⟩ := h
  have hm : 0 ≤ mag s.pow := by unfold mag; split <;> omega
  refine ⟨ha, hk, h1, h2, ?_, ?_⟩
  · have a := Int.emod_nonneg (mag s.pow) (b := 1125899906842624) (by omega)
    have b := Int.emod_lt_of_pos (mag s.pow) (b := 1125899906842624) (by omega)
    simp only [norm]; omega
  · have a := Int.tmod_lt_of_pos s.pri (b := 1152921504606846976) (by omega)
    have b := Int.lt_tmod_of_pos s.pri (b := 1152921504606846976) (by omega)
    simp only [norm]; omega
theorem setAcc_good {acc : List Sd} {s : Sd} (h : ∀ x ∈ acc, x.good) (hs : s.fits) : ∀ x ∈ setAcc acc s, x.good := by
  intro x hx
  unfold setAcc at hx
  split at hx
  · exact h x hx
  · rename_i hsk
    rcases List.mem_append.1 hx with hx | hx
    · exact h x hx
    · obtain rfl := List.mem_singleton.1 hx
      simp only [skipB, Bool.or_eq_true, not_or, Bool.not_eq_true, List.isEmpty_iff, List.isEmpty_eq_false_iff] at hsk
      exact norm_good hs hsk.1.1 hsk.1.2
theorem setAcc_apart {acc : List Sd} {s : Sd} (h : acc.Pairwise apartS) : (setAcc acc s).Pairwise apartS := by
  unfold setAcc
  split
  · exact h
  · rename_i hsk
    rw [List.pairwise_append]
    refine ⟨h, by simp, fun a ha b hb => ?_⟩
    obtain rfl := List.mem_singleton.1 hb
    simp only [skipB, Bool.or_eq_true, not_or, Bool.not_eq_true] at hsk
    have := hsk.2
    rw [List.any_eq_false] at this
    have := this a ha
    unfold apartS
    simpa [norm, sameB] using this
theorem setL_good (l : List Sd) (h : ∀ s ∈ l, s.fits) : ∀ x ∈ setL l, x.good := by
  have : ∀ (l acc : List Sd), (∀ s ∈ l, s.fits) → (∀ x ∈ acc, x.good) → ∀ x ∈ l.foldl setAcc acc, x.good := by
    intro l
    induction l with
    | nil => intro acc _ h; exact h
    | cons s r ih =>
      intro acc h1 h2
      exact ih _ (fun x hx => h1 x (List.mem_cons_of_mem _ hx)) (setAcc_good h2 (h1 s (List.mem_cons_self ..)))
  exact this _ _ (fun s hs => h s (List.mem_of_mem_take hs)) (by simp)
theorem setL_apart (l : List Sd) : (setL l).Pairwise apartS := by
  have : ∀ (l acc : List Sd), acc.Pairwise apartS → (l.foldl setAcc acc).Pairwise apartS := by
    intro l
    induction l with
    | nil => intro acc h; exact h
    | cons s r ih => intro acc h; exact ih _ (setAcc_apart h)
  exact this _ _ List.Pairwise.nil
theorem setL_length (l : List Sd) : (setL l).length ≤ 60 := by
  have := foldl_setAcc_length (l.take 60) []
  simp only [List.length_nil, List.length_take] at this
  unfold setL; omega
/-- the set that a law is over -/
def theSet (l : List Sd) : List Sd := rankedL (setL l)
theorem theSet_length (l : List Sd) : (theSet l).length ≤ 60 := by unfold theSet; rw [rankedL_length]; exact setL_length l
theorem theSet_good (l : List Sd) (h : ∀ s ∈ l, s.fits) : ∀ x ∈ theSet l, x.good := fun x hx => setL_good l h x ((rankedL_perm _).mem_iff.1 hx)
theorem theSet_apart (l : List Sd) : (theSet l).Pairwise apartS :=
  (rankedL_perm (setL l)).symm.pairwise (setL_apart l) (fun {a b} h => by
    unfold apartS sameB at *
    rw [Bool.or_eq_false_iff] at *
    exact ⟨by rw [BEq.comm]; exact h.1, by rw [BEq.comm]; exact h.2⟩)
theorem fitsB_length {l : List Sd} (h : fitsB l = true) : l.length ≤ 2147483647 := by
  simp only [fitsB, Bool.and_eq_true, Bool.not_eq_true', decide_eq_false_iff_not] at h
  omega
end Go.Proofs.Ytikikddkhikfkaa
