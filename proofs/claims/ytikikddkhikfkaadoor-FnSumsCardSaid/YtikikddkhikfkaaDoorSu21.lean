/-
  types.SetOf: the walk. By the session. RescalePriorities and what it calls: walks. By the session.
-/
import Derived.Test.YtikikddkhikfkaaDoorRows
import Derived.Test.YtikikddkhikfkaaDoorSu1
import Derived.Test.YtikikddkhikfkaaDoorSu10
import Derived.Test.YtikikddkhikfkaaDoorSu20
import Derived.Test.YtikikddkhikfkaaDoorSu2
set_option linter.unusedSimpArgs false
namespace Go.Proofs.YtikikddkhikfkaaDoor
open Go.RowKit

theorem infoPVal : (Tryd.prog.info? 147).map (fun i => (i.zero, i.size, i.bytes)) = some (some (.pointer none), 1, 8) := by kernel_rfl

end Go.Proofs.YtikikddkhikfkaaDoor

namespace Go.Proofs.YtikikddkhikfkaaDoor
open Go.RowKit

def mxf (x : Int) (l : List Int) : Int := l.foldl (fun m p => if m < p then p else m) x
def mnf (x : Int) (l : List Int) : Int := l.foldl (fun m p => if p < m then p else m) x
def prisOf (l : List Sd) : List Int := l.map Sd.pri
/-- the greatest less the least priority -/
def spanOf (l : List Sd) : Int := mxf (-9223372036854775808) (prisOf l) - mnf 9223372036854775807 (prisOf l)
theorem mxf_bd : ∀ (l : List Int) (x lo hi : Int), lo ≤ x → x ≤ hi → (∀ p ∈ l, p ≤ hi) → lo ≤ mxf x l ∧ mxf x l ≤ hi := by
  intro l
  induction l with
  | nil => intro x lo hi h1 h2 _; exact ⟨h1, h2⟩
  | cons p r ih =>
    intro x lo hi h1 h2 h3
    have hp := h3 p (List.mem_cons_self ..)
    simp only [mxf, List.foldl_cons]
    exact ih _ lo hi (by split <;> omega) (by split <;> omega) fun q hq => h3 q (List.mem_cons_of_mem _ hq)
theorem mnf_bd : ∀ (l : List Int) (x lo hi : Int), lo ≤ x → x ≤ hi → (∀ p ∈ l, lo ≤ p) → lo ≤ mnf x l ∧ mnf x l ≤ hi := by
  intro l
  induction l with
  | nil => intro x lo hi h1 h2 _; exact ⟨h1, h2⟩
  | cons p r ih =>
    intro x lo hi h1 h2 h3
    have hp := h3 p (List.mem_cons_self ..)
    simp only [mnf, List.foldl_cons]
    exact ih _ lo hi (by split <;> omega) (by split <;> omega) fun q hq => h3 q (List.mem_cons_of_mem _ hq)
/-- with all priorities between lo and hi: the span -/
theorem span_bd (l : List Sd) (lo hi : Int) (hl : -9223372036854775808 ≤ lo) (hh : hi ≤ 9223372036854775807) (hne : l ≠ []) (h : ∀ s ∈ l, lo ≤ s.pri ∧ s.pri ≤ hi) : 0 ≤ spanOf l ∧ spanOf l ≤ hi - lo := by
  cases l with
  | nil => exact absurd rfl hne
  | cons s r =>
    obtain ⟨h1, h2⟩ := h s (List.mem_cons_self ..)
    have a := mxf_bd (prisOf r) s.pri s.pri hi (Int.le_refl _) h2 (fun p hp => by
      obtain ⟨x, hx, rfl⟩ := List.mem_map.1 hp
      exact (h x (List.mem_cons_of_mem _ hx)).2)
    have b := mnf_bd (prisOf r) s.pri lo s.pri h1 (Int.le_refl _) (fun p hp => by
      obtain ⟨x, hx, rfl⟩ := List.mem_map.1 hp
      exact (h x (List.mem_cons_of_mem _ hx)).1)
    have e1 : mxf (-9223372036854775808) (prisOf (s :: r)) = mxf s.pri (prisOf r) := by
      simp only [mxf, prisOf, List.map_cons, List.foldl_cons]
      congr 1
      split <;> omega
    have e2 : mnf 9223372036854775807 (prisOf (s :: r)) = mnf s.pri (prisOf r) := by
      simp only [mnf, prisOf, List.map_cons, List.foldl_cons]
      congr 1
      split <;> omega
    unfold spanOf
    rw [e1, e2]
    omega

theorem mxf_snoc (x : Int) (l : List Int) (p : Int) : mxf x (l ++ [p]) = if mxf x l < p then p else mxf x l := by unfold mxf; rw [List.foldl_append]; rfl
theorem mnf_snoc (x : Int) (l : List Int) (p : Int) : mnf x (l ++ [p]) = if p < mnf x l then p else mnf x l := by unfold mnf; rw [List.foldl_append]; rfl

/-- every priority divided -/
def divP (r : Int) (s : Sd) : Sd := { s with pri := s.pri.tdiv r }
/-- scaled, as the package has it -/
def scaleL (apart : Int) (l : List Sd) : List Sd :=
  if apart ≤ 0 then l else if apart < spanOf l then l.map (divP ((spanOf l + apart - 1) / apart)) else l
def onX (f : Sd → Sd) (t : Tv) : Tv := { t with x := f t.x }
theorem onX_map (f : Sd → Sd) (ts : List Tv) : (ts.map (onX f)).map Tv.x = (ts.map Tv.x).map f := by simp [onX, Function.comp_def]

end Go.Proofs.YtikikddkhikfkaaDoor
