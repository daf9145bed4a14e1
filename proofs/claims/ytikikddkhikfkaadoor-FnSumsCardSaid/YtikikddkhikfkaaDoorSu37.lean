/-
  The set's power and its mean priority: updateTotalVotingPower, TotalVotingPower, computeAvgProposerPriority: walks. By the session. computeAvgProposerPriority, shiftByAvgProposerPriority: walks. By the session. shiftByAvgProposerPriority, getValWithMostPriority: walks. By the session. incrementProposerPriority: the walk. By the session.
-/
import Derived.Test.YtikikddkhikfkaaDoorSu36
import Derived.Test.YtikikddkhikfkaaDoorSu21
import Derived.Test.YtikikddkhikfkaaDoorSu20
import Derived.Test.YtikikddkhikfkaaDoorSu10
set_option linter.unusedSimpArgs false
namespace Go.Proofs.YtikikddkhikfkaaDoor
open Go.RowKit

def powsOf (l : List Sd) : List Int := l.map Sd.pow
def sumI (l : List Int) : Int := l.foldl (· + ·) 0
theorem sumI_snoc (l : List Int) (x : Int) : sumI (l ++ [x]) = sumI l + x := by unfold sumI; rw [List.foldl_append]; rfl
theorem sumI_acc (l : List Int) (a : Int) : l.foldl (· + ·) a = a + sumI l := by
  unfold sumI
  induction l generalizing a with
  | nil => simp
  | cons x r ih => simp only [List.foldl_cons]; rw [ih (a + x), ih (0 + x)]; omega
theorem sumI_cons (l : List Int) (x : Int) : sumI (x :: l) = x + sumI l := by
  unfold sumI; rw [List.foldl_cons, sumI_acc]; unfold sumI; omega
theorem sumI_bd (l : List Int) (lo hi : Int) (h : ∀ x ∈ l, lo ≤ x ∧ x ≤ hi) : l.length * lo ≤ sumI l ∧ sumI l ≤ l.length * hi := by
  induction l with
  | nil => simp [sumI]
  | cons x r ih =>
    have h1 := h x (List.mem_cons_self ..)
    have h2 := ih fun y hy => h y (List.mem_cons_of_mem _ hy)
    rw [sumI_cons, List.length_cons, Int.natCast_add, Int.add_mul, Int.add_mul]
    omega
/-- the power of all -/
def totL (l : List Sd) : Int := sumI (powsOf l)
/-- the mean priority, to the lower whole number -/
def avgL (l : List Sd) : Int := sumI (prisOf l) / l.length

theorem map_take_succ {f : Sd → Int} {ts : List Tv} {k : Nat} {t : Tv} (ht : ts[k]? = some t) : ((ts.map Tv.x).map f).take (k + 1) = ((ts.map Tv.x).map f).take k ++ [f t.x] := by
  have h := List.getElem?_eq_some_iff.1 ht
  have hl : k < ((ts.map Tv.x).map f).length := by simp; exact h.1
  rw [List.take_succ_eq_append_getElem hl]
  have := h.2
  simp [this]

set_option maxRecDepth 100000 in
set_option maxHeartbeats 1600000 in
theorem updTotal_any (lo g : Nat) (A : Option Addr) (c : Nat) (bs : List Nat) (ts : List Tv) (prop : Value) (tot : Int) (same : Bool) (w : World) (h : VSet w lo g A c bs ts prop tot same) (hn : bs.length ≤ 1000)
    (hp : ∀ t ∈ ts, 0 ≤ t.x.pow ∧ t.x.pow ≤ 1125899906842624) :
    Calls Tryd.prog 79 #[ptrTo g] w fun e w' => e = .returned (.tuple #[]) ∧ w' = w.setCell ⟨g, 2, none⟩ (.int .i64 (totL (ts.map Tv.x))) := by
  unfold ptrTo
  have h0 : w.cell? ⟨g, 0, none⟩ = some (.slice A bs.length c) := h.head.cell 0
  have h2 : w.cell? ⟨g, 2, none⟩ = some (.int .i64 tot) := h.head.cell 2
  have hf := h.head.free 2
  have H := Lib.hid h; have HP := Lib.hid hp; clear h hp
  go_enter Tryd.func79, Tryd.ntmps79
  go_wp2
  go_loop [2, 10] (fun s i => ∃ k : Nat, k ≤ bs.length ∧ i = .int .i64 k ∧ s = .int .i64 (sumI ((powsOf (ts.map Tv.x)).take k))) (fun _ i => bs.length - (intOf i).toNat)
  case atStart => exact ⟨0, Nat.zero_le _, rfl, rfl⟩
  case round =>
    obtain ⟨k, hk, rfl, rfl⟩ := hrel
    by_cases hlt : k < bs.length
    · obtain ⟨b, t, hb, ht⟩ := H.out.at_ hlt
      obtain ⟨r, rfl, _, hp⟩ := H.out.ptr hb
      obtain ⟨_, hbv, hok⟩ := H.out.vals k b t hb ht
      obtain ⟨c0, c1, c2, c3⟩ := t.val_cells hbv
      have hst : (powsOf (ts.map Tv.x)).take (k + 1) = (powsOf (ts.map Tv.x)).take k ++ [t.x.pow] := map_take_succ ht
      have hpt := HP.out t (List.mem_of_getElem? ht)
      have hbd := sumI_bd ((powsOf (ts.map Tv.x)).take k) 0 1125899906842624 (fun x hx => by
        obtain ⟨s, hs, rfl⟩ := List.mem_map.1 (List.mem_of_mem_take hx)
        obtain ⟨u, hu, rfl⟩ := List.mem_map.1 hs
        exact HP.out u hu)
      have hlen : ((powsOf (ts.map Tv.x)).take k).length ≤ k := List.length_take_le _ _
      generalize ((powsOf (ts.map Tv.x)).take k).length = m at *
      have hs := sumI_snoc ((powsOf (ts.map Tv.x)).take k) t.x.pow
      rw [← hst] at hs
      generalize sumI ((powsOf (ts.map Tv.x)).take k) = s at *
      have hcl : clip (s + t.x.pow) = s + t.x.pow := clip_of ⟨by omega, by omega⟩
      have kc := fun W => addClip_any s t.x.pow W ⟨by omega, by omega⟩ ⟨by omega, by omega⟩
      rw [hcl] at kc
      have HS := Lib.hid hs; have HBV := Lib.hid hbv; have HOK := Lib.hid hok
      have KC := Lib.hid kc; clear kc hcl hs hbv hok hst hb ht
      go_wp2_with fail
      refine (KC.out _).mono ?_
      rintro e w1 ⟨rfl, rfl⟩
      go_wp2
      go_round
      case rel => exact ⟨k + 1, by omega, by go_num, by rw [HS.out]⟩
      case measure => simp [intOf]; omega
    · have hkn : k = bs.length := by omega
      have hsum : sumI ((powsOf (ts.map Tv.x)).take k) = totL (ts.map Tv.x) := by
        unfold totL; rw [List.take_of_length_le (by simp [powsOf, H.out.len]; omega)]
      rw [hsum]
      clear hsum
      go_wp2
      go_end0
      exact ⟨rfl, rfl⟩

/-- TotalVotingPower, where the total is cached -/
theorem tot_any (lo g : Nat) (A : Option Addr) (c : Nat) (bs : List Nat) (ts : List Tv) (prop : Value) (tot : Int) (same : Bool) (w : World) (h : VSet w lo g A c bs ts prop tot same) (h0 : tot ≠ 0) :
    Calls Tryd.prog 47 #[ptrTo g] w fun e w' => e = .returned (.int .i64 tot) ∧ w = w' := by
  unfold ptrTo
  have h2 : w.cell? ⟨g, 2, none⟩ = some (.int .i64 tot) := h.head.cell 2
  have hz : (tot == 0) = false := by simpa using h0
  clear h
  go_enter Tryd.func47, Tryd.ntmps47
  go_wp2
  go_ret
  exact ⟨rfl, rfl⟩
/-- TotalVotingPower, where it is not -/
theorem tot_new (lo g : Nat) (A : Option Addr) (c : Nat) (bs : List Nat) (ts : List Tv) (prop : Value) (same : Bool) (w : World) (h : VSet w lo g A c bs ts prop 0 same) (hn : bs.length ≤ 1000)
    (hp : ∀ t ∈ ts, 0 ≤ t.x.pow ∧ t.x.pow ≤ 1125899906842624) :
    Calls Tryd.prog 47 #[ptrTo g] w fun e w' => e = .returned (.int .i64 (totL (ts.map Tv.x))) ∧ w' = w.setCell ⟨g, 2, none⟩ (.int .i64 (totL (ts.map Tv.x))) := by
  have KC := Lib.hid (updTotal_any lo g A c bs ts prop 0 same w h hn hp)
  unfold ptrTo at *
  have h2 : w.cell? ⟨g, 2, none⟩ = some (.int .i64 0) := h.head.cell 2
  have h3 : (w.setCell ⟨g, 2, none⟩ (.int .i64 (totL (ts.map Tv.x)))).cell? ⟨g, 2, none⟩ = some (.int .i64 (totL (ts.map Tv.x))) := (h.setTot _).head.cell 2
  clear h
  go_enter Tryd.func47, Tryd.ntmps47
  go_wp2_with fail
  refine KC.out.mono ?_
  rintro e w1 ⟨rfl, rfl⟩
  go_wp2
  go_ret
  exact ⟨rfl, rfl⟩
end Go.Proofs.YtikikddkhikfkaaDoor

set_option linter.unusedSimpArgs false
namespace Go.Proofs.YtikikddkhikfkaaDoor
open Go.RowKit

/-- a whole number's upper and lower 64 bits -/
def hiOf (s : Int) : Int := s / 18446744073709551616 % 18446744073709551616
def loOf (s : Int) : Int := s % 18446744073709551616
theorem wu64 (x : Int) : IntKind.u64.wrap x = x % 18446744073709551616 := by simp [IntKind.wrap, IntKind.bits, IntKind.signed]

end Go.Proofs.YtikikddkhikfkaaDoor

set_option linter.unusedSimpArgs false
namespace Go.Proofs.YtikikddkhikfkaaDoor
open Go.RowKit

/-- a priority less so much, within 64 bits -/
def subP (a : Int) (s : Sd) : Sd := { s with pri := clip (s.pri - a) }
/-- a priority and so much of the power's, within 64 bits -/
def addP (s : Sd) : Sd := { s with pri := clip (s.pri + s.pow) }
def shiftL (l : List Sd) : List Sd := l.map (subP (avgL l))
theorem avgL_bd (l : List Sd) (hne : l ≠ []) (B : Int) (h : ∀ s ∈ l, -B ≤ s.pri ∧ s.pri ≤ B) : -B ≤ avgL l ∧ avgL l ≤ B := by
  have hl : 0 < (l.length : Int) := by have := List.length_pos_iff.2 hne; omega
  have hb := sumI_bd (prisOf l) (-B) B (fun x hx => by
    obtain ⟨s, hs, rfl⟩ := List.mem_map.1 hx
    exact h s hs)
  have e : (prisOf l).length = l.length := by simp [prisOf]
  rw [e] at hb
  unfold avgL
  constructor
  · rw [Int.le_ediv_iff_mul_le hl, Int.mul_comm]; exact hb.1
  · have := Int.ediv_le_ediv hl hb.2
    rw [Int.mul_ediv_cancel_left _ (by omega)] at this
    exact this

/-- no two have one address -/
def distinct (l : List Sd) : Prop := ∀ (i j : Nat) (x y : Sd), l[i]? = some x → l[j]? = some y → i ≠ j → x.adr.toList ≠ y.adr.toList

end Go.Proofs.YtikikddkhikfkaaDoor

set_option linter.unusedSimpArgs false
namespace Go.Proofs.YtikikddkhikfkaaDoor
open Go.RowKit

/-- one turn, the power of all being T -/
def turnOf (T : Int) (l : List Sd) : List Sd :=
  match propOf (l.map addP) with
  | none => l.map addP
  | some q => (l.map addP).set q.2 (subP T q.1)
theorem distinct_map {l : List Sd} (h : distinct l) (f : Sd → Sd) (hf : ∀ s, (f s).adr = s.adr) : distinct (l.map f) := by
  intro i j x y hx hy hij
  rw [List.getElem?_map] at hx hy
  cases hi : l[i]? with
  | none => rw [hi] at hx; simp at hx
  | some a =>
    cases hj : l[j]? with
    | none => rw [hj] at hy; simp at hy
    | some b =>
      rw [hi] at hx; rw [hj] at hy
      simp only [Option.map_some, Option.some.injEq] at hx hy
      subst hx; subst hy
      rw [hf, hf]
      exact h i j a b hi hj hij
/-- where the one ahead stands -/
theorem propOf_at (l : List Sd) (hne : l ≠ []) : ∃ q, propOf l = some q ∧ l[q.2]? = some q.1 := by
  have : ∀ k, k ≤ l.length → (k ≠ 0 → (l.zipIdx.take k).foldl pstep none ≠ none) ∧ (∀ q, (l.zipIdx.take k).foldl pstep none = some q → l[q.2]? = some q.1) := by
    intro k
    induction k with
    | zero => intro _; exact ⟨fun h => absurd rfl h, fun q h => by simp at h⟩
    | succ k ih =>
      intro hk
      obtain ⟨h1, h2⟩ := ih (by omega)
      have hx : l.zipIdx[k]? = some (l[k], k) := by rw [List.getElem?_zipIdx, List.getElem?_eq_getElem (by omega)]; simp
      rw [foldl_take_succ pstep none l.zipIdx k _ hx]
      cases hb : (l.zipIdx.take k).foldl pstep none with
      | none =>
        refine ⟨fun _ h => by simp [pstep] at h, fun q h => ?_⟩
        simp only [pstep, Option.some.injEq] at h
        subst h
        exact List.getElem?_eq_getElem (by omega)
      | some p =>
        refine ⟨fun _ h => ?_, fun q h => ?_⟩
        · simp only [pstep] at h; split at h <;> cases h
        · simp only [pstep] at h
          split at h
          · cases h; exact h2 p hb
          · cases h; exact List.getElem?_eq_getElem (by omega)
  obtain ⟨h1, h2⟩ := this l.length (Nat.le_refl _)
  rw [List.take_of_length_le (by simp)] at h1 h2
  have hl : l.length ≠ 0 := fun h => hne (List.length_eq_zero_iff.1 h)
  cases hp : l.zipIdx.foldl pstep none with
  | none => exact absurd hp (h1 hl)
  | some q => exact ⟨q, hp, h2 q hp⟩

end Go.Proofs.YtikikddkhikfkaaDoor
