/-
  Part of the plain law of FnFair: no program runs here. By the session.
-/
import Derived.Test.YtikikddkhikfkaaFair
namespace Fair

/-- all lists of r numbers, falling from m on, each at least lo, in front of acc -/
def allD (f : List Nat → Bool) (lo : Nat) : Nat → Nat → List Nat → Bool
  | 0, _, acc => f acc
  | r + 1, m, acc => (List.range (m + 1 - lo)).all fun v => allD f lo r (lo + v) ((lo + v) :: acc)

theorem allD_sound {f : List Nat → Bool} {lo : Nat} : ∀ (r m : Nat) (acc : List Nat), allD f lo r m acc = true → ∀ (w : Nat → Nat), (∀ i, i < r → lo ≤ w i ∧ w i ≤ m) → (∀ i k, i ≤ k → k < r → w k ≤ w i) →
    f (((List.range r).map w).reverse ++ acc) = true := by
  intro r
  induction r with
  | zero => intro m acc h w _ _; simpa [allD] using h
  | succ r ih =>
    intro m acc h w hw hs
    simp only [allD, List.all_eq_true, List.mem_range] at h
    have h0 := hw 0 (by omega)
    have := h (w 0 - lo) (by omega)
    have e : lo + (w 0 - lo) = w 0 := by omega
    rw [e] at this
    have := ih (w 0) (w 0 :: acc) this (fun i => w (i + 1)) (fun i hi => ⟨(hw (i + 1) (by omega)).1, hs 0 (i + 1) (by omega) (by omega)⟩) (fun i k hik hk => hs (i + 1) (k + 1) (by omega) (by omega))
    have e2 : (List.range (r + 1)).map w = w 0 :: (List.range r).map fun i => w (i + 1) := by
      rw [List.range_succ_eq_map]; simp [Function.comp_def]
    rw [e2]; simpa using this

/-- the bound in numbers: the heavier ones rising, the last one weighs 1 -/
def gn (T : Nat) : List Nat → Nat → Nat → Nat
  | [], _, g => g
  | x :: r, A, g => match r with
    | [] => g
    | y :: s => gn T (y :: s) (A - (x - 1)) (max ((s.length + 1) * T) ((s.length + 1) * (g + A) / (s.length + 2)))

theorem rev_range (w : Nat → Nat) (m : Nat) : ((List.range (m + 1)).map w).reverse = w m :: ((List.range m).map w).reverse := by
  rw [List.range_succ]; simp

theorem gn_G {T : Nat} {w : Nat → Nat} {h : Nat} {gh : Int} (hw : ∀ i, i < h → 1 ≤ w i) : ∀ (m A g : Nat), m + 1 ≤ h → (A : Int) = sm (m + 1) (fun i => (w i : Int) - 1) → (g : Int) = G T (fun i => (w i : Int) - 1) h gh (h - (m + 1)) →
    (gn T ((List.range (m + 1)).map w).reverse A g : Int) = G T (fun i => (w i : Int) - 1) h gh (h - 1) := by
  intro m
  induction m with
  | zero => intro A g _ _ hg; simpa [gn] using hg
  | succ m ih =>
    intro A g hm hA hg
    have e := rev_range w (m + 1)
    rw [rev_range w m] at e
    rw [e]
    show (gn T (w m :: ((List.range m).map w).reverse) (A - (w (m + 1) - 1)) _ : Int) = _
    rw [← rev_range w m]
    have h1 := hw (m + 1) (by omega)
    simp only [sm] at hA
    have hs : 0 ≤ sm (m + 1) (fun i => (w i : Int) - 1) := sm_nonneg fun i hi => by have := hw i (by omega); omega
    refine ih _ _ (by omega) (by simp only [sm] at hs ⊢; omega) ?_
    have e3 : h - (m + 1) = (h - (m + 1 + 1)) + 1 := by omega
    rw [e3]
    simp only [G]
    rw [← hg]
    have e4 : h - (h - (m + 1 + 1)) = m + 1 + 1 := by omega
    rw [e4]
    have e5 : (h : Int) - (((h - (m + 1 + 1) : Nat) : Int) + 1) = (m + 1 : Int) := by omega
    rw [e5]
    have e6 : sm (m + 1 + 1) (fun i => (w i : Int) - 1) = (A : Int) := by simp only [sm]; omega
    rw [e6]
    have e7 : (((List.range m).map w).reverse).length = m := by simp
    rw [e7]
    push_cast
    have e8 : ((m : Int) + 1 + 1) = (m : Int) + 2 := by omega
    rw [e8]
    have e9 : ∀ a b : Nat, ((max a b : Nat) : Int) = max (a : Int) b := fun a b => by omega
    rw [e9]
    push_cast
    rfl

/-- the turns in numbers: all states that ties let be -/
def nexts (T : Nat) (ws ps : List Nat) : List (List Nat) :=
  let qs := ps.zipWith (· + ·) ws
  (List.range ws.length).filterMap fun c =>
    if qs.all (fun q => Nat.ble q (qs.getD c 0)) && (List.range c).all (fun i => !(ws.getD i 0 == ws.getD c 0 && qs.getD i 0 == qs.getD c 0)) then some (qs.set c (qs.getD c 0 - T)) else none
def wide (T : Nat) (ps : List Nat) : Bool := ps.all fun x => ps.all fun y => Nat.ble x (y + 2 * T)
def once : List (List Nat) → List (List Nat)
  | [] => []
  | s :: r => if (once r).contains s then once r else s :: once r
def sim (T : Nat) (ws : List Nat) : Nat → List (List Nat) → Bool
  | 0, st => st.all (wide T)
  | k + 1, st => st.all (wide T) && sim T ws k (once (st.flatMap (nexts T ws)))

theorem mem_once {s : List Nat} : ∀ {l : List (List Nat)}, s ∈ l → s ∈ once l := by
  intro l
  induction l with
  | nil => intro h; cases h
  | cons x r ih =>
    intro h
    simp only [once]
    rcases List.mem_cons.1 h with rfl | h
    · split
      · rename_i hc; simpa using hc
      · exact List.mem_cons_self ..
    · split
      · exact ih h
      · exact List.mem_cons_of_mem _ (ih h)

inductive Turns (n : Nat) (w : Nat → Int) (T : Int) : Nat → (Nat → Int) → (Nat → Int) → Prop
  | refl (p : Nat → Int) : Turns n w T 0 p p
  | head {t : Nat} {p p1 p2 : Nat → Int} {c : Nat} : Turn n w T p p1 c → Turns n w T t p1 p2 → Turns n w T (t + 1) p p2

theorem Inv.turns {n : Nat} {w : Nat → Int} {T : Int} (hs : Set_ n w T) {t : Nat} {p p' : Nat → Int} (h : Turns n w T t p p') (hi : Inv n w T p) : Inv n w T p' := by
  induction h with
  | refl p => exact hi
  | head ht _ ih => exact ih (hi.turn hs ht)

def enc (n T : Nat) (p : Nat → Int) : List Nat := (List.range n).map fun i => (p i + T).toNat
theorem enc_get {n T : Nat} {p : Nat → Int} {i : Nat} (hi : i < n) : (enc n T p).getD i 0 = (p i + T).toNat := by
  simp [enc, List.getD_eq_getElem?_getD, hi]

theorem Inv.ge {n : Nat} {w : Nat → Int} {T : Int} {p : Nat → Int} (hs : Set_ n w T) (hi : Inv n w T p) (j : Nat) (hj : j < n) : 0 < p j + T := by
  have h := hi.low j hj
  have hpos := hs.pos
  have hn : (n : Int) ≤ T := by
    have := sm_le (n := n) (f := fun _ => 1) (g := w) hs.one
    rw [sm_const, hs.all] at this; omega
  have : 1 ≤ (T + n - 1) / n := (Int.le_ediv_iff_mul_le (by omega)).2 (by omega)
  omega

theorem mem_nexts {n T : Nat} {w : Nat → Nat} {p p' : Nat → Int} {c : Nat} (hs : Set_ n (fun i => (w i : Int)) T) (hi : Inv n (fun i => (w i : Int)) T p) (ht : Turn n (fun i => (w i : Int)) T p p' c) :
    enc n T p' ∈ nexts T ((List.range n).map w) (enc n T p) := by
  have hq : ∀ i, i < n → ((enc n T p).zipWith (· + ·) ((List.range n).map w)).getD i 0 = (p i + w i + T).toNat := by
    intro i hin
    have := hi.ge hs i hin
    simp only [enc, List.getD_eq_getElem?_getD, List.getElem?_zipWith, List.getElem?_map, List.getElem?_range hin, Option.map_some, Option.getD_some]
    omega
  have hlen : ((enc n T p).zipWith (· + ·) ((List.range n).map w)).length = n := by simp [enc]
  have hwd : ∀ i, i < n → ((List.range n).map w).getD i 0 = w i := by
    intro i hin
    simp [List.getD_eq_getElem?_getD, hin]
  unfold nexts
  simp only [List.mem_filterMap, List.mem_range, List.length_map, List.length_range]
  refine ⟨c, ht.lt, ?_⟩
  generalize hqs : (enc n T p).zipWith (· + ·) ((List.range n).map w) = qs at hq hlen ⊢
  rw [if_pos]
  · congr 1
    have hc := ht.lt
    refine List.ext_getElem? fun i => ?_
    by_cases hin : i < n
    · have hge : qs[i]? = some (qs.getD i 0) := by
        rw [List.getD_eq_getElem?_getD, List.getElem?_eq_getElem (by omega)]; rfl
      have hR : (enc n T p')[i]? = some ((p' i + T).toNat) := by simp [enc, hin]
      rw [hR, List.getElem?_set]
      have hgei := hi.ge hs i hin
      have hnx := ht.next i hin
      by_cases e : c = i
      · subst e
        rw [if_pos rfl, if_pos (by omega), hq c hin, hnx, if_pos rfl]
        have : 0 < p c + w c := by
          have hx := hi.turn hs ht
          have := hx.ge hs c hin
          rw [hnx, if_pos rfl] at this; omega
        congr 1; omega
      · rw [if_neg e, hge, hq i hin, hnx, if_neg (by omega)]
        congr 1; omega
    · rw [List.getElem?_eq_none (by simp; omega), List.getElem?_eq_none (by simp [enc]; omega)]
  · simp only [Bool.and_eq_true, List.all_eq_true, List.mem_range]
    refine ⟨fun x hx => ?_, fun i hic => ?_⟩
    · obtain ⟨i, hil, rfl⟩ := List.getElem_of_mem hx
      have hin : i < n := by omega
      have e : qs[i] = qs.getD i 0 := by rw [List.getD_eq_getElem?_getD, List.getElem?_eq_getElem hil]; rfl
      rw [e, hq i hin, hq c ht.lt, Nat.ble_eq]
      have := ht.most i hin
      omega
    · have hc := ht.lt
      rw [hwd i (by omega), hwd c hc, hq i (by omega), hq c hc]
      rw [Bool.not_eq_true', Bool.and_eq_false_iff]
      by_cases e : w i = w c
      · right
        have := ht.first i hic (by simp [e])
        have h1 := hi.ge hs i (by omega)
        have h2 := hi.ge hs c (by omega)
        simp only [beq_eq_false_iff_ne, ne_eq]
        omega
      · left
        simpa using e

theorem sim_sound {n T : Nat} {w : Nat → Nat} (hs : Set_ n (fun i => (w i : Int)) T) : ∀ (k : Nat) (st : List (List Nat)), sim T ((List.range n).map w) k st = true → ∀ (t : Nat) (p p' : Nat → Int), t ≤ k → Turns n (fun i => (w i : Int)) T t p p' → Inv n (fun i => (w i : Int)) T p → enc n T p ∈ st →
    wide T (enc n T p') = true := by
  intro k
  induction k with
  | zero =>
    intro st h t p p' ht hp _ hm
    cases hp with
    | refl => simp only [sim, List.all_eq_true] at h; exact h _ hm
    | head => omega
  | succ k ih =>
    intro st h t p p' ht hp hi hm
    simp only [sim, Bool.and_eq_true, List.all_eq_true] at h
    cases hp with
    | refl => exact h.1 _ hm
    | head h1 h2 => exact ih _ h.2 _ _ _ (by omega) h2 (hi.turn hs h1) (mem_once (List.mem_flatMap.2 ⟨_, hm, mem_nexts hs hi h1⟩))

theorem wide_le {n T : Nat} {p : Nat → Int} (h : wide T (enc n T p) = true) (hp : ∀ i, i < n → 0 < p i + T) : ∀ i j, i < n → j < n → p i - p j ≤ 2 * T := by
  intro i j hi hj
  simp only [wide, List.all_eq_true, Nat.ble_eq] at h
  have := h (p i + T).toNat (by simp only [enc, List.mem_map, List.mem_range]; exact ⟨i, hi, rfl⟩) (p j + T).toNat (by simp only [enc, List.mem_map, List.mem_range]; exact ⟨j, hj, rfl⟩)
  have := hp i hi; have := hp j hj
  omega
end Fair
