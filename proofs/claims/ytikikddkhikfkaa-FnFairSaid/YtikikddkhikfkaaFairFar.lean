/-
  Part of the plain law of FnFair: no program runs here. By the session.
-/
import Derived.Test.YtikikddkhikfkaaFairLin
import Derived.Test.YtikikddkhikfkaaFairTab
namespace Fair

theorem foldr_sm (w : Nat → Nat) : ∀ h : Nat, ((((List.range h).map w).reverse.foldr (· + ·) 0 : Nat) : Int) = sm h (fun i => (w i : Int))
  | 0 => rfl
  | h + 1 => by
    rw [rev_range, List.foldr_cons]
    have := foldr_sm w h
    simp only [sm]
    omega
theorem sm_sub_one (w : Nat → Nat) (h : Nat) : sm h (fun i => (w i : Int) - 1) = sm h (fun i => (w i : Int)) - h := by
  have := sm_add h (fun i => (w i : Int)) (fun _ => -1)
  rw [sm_const] at this
  have e : sm h (fun i => (w i : Int) - 1) = sm h (fun i => (w i : Int) + -1) := sm_congr fun i _ => by omega
  rw [e, this]; omega
/-- where the others all weigh 1 -/
theorem sm_ones {n h : Nat} {w : Nat → Int} (hh : h ≤ n) (h1 : ∀ i, h ≤ i → i < n → w i = 1) : sm n w = sm h w + (n - h : Nat) := by
  induction n with
  | zero => have : h = 0 := by omega
            subst this; rfl
  | succ n ih =>
    by_cases e : h = n + 1
    · subst e; simp
    · simp only [sm]
      rw [ih (by omega) fun i hi hin => h1 i hi (by omega), h1 n (by omega) (by omega)]
      omega

theorem far_tab {n h e T : Nat} {w : Nat → Nat} (hs : Set_ n (fun i => (w i : Int)) T) (hn : n = h + 1 + e) (h0 : 1 ≤ h) (hh : ∀ i, i < h → 2 ≤ w i) (h1 : ∀ i, h ≤ i → i < n → w i = 1)
    (htab : okW e ((List.range h).map w).reverse = true) {t : Nat} {p : Nat → Int} (ht : t ≤ T) (hp : Turns n (fun i => (w i : Int)) T t (fun _ => 0) p) :
    G T (fun i => (w i : Int) - 1) h (top0 n h T) (h - 1) ≤ 2 * T ∨ ∀ i j, i < n → j < n → p i - p j ≤ 2 * T := by
  have hfs := foldr_sm w h
  have hones := sm_ones (n := n) (h := h) (w := fun i => (w i : Int)) (by omega) (fun i hi hin => by have := h1 i hi hin; omega)
  rw [hs.all] at hones
  have hT : T = ((List.range h).map w).reverse.foldr (· + ·) 0 + 1 + e := by omega
  have hsub := sm_sub_one w h
  have hge : h ≤ ((List.range h).map w).reverse.foldr (· + ·) 0 := by
    have := sm_nonneg (n := h) (f := fun i => (w i : Int) - 1) (fun i hi => by have := hh i hi; omega)
    omega
  unfold okW at htab
  simp only [List.length_reverse, List.length_map, List.length_range] at htab
  generalize ((List.range h).map w).reverse.foldr (· + ·) 0 = s at *
  rw [← hT, ← hn] at htab
  rw [Bool.or_eq_true] at htab
  rcases htab with hb | hb
  · left
    rw [Nat.ble_eq] at hb
    obtain ⟨m, rfl⟩ : ∃ m, h = m + 1 := ⟨h - 1, by omega⟩
    have hg := gn_G (T := T) (w := w) (h := m + 1) (gh := top0 n (m + 1) T) (fun i hi => by have := hh i hi; omega) m (s - (m + 1)) (if e = 0 then n * T - n * ((T + n - 1) / n) else (m + 1) * T) (Nat.le_refl _) (by omega) (by
      rw [Nat.sub_self]
      simp only [G, top0]
      by_cases he : e = 0
      · rw [if_pos he, if_pos (by omega)]
        have hc : (T + n - 1) / n ≤ T := by
          have : T + n - 1 < (T + 1) * n := by
            have h2 : T * 1 ≤ T * n := Nat.mul_le_mul_left T (by omega)
            rw [Nat.add_mul]; omega
          have := (Nat.div_lt_iff_lt_mul (show 0 < n by omega)).2 this
          omega
        have := Nat.mul_le_mul_left n hc
        have e1 : ((T : Int) + n - 1) = ((T + n - 1 : Nat) : Int) := by omega
        rw [e1]
        rw [Int.natCast_sub this, Int.natCast_mul, Int.natCast_mul, Int.natCast_ediv]
      · rw [if_neg he, if_neg (by omega), Int.natCast_mul])
    rw [← hg]
    exact_mod_cast hb
  · right
    rw [Bool.and_eq_true] at hb
    have he : e = 0 := by
      cases e with
      | zero => rfl
      | succ e => simp at hb
    subst he
    have hw : ((List.range h).map w).reverse.reverse ++ [1] = (List.range n).map w := by
      rw [List.reverse_reverse, hn, List.range_succ, List.map_append]
      simp [h1 h (Nat.le_refl _) (by omega)]
    rw [hw] at hb
    have henc : enc n T (fun _ => 0) = List.replicate n T := by
      unfold enc
      apply List.ext_getElem?
      intro i
      by_cases hi : i < n
      · simp [hi]
      · rw [List.getElem?_eq_none (by simp; omega), List.getElem?_eq_none (by simp; omega)]
    have hwd := sim_sound hs T _ hb.2 t _ _ ht hp (Inv.zero hs) (by rw [henc]; simp)
    have hiv := Inv.turns hs hp (Inv.zero hs)
    exact wide_le hwd (fun i hi => hiv.ge hs i hi)

theorem far {n T : Nat} {w : Nat → Nat} (hs : Set_ n (fun i => (w i : Int)) T) (hn8 : n ≤ 8) (h12 : ∀ i, i < n → w i ≤ 12) {t : Nat} {p : Nat → Int} (ht : t ≤ T) (hp : Turns n (fun i => (w i : Int)) T t (fun _ => 0) p) :
    ∀ i j, i < n → j < n → p i - p j ≤ 2 * T := by
  intro i j hi hj
  have hiv := Inv.turns hs hp (Inv.zero hs)
  by_cases hij : w i ≤ w j
  · have := hiv.pair i j hi hj (by omega)
    omega
  · -- h: how many are heavier than j
    have hex : ∀ m, m ≤ n → (∃ h, h ≤ m ∧ (∀ k, k < h → w j < w k) ∧ (h < m → w h ≤ w j)) := by
      intro m
      induction m with
      | zero => intro _; exact ⟨0, Nat.le_refl _, fun k hk => by omega, fun h => by omega⟩
      | succ m ih =>
        intro hm
        obtain ⟨h, g1, g2, g3⟩ := ih (by omega)
        by_cases e : h < m
        · exact ⟨h, by omega, g2, fun _ => g3 e⟩
        · obtain rfl : h = m := by omega
          by_cases e2 : w j < w h
          · refine ⟨h + 1, Nat.le_refl _, fun k hk => ?_, fun hx => by omega⟩
            by_cases e3 : k = h
            · rw [e3]; exact e2
            · exact g2 k (by omega)
          · exact ⟨h, by omega, g2, fun _ => by omega⟩
    obtain ⟨h, g1, g2, g3⟩ := hex n (Nat.le_refl _)
    have hhj : h ≤ j := by
      by_cases e : j < h
      · have := g2 j e; omega
      · omega
    have g4 : ∀ k, h ≤ k → k < n → w k ≤ w j := fun k hk hkn => by
      have := hs.sorted h k hk hkn
      have := g3 (by omega)
      omega
    have hih : i < h := by
      by_cases e : i < h
      · exact e
      · have := g4 i (by omega) hi; omega
    have hcnt : cnt h (fun k => k == i) = 1 := by
      have : ∀ m, cnt m (fun k => k == i) = if i < m then 1 else 0 := by
        intro m
        induction m with
        | zero => simp [cnt]
        | succ m ih =>
          simp only [cnt, ih, beq_iff_eq]
          split <;> split <;> (try split) <;> omega
      rw [this, if_pos hih]
    have hch := hiv.chain j hj h (fun k hk => by have := g2 k hk; omega) (fun k hk hkn => by have := g4 k hk hkn; omega) (by omega) (fun k => k == i) (h - 1) (by omega) (fun k hk => by
      have : k ≠ i := by omega
      simpa using this) (by omega)
    have hsum : sm n (on (fun k => k == i) fun k => p k - p j) = p i - p j := by
      have : sm n (on (fun k => k == i) fun k => p k - p j) = sm n (fun k => if k = i then p i - p j else 0) := sm_congr fun k _ => by
        unfold on
        by_cases e : k = i
        · subst e; simp
        · simp [e]
      rw [this, sm_one, if_pos hi]
    rw [hsum] at hch
    have hj1 := hs.one j hj
    by_cases hc : h ≤ 5 ∨ (h ≤ 7 ∧ 2 ≤ w j)
    · have hE := E_le (n := n) (h := h) (j := j) (w := fun i => (w i : Int)) (T := T) hs (fun i hi => by have := h12 i hi; omega) hj hhj (fun k hk => by have := g2 k hk; omega) (by omega) (by omega)
      have hG := (G_le (n := n) (h := h) (T := T) (a := fun i => (w i : Int) - w j) (by omega) (by omega) (fun k hk => by have := g2 k hk; omega) (h - 1) (by omega)).2
      have e1 : (h : Int) - ((h - 1 : Nat) : Int) = 1 := by omega
      rw [e1, Int.one_mul] at hG
      omega
    · have hwj : w j = 1 := by omega
      have h2 : ∀ k, k < h → 2 ≤ w k := fun k hk => by have := g2 k hk; omega
      have h1 : ∀ k, h ≤ k → k < n → w k = 1 := fun k hk hkn => by
        have := g4 k hk hkn; have := hs.one k hkn; omega
      have hsort : ∀ a b, a ≤ b → b < h → w b ≤ w a := fun a b hab hb => by have := hs.sorted a b hab (by omega); omega
      have hwj' : (w j : Int) = 1 := by omega
      rw [hwj'] at hch
      have hcase : (h = 6 ∧ n = 7) ∨ (h = 6 ∧ n = 8) ∨ (h = 7 ∧ n = 8) := by omega
      rcases hcase with ⟨rfl, rfl⟩ | ⟨rfl, rfl⟩ | ⟨rfl, rfl⟩
      · have htab := allD_sound 6 12 [] num6a w (fun k hk => ⟨h2 k hk, h12 k (by omega)⟩) hsort
        rw [List.append_nil] at htab
        rcases far_tab (e := 0) hs rfl (by omega) h2 h1 htab ht hp with hr | hr
        · omega
        · exact hr i j hi hj
      · have htab := allD_sound 6 12 [] num6b w (fun k hk => ⟨h2 k hk, h12 k (by omega)⟩) hsort
        rw [List.append_nil] at htab
        rcases far_tab (e := 1) hs rfl (by omega) h2 h1 htab ht hp with hr | hr
        · omega
        · exact hr i j hi hj
      · have htab := allD_sound 7 12 [] num7 w (fun k hk => ⟨h2 k hk, h12 k (by omega)⟩) hsort
        rw [List.append_nil] at htab
        rcases far_tab (e := 0) hs rfl (by omega) h2 h1 htab ht hp with hr | hr
        · omega
        · exact hr i j hi hj
end Fair
