/- The plain law of FnFair: the greedy turn with fixed weights. No program in sight. -/
namespace Fair

def sm : Nat → (Nat → Int) → Int
  | 0, _ => 0
  | n + 1, f => sm n f + f n

theorem sm_congr {n : Nat} {f g : Nat → Int} (h : ∀ i, i < n → f i = g i) : sm n f = sm n g := by
  induction n with
  | zero => rfl
  | succ n ih => simp only [sm]; rw [ih fun i hi => h i (by omega), h n (by omega)]
theorem sm_add (n : Nat) (f g : Nat → Int) : sm n (fun i => f i + g i) = sm n f + sm n g := by
  induction n with
  | zero => rfl
  | succ n ih => simp only [sm]; rw [ih]; omega
theorem sm_mulc (n : Nat) (c : Int) (f : Nat → Int) : sm n (fun i => c * f i) = c * sm n f := by
  induction n with
  | zero => simp [sm]
  | succ n ih => simp only [sm]; rw [ih, Int.mul_add]
theorem sm_le {n : Nat} {f g : Nat → Int} (h : ∀ i, i < n → f i ≤ g i) : sm n f ≤ sm n g := by
  induction n with
  | zero => exact Int.le_refl _
  | succ n ih => simp only [sm]; have := ih fun i hi => h i (by omega); have := h n (by omega); omega
theorem sm_const (n : Nat) (c : Int) : sm n (fun _ => c) = n * c := by
  induction n with
  | zero => simp [sm]
  | succ n ih => simp only [sm]; rw [ih]; rw [Int.natCast_succ, Int.add_mul]; omega
theorem sm_one (n k : Nat) (v : Int) : sm n (fun i => if i = k then v else 0) = if k < n then v else 0 := by
  induction n with
  | zero => simp [sm]
  | succ n ih =>
    simp only [sm]; rw [ih]
    by_cases h1 : k < n
    · rw [if_pos h1, if_neg (by omega), if_pos (by omega)]; omega
    · by_cases h2 : n = k
      · rw [if_neg h1, if_pos h2, if_pos (by omega)]; omega
      · rw [if_neg h1, if_neg h2, if_neg (by omega)]; omega
theorem sm_nonneg {n : Nat} {f : Nat → Int} (h : ∀ i, i < n → 0 ≤ f i) : 0 ≤ sm n f := by
  have := sm_le (n := n) (f := fun _ => 0) (g := f) h
  rw [sm_const] at this; omega

/-- the part of f over S -/
def on (S : Nat → Bool) (f : Nat → Int) : Nat → Int := fun i => if S i then f i else 0
def cnt (n : Nat) (S : Nat → Bool) : Nat := match n with
  | 0 => 0
  | n + 1 => cnt n S + if S n then 1 else 0
theorem cnt_le (n : Nat) (S : Nat → Bool) : cnt n S ≤ n := by
  induction n with
  | zero => exact Nat.le_refl _
  | succ n ih => simp only [cnt]; split <;> omega
theorem sm_on_const (n : Nat) (S : Nat → Bool) (c : Int) : sm n (on S fun _ => c) = cnt n S * c := by
  induction n with
  | zero => simp [sm, cnt]
  | succ n ih =>
    simp only [sm, cnt, ih, on]
    cases S n
    · simp
    · simp [Int.add_mul]
theorem sm_on_le {n : Nat} {S : Nat → Bool} {f g : Nat → Int} (h : ∀ i, i < n → S i = true → f i ≤ g i) : sm n (on S f) ≤ sm n (on S g) := by
  refine sm_le fun i hi => ?_
  unfold on
  cases hs : S i
  · simp
  · simpa using h i hi hs
theorem sm_on_add (n : Nat) (S : Nat → Bool) (f g : Nat → Int) : sm n (on S fun i => f i + g i) = sm n (on S f) + sm n (on S g) := by
  rw [← sm_add]
  refine sm_congr fun i _ => ?_
  simp only [on]; split <;> omega
/-- the greatest parts stand first -/
theorem top {h : Nat} {S : Nat → Bool} {a : Nat → Int} (ha : ∀ i k, i ≤ k → k < h → a k ≤ a i) : sm h (on S a) ≤ sm (cnt h S) a := by
  induction h with
  | zero => exact Int.le_refl _
  | succ h ih =>
    have := ih fun i k hik hk => ha i k hik (by omega)
    simp only [sm, cnt, on]
    cases S h
    · simpa using this
    · simp only [if_true, sm]
      have := ha (cnt h S) h (cnt_le h S) (by omega)
      omega
def ins (S : Nat → Bool) (m : Nat) : Nat → Bool := fun i => S i || i == m
theorem cnt_ins {n : Nat} {S : Nat → Bool} {m : Nat} (hm : S m = false) : cnt n (ins S m) = cnt n S + if m < n then 1 else 0 := by
  induction n with
  | zero => simp [cnt]
  | succ n ih =>
    simp only [cnt, ih, ins]
    by_cases h : n = m
    · subst h; simp [hm]
    · have : (n == m) = false := by simpa using h
      simp only [this, Bool.or_false]
      have e : (m < n + 1) ↔ (m < n) := by omega
      simp only [e]
      omega
theorem sm_ins {n : Nat} {S : Nat → Bool} {m : Nat} (hm : S m = false) (hn : m < n) (f : Nat → Int) : sm n (on (ins S m) f) = sm n (on S f) + f m := by
  have : sm n (on (ins S m) f) = sm n (on S f) + sm n (fun i => if i = m then f m else 0) := by
    rw [← sm_add]
    refine sm_congr fun i _ => ?_
    unfold on ins
    by_cases h : i = m
    · subst h; simp [hm]
    · have : (i == m) = false := by simpa using h
      simp [h]
  rw [this, sm_one, if_pos hn]

/-- one turn -/
structure Turn (n : Nat) (w : Nat → Int) (T : Int) (p p' : Nat → Int) (c : Nat) : Prop where
  lt : c < n
  most : ∀ i, i < n → p i + w i ≤ p c + w c
  first : ∀ i, i < c → w i = w c → p i + w i < p c + w c
  next : ∀ i, i < n → p' i = p i + w i - if i = c then T else 0

/-- the bounds on sums of k distances to a seat, from h down -/
def G (T : Int) (a : Nat → Int) (h : Nat) (gh : Int) : Nat → Int
  | 0 => gh
  | d + 1 =>   -- k = h - (d + 1)
    let k : Int := (h : Int) - (d + 1)
    max (k * T) ((k * (G T a h gh d + sm (h - d) a)) / (k + 1))

structure Set_ (n : Nat) (w : Nat → Int) (T : Int) : Prop where
  pos : 1 ≤ n
  one : ∀ i, i < n → 1 ≤ w i
  sorted : ∀ i k, i ≤ k → k < n → w k ≤ w i
  all : sm n w = T

/-- how many are heavier than seat j -/
def heavier (n : Nat) (w : Nat → Int) (j : Nat) : Nat := cnt n fun i => decide (w j < w i)
/-- the first bound: all that are heavier -/
def top0 (n h : Nat) (T : Int) : Int := if h + 1 = n then n * T - n * ((T + n - 1) / n) else h * T

structure Inv (n : Nat) (w : Nat → Int) (T : Int) (p : Nat → Int) : Prop where
  sum : sm n p = 0
  low : ∀ j, j < n → (T + n - 1) / n ≤ p j + T
  pair : ∀ m j, m < n → j < n → w m ≤ w j → p m - p j ≤ T
  chain : ∀ j, j < n → ∀ h, (∀ i, i < h → w j < w i) → (∀ i, h ≤ i → i < n → w i ≤ w j) → h ≤ n → ∀ (S : Nat → Bool) (d : Nat), cnt h S + d = h → (∀ i, h ≤ i → S i = false) → 1 ≤ cnt h S →
    sm n (on S fun i => p i - p j) ≤ G T (fun i => w i - w j) h (top0 n h T) d

theorem ceil_le {a : Int} {n : Nat} {x : Int} (hn : 1 ≤ n) (h : a ≤ n * x) : (a + n - 1) / n ≤ x := by
  have hn' : (0 : Int) < n := by omega
  have : (a + n - 1) / n < x + 1 := by
    rw [Int.ediv_lt_iff_lt_mul hn', Int.add_mul, Int.mul_comm x]
    omega
  omega
theorem cnt_pos {n : Nat} {S : Nat → Bool} {i : Nat} (h : i < n) (hi : S i = true) : 1 ≤ cnt n S := by
  induction n with
  | zero => omega
  | succ n ih =>
    simp only [cnt]
    by_cases e : i = n
    · subst e; simp [hi]
    · have := ih (by omega); omega
theorem cnt_full {n : Nat} {S : Nat → Bool} (h : cnt n S = n) : ∀ i, i < n → S i = true := by
  induction n with
  | zero => intro i hi; omega
  | succ n ih =>
    simp only [cnt] at h
    have := cnt_le n S
    intro i hi
    cases hs : S n
    · simp [hs] at h; omega
    · simp [hs] at h
      by_cases e : i = n
      · subst e; exact hs
      · exact ih h i (by omega)
theorem cnt_more {h n : Nat} {S : Nat → Bool} (hn : h ≤ n) (hS : ∀ i, h ≤ i → S i = false) : cnt n S = cnt h S := by
  induction n with
  | zero => have : h = 0 := by omega
            subst this; rfl
  | succ n ih =>
    by_cases e : h = n + 1
    · rw [e]
    · simp only [cnt]; rw [ih (by omega), hS n (by omega)]; simp
theorem sm_more {h n : Nat} {S : Nat → Bool} (hn : h ≤ n) (hS : ∀ i, h ≤ i → S i = false) (f : Nat → Int) : sm n (on S f) = sm h (on S f) := by
  induction n with
  | zero => have : h = 0 := by omega
            subst this; rfl
  | succ n ih =>
    by_cases e : h = n + 1
    · rw [e]
    · simp only [sm]; rw [ih (by omega)]; simp [on, hS n (by omega)]

theorem G_ge (T : Int) (a : Nat → Int) (h : Nat) (gh : Int) (d : Nat) : ((h : Int) - (d + 1)) * T ≤ G T a h gh (d + 1) := by
  simp only [G]; omega

theorem Inv.zero {n : Nat} {w : Nat → Int} {T : Int} (hs : Set_ n w T) : Inv n w T fun _ => 0 := by
  have hpos := hs.pos
  have hn : (n : Int) ≤ T := by
    have := sm_le (n := n) (f := fun _ => 1) (g := w) hs.one
    rw [sm_const, hs.all] at this; omega
  have hc : (T + n - 1) / n ≤ T := ceil_le hs.pos (by
    have := Int.mul_le_mul_of_nonneg_right (show (1 : Int) ≤ n by omega) (show 0 ≤ T by omega); omega)
  refine ⟨by rw [sm_const]; omega, fun j _ => by omega, fun m j _ _ _ => by omega, ?_⟩
  intro j hj h hh1 hh2 hhn S d hcd hS h1
  have e : sm n (on S fun _ => (0 : Int) - 0) = 0 := by
    rw [sm_congr (g := fun _ => 0), sm_const]
    · omega
    · intro i _; simp [on]
  rw [e]
  cases d with
  | zero =>
    simp only [G, top0]
    split
    · have := Int.mul_le_mul_of_nonneg_left hc (show (0 : Int) ≤ n by omega); omega
    · exact Int.mul_nonneg (by omega) (by omega)
  | succ d =>
    have := G_ge T (fun i => w i - w j) h (top0 n h T) d
    have : 0 ≤ ((h : Int) - (d + 1)) * T := Int.mul_nonneg (by omega) (by omega)
    omega

theorem Inv.turn {n : Nat} {w : Nat → Int} {T : Int} {p p' : Nat → Int} {c : Nat} (hs : Set_ n w T) (hi : Inv n w T p) (ht : Turn n w T p p' c) : Inv n w T p' := by
  have hpos := hs.pos
  have hn : (n : Int) ≤ T := by
    have := sm_le (n := n) (f := fun _ => 1) (g := w) hs.one
    rw [sm_const, hs.all] at this; omega
  -- the sum of all
  have hpre : sm n (fun i => p i + w i) = T := by rw [sm_add, hi.sum, hs.all]; omega
  have hsum : sm n p' = 0 := by
    have e : sm n p' = sm n (fun i => (p i + w i) + (if i = c then -T else 0)) := sm_congr fun i hi' => by
      rw [ht.next i hi']; split <;> omega
    rw [e, sm_add, hpre, sm_one, if_pos ht.lt]; omega
  have hmost : T ≤ n * (p c + w c) := by
    have := sm_le (n := n) (f := fun i => p i + w i) (g := fun _ => p c + w c) ht.most
    rw [hpre, sm_const] at this; omega
  have hlow : ∀ j, j < n → (T + n - 1) / n ≤ p' j + T := by
    intro j hj
    rw [ht.next j hj]
    by_cases e : j = c
    · subst e
      rw [if_pos rfl]
      have := ceil_le hs.pos hmost
      omega
    · rw [if_neg e]
      have := hi.low j hj; have := hs.one j hj; omega
  have hpair : ∀ m j, m < n → j < n → w m ≤ w j → p' m - p' j ≤ T := by
    intro m j hm hj hmj
    rw [ht.next m hm, ht.next j hj]
    have h1 := hi.pair m j hm hj hmj
    have h2 := ht.most m hm
    by_cases e1 : j = c
    · subst e1
      rw [if_pos rfl]
      split <;> omega
    · rw [if_neg e1]
      split <;> omega
  refine ⟨hsum, hlow, hpair, ?_⟩
  intro j hj h hh1 hh2 hhn S d hcd hS h1
  have hcn := cnt_more hhn hS
  -- pick of j: all are at most T ahead
  have hk : ∀ B : Int, (∀ i, i < n → S i = true → p' i - p' j ≤ B) → sm n (on S fun i => p' i - p' j) ≤ cnt h S * B := by
    intro B hB
    have := sm_on_le (n := n) (S := S) (f := fun i => p' i - p' j) (g := fun _ => B) hB
    rw [sm_on_const, hcn] at this
    exact this
  have hkT : (∀ i, i < n → S i = true → p' i - p' j ≤ T) → d ≠ 0 ∨ h + 1 ≠ n → sm n (on S fun i => p' i - p' j) ≤ G T (fun i => w i - w j) h (top0 n h T) d := by
    intro hB hd
    have := hk T hB
    cases d with
    | zero =>
      simp only [G, top0]
      rw [if_neg (by omega)]
      have e : (cnt h S : Int) = h := by omega
      rw [e] at this; exact this
    | succ d =>
      have hg := G_ge T (fun i => w i - w j) h (top0 n h T) d
      have e : (cnt h S : Int) = (h : Int) - (d + 1) := by omega
      rw [e] at this; omega
  by_cases hlast : d = 0 ∧ h + 1 = n
  · -- all but j
    obtain ⟨rfl, hh⟩ := hlast
    simp only [G, top0, if_pos hh]
    have hfull := cnt_full (n := h) (S := S) (by omega)
    have hjh : j = h := by
      by_cases e : j < h
      · have := hh1 j e; omega
      · omega
    subst hjh
    have e1 : sm n (on S fun i => p' i - p' j) = sm n (fun i => (p' i + -(p' j))) := by
      rw [← hh]
      simp only [sm, on, hS j (Nat.le_refl _)]
      have : sm j (fun i => if S i = true then p' i - p' j else 0) = sm j (fun i => p' i + -p' j) := sm_congr fun i hi' => by rw [if_pos (hfull i hi')]; omega
      show sm j (fun i => if S i = true then p' i - p' j else 0) + _ = _
      rw [this]; simp; omega
    rw [e1, sm_add, hsum, sm_const]
    have := Int.mul_le_mul_of_nonneg_left (hlow j hj) (show (0 : Int) ≤ n by omega)
    rw [Int.mul_add] at this
    have e2 : (n : Int) * -p' j = -(n * p' j) := Int.mul_neg _ _
    omega
  have hcase : d ≠ 0 ∨ h + 1 ≠ n := by omega
  by_cases hcj : c = j
  · subst hcj
    refine hkT (fun i hi' hSi => ?_) hcase
    rw [ht.next i hi', ht.next c hj, if_pos rfl]
    have := ht.most i hi'
    split <;> omega
  have hSj : S j = false := by
    by_cases e : j < h
    · have := hh1 j e; omega
    · exact hS j (by omega)
  have ej : p' j = p j + w j := by rw [ht.next j hj, if_neg (by omega)]; omega
  cases hSc : S c with
  | true =>
    -- pick within S
    have h2 := hi.chain j hj h hh1 hh2 hhn S d hcd hS h1
    have e : sm n (on S fun i => p' i - p' j) = sm n (fun i => on S (fun i => p i - p j) i + on S (fun i => w i - w j) i) + sm n (fun i => if i = c then -T else 0) := by
      rw [← sm_add]
      refine sm_congr fun i hi' => ?_
      simp only [on]
      by_cases e : i = c
      · subst e; simp [hSc, ht.next i hi', ej]; omega
      · simp [e, ht.next i hi', ej]; split <;> omega
    rw [e, sm_add, sm_one, if_pos ht.lt]
    have h3 : sm n (on S fun i => w i - w j) ≤ T := by
      rw [← hs.all]
      refine sm_le fun i hi' => ?_
      have := hs.one i hi'; have := hs.one j hj
      simp only [on]; split <;> omega
    omega
  | false =>
    -- pick outside
    have hpreS : ∀ i, i < n → S i = true → p' i = p i + w i := by
      intro i hi' hSi
      rw [ht.next i hi', if_neg (by rintro rfl; rw [hSi] at hSc; cases hSc)]; omega
    by_cases hcw : w c ≤ w j
    · refine hkT (fun i hi' hSi => ?_) hcase
      rw [hpreS i hi' hSi, ej]
      have := ht.most i hi'; have := hi.pair c j ht.lt hj hcw
      omega
    · have hch : c < h := by
        by_cases e : c < h
        · exact e
        · have := hh2 c (by omega) ht.lt; omega
      cases d with
      | zero =>
        have := cnt_full (n := h) (S := S) (by omega) c hch
        rw [this] at hSc; cases hSc
      | succ d =>
        have hSc' : ∀ i, h ≤ i → ins S c i = false := by
          intro i hi'
          have : (i == c) = false := by
            have : i ≠ c := by omega
            simpa using this
          simp [ins, hS i hi', this]
        have hcnt : cnt h (ins S c) = cnt h S + 1 := by rw [cnt_ins hSc, if_pos hch]
        have h2 := hi.chain j hj h hh1 hh2 hhn (ins S c) d (by omega) hSc' (by omega)
        -- all of S stand at most as far ahead as c
        have h3 : sm n (on S fun i => (p i + w i) - (p j + w j)) ≤ cnt h S * ((p c + w c) - (p j + w j)) := by
          have := sm_on_le (n := n) (S := S) (f := fun i => (p i + w i) - (p j + w j)) (g := fun _ => (p c + w c) - (p j + w j)) fun i hi' hSi => by
            have := ht.most i hi'; omega
          rw [sm_on_const, hcn] at this
          exact this
        have h4 : sm n (on S fun i => p' i - p' j) = sm n (on S fun i => (p i + w i) - (p j + w j)) := sm_congr fun i hi' => by
          simp only [on]
          cases hSi : S i
          · simp
          · simp only [if_true]; rw [hpreS i hi' hSi, ej]
        have h5 : sm n (on (ins S c) fun i => (p i + w i) - (p j + w j)) = sm n (on S fun i => (p i + w i) - (p j + w j)) + ((p c + w c) - (p j + w j)) := sm_ins hSc ht.lt _
        have h6 : sm n (on (ins S c) fun i => (p i + w i) - (p j + w j)) = sm n (on (ins S c) fun i => p i - p j) + sm n (on (ins S c) fun i => w i - w j) := by
          rw [← sm_on_add]
          refine sm_congr fun i _ => ?_
          simp only [on]; split <;> omega
        have h7 : sm n (on (ins S c) fun i => w i - w j) ≤ sm (h - d) (fun i => w i - w j) := by
          rw [sm_more hhn hSc']
          have := top (h := h) (S := ins S c) (a := fun i => w i - w j) fun i k hik hk => by
            have := hs.sorted i k hik (by omega); omega
          rw [hcnt] at this
          have e : cnt h S + 1 = h - d := by omega
          rw [e] at this; exact this
        simp only [G]
        rw [h4]
        have e : (cnt h S : Int) = (h : Int) - (d + 1) := by omega
        rw [e] at h3
        generalize hX : sm n (on S fun i => (p i + w i) - (p j + w j)) = X at *
        generalize hY : (p c + w c) - (p j + w j) = Y at *
        generalize hk' : (h : Int) - (d + 1) = k at *
        generalize hg : G T (fun i => w i - w j) h (top0 n h T) d = g at *
        generalize ha : sm (h - d) (fun i => w i - w j) = a at *
        have hk0 : 1 ≤ k := by omega
        -- (k + 1) X ≤ k (X + Y) ≤ k (g + a)
        have h8 : X + Y ≤ g + a := by omega
        have h9 : X * (k + 1) ≤ k * (g + a) := by
          have := Int.mul_le_mul_of_nonneg_left h8 (show 0 ≤ k by omega)
          rw [Int.mul_add] at this
          rw [Int.mul_add, Int.mul_comm X k]; omega
        have := (Int.le_ediv_iff_mul_le (show 0 < k + 1 by omega)).2 h9
        omega
end Fair
