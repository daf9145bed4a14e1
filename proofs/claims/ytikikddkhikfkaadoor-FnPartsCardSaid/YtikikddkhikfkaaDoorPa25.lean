/-
  laws.commit and what it calls (slices.Clone): walks. By the session.
-/
import Derived.Test.YtikikddkhikfkaaDoorPa24
import Derived.Test.YtikikddkhikfkaaDoorPa21
import Derived.Lib.MinMax
import Derived.Deep.Cut
set_option linter.all false
namespace Go.Proofs.YtikikddkhikfkaaDoor
open Go.RowKit

theorem infoISign : (Tryd.prog.info? 76).map (fun i => (i.zero, i.size, i.bytes)) = some (some (.agg #[.int .i64 0, .string ⟨#[]⟩, .int .i64 0, .int .i64 0, .slice none 0 0]), 5, 64) := by kernel_rfl
theorem infoSSign : (Tryd.prog.info? 78).map (fun i => (i.zero, i.size, i.bytes)) = some (some (.agg #[.int .i64 0, .string ⟨#[]⟩, .int .i64 0, .int .i64 0, .slice none 0 0]), 5, 64) := by kernel_rfl
theorem signsOf_one (l : List Sg) : ∀ u ∈ signsOf l, u.oneCell' = true := by
  intro u hu
  obtain ⟨s, _, hs⟩ := List.mem_flatMap.1 hu
  exact Sg.cells_one s u hs
set_option maxRecDepth 100000 in
set_option maxHeartbeats 800000 in
theorem clone_any (l : List Sg) (A : Option Addr) (n c : Nat) (w : World) (hr : Rd w w.heap.size 5 A n (signsOf l)) (hn : n ≤ 1000000) :
    Calls Tryd.prog 29 #[.slice A n c] w fun e w' => ∃ A' c', e = .returned (.slice A' n c') ∧ w'.ownsRow w.heap.size 76 5 (.slice A' n c') n (signsOf l) ∧ Below w.heap.size w w' := by
  obtain ⟨i0, hi0, hz0, hz1, hz2⟩ := info_parts infoISign
  have HI := Lib.hid hi0; have HZ0 := Lib.hid hz0; have HZ1 := Lib.hid hz1; have HZ2 := Lib.hid hz2
  clear hi0 hz0 hz1 hz2
  have HR := Lib.hid hr
  have hnil := fun W A => Lib.run_eql_slice_nil (P := Tryd.prog) W 25 76 A n c 0 0 Tryd.underlying25
  cases A with
  | none =>
    have hn0 : n = 0 := by
      rcases Nat.eq_zero_or_pos n with h | h
      · exact h
      · have hl : 0 < (signsOf l).length := by rw [hr.1]; omega
        obtain ⟨ad, h, _⟩ := hr.2 0 _ (List.getElem?_eq_getElem hl)
        cases h
    subst hn0
    have hnil := hnil
    have hl0 : signsOf l = [] := List.eq_nil_of_length_eq_zero (by simpa using hr.1)
    have HL0 := Lib.hid hl0
    clear hr hl0
    go_enter Tryd.func29, Tryd.ntmps29
    go_wp2
    go_ret
    exact ⟨none, 0, rfl, by rw [HL0.out]; exact World.ownsRow_nil _ _ _ _, Below.refl _ _⟩
  | some ad =>
    clear hr
    go_enter Tryd.func29, Tryd.ntmps29
    go_wp2_with (at_builtin; refine wpList_app _ rfl (.tmp 5) (.tmp 6) 25 rfl w.heap.size 76 i0 _ 5 64 Tryd.underlying25 HI.out HZ0.out HZ1.out HZ2.out rfl (by decide) (.slice (some ⟨w.heap.size, 0, none⟩) 0 0) 0 [] rfl ?ho w.heap.size (some ad) n c (signsOf l) rfl ?hr (signsOf_one l) ?q1 ?q2 ?hb ?_; (case q1 => simp only [maxLen]; omega); (case q2 => omega); (case hr => exact Rd.below HR.out ((Below.refl _ _).alloc (Nat.le_refl _) _)); (case ho => exact World.ownsRow_made w #[] 0 (Nat.le_refl _) (by decide) rfl); (case hb => simp); intro A2 c2 w2 hown2 hg2 _; simp only [Nat.zero_add, List.nil_append] at hown2 hg2 ⊢)
    go_ret
    exact ⟨A2, c2, rfl, hown2, ((Below.refl _ _).alloc (Nat.le_refl _) _).grown hg2 (by simp) (fun k hk => by simp [Value.ownBlock] at hk; omega)⟩
/-! laws.commit -/
theorem signsOf_set (l : List Sg) (k : Nat) (s : Sg) (hk : k < l.length) : signsOf (l.set k s) = (((((signsOf l).set (k * 5) (.int .i64 s.flag)).set (k * 5 + 1) (.string s.adr)).set (k * 5 + 2) (.int .i64 s.sec)).set (k * 5 + 3) (.int .i64 s.nan)).set (k * 5 + 4) (.slice s.S s.sig.length s.sc) := by
  refine List.ext_getElem? fun i => ?_
  have hi : i = i / 5 * 5 + i % 5 := by omega
  have h5 : i % 5 < 5 := Nat.mod_lt _ (by omega)
  by_cases hl : i / 5 < l.length
  · have hx : l[i / 5]? = some l[i / 5] := List.getElem?_eq_getElem hl
    have hc := signsOf_length l
    simp only [List.getElem?_set, List.length_set, hc]
    by_cases e : k = i / 5
    · subst e
      have h1 : (l.set (i / 5) s)[i / 5]? = some s := by simp [hl]
      have := flat_get Sg.cells 5 Sg.cells_length (l.set (i / 5) s) (i / 5) (i % 5) s h1 h5
      rw [← hi] at this
      have e2 : signsOf (l.set (i / 5) s) = (l.set (i / 5) s).flatMap Sg.cells := rfl
      rw [e2, this]
      have h2 : i < l.length * 5 := by omega
      generalize hq : i / 5 = q at *
      generalize hr : i % 5 = r at *
      subst hi
      obtain rfl | rfl | rfl | rfl | rfl : r = 0 ∨ r = 1 ∨ r = 2 ∨ r = 3 ∨ r = 4 := by omega
      all_goals simp [Sg.cells, h2] <;> omega
    · have h1 : (l.set k s)[i / 5]? = some l[i / 5] := by rw [List.getElem?_set, if_neg (by omega)]; exact hx
      have g1 := flat_get Sg.cells 5 Sg.cells_length (l.set k s) (i / 5) (i % 5) _ h1 h5
      have g2 := flat_get Sg.cells 5 Sg.cells_length l (i / 5) (i % 5) _ hx h5
      rw [← hi] at g1 g2
      have e1 : signsOf (l.set k s) = (l.set k s).flatMap Sg.cells := rfl
      have e2 : signsOf l = l.flatMap Sg.cells := rfl
      rw [e1, g1, if_neg (by omega), if_neg (by omega), if_neg (by omega), if_neg (by omega), if_neg (by omega), e2, g2]
  · rw [List.getElem?_eq_none (by rw [signsOf_length]; simp; omega), List.getElem?_eq_none (by simp [signsOf_length]; omega)]
theorem own_sign {w : World} {base : Nat} {g n c e : Nat} {l : List Sg} {k : Nat} {s : Sg} (h : w.ownsRow base e 5 (.slice (some ⟨g, 0, none⟩) n c) n (signsOf l)) (hk : k < l.length) :
    (((((w.setCell ⟨g, k * 5, none⟩ (.int .i64 s.flag)).setCell ⟨g, k * 5 + 1, none⟩ (.string s.adr)).setCell ⟨g, k * 5 + 2, none⟩ (.int .i64 s.sec)).setCell ⟨g, k * 5 + 3, none⟩ (.int .i64 s.nan)).setCell ⟨g, k * 5 + 4, none⟩ (.slice s.S s.sig.length s.sc)).ownsRow base e 5 (.slice (some ⟨g, 0, none⟩) n c) n (signsOf (l.set k s)) := by
  rw [signsOf_set l k s hk]
  exact (((((h.stored _ _).1.stored _ _).1.stored _ _).1.stored _ _).1.stored _ _).1
theorem results_cell2_row {P : Program} {fn : Func} {p q : Tmp} {ty tz : TypeId} (h : fn.results = #[.cell p ty, .cell q tz]) (tmps : Array Value) (w : World) (g g' : Nat) (t t' : TypeId) (cs cs' : Array Value) (fr fr' : Nat × Nat) (d d' : TypeDesc)
    (hp : tmps.getD p undef = .pointer (some ⟨g, 0, none⟩)) (hg : w.heap[g]? = some (.cells cs t fr))
    (hu : P.underlying ty = some d) (hd : (match d with | .struct _ | .array _ _ => true | _ => false) = true) (hi : (P.info? ty).map (·.size) = some cs.size)
    (hq : tmps.getD q undef = .pointer (some ⟨g', 0, none⟩)) (hg' : w.heap[g']? = some (.cells cs' t' fr'))
    (hu' : P.underlying tz = some d') (hd' : (match d' with | .struct _ | .array _ _ => true | _ => false) = true) (hi' : (P.info? tz).map (·.size) = some cs'.size) :
    (results fn tmps).run P w = .ok (.tuple #[.agg cs, .agg cs']) w := by
  have hp' : tmps[p]?.getD undef = .pointer (some ⟨g, 0, none⟩) := by simpa using hp
  have hq' : tmps[q]?.getD undef = .pointer (some ⟨g', 0, none⟩) := by simpa using hq
  simp [results, h, hp', hq', asAddr, run_loadVar_row w g t ty cs fr d hg hu hd hi, run_loadVar_row w g' t' tz cs' fr' d' hg' hu' hd' hi']
theorem Blk.last6 {w : World} {g : Nat} {t : TypeId} {a0 a1 a2 a3 a4 a5 b5 : Value} (h : Blk w g t #[a0, a1, a2, a3, a4, a5]) : Blk (w.setCell ⟨g, 5, none⟩ b5) g t #[a0, a1, a2, a3, a4, b5] := by
  have := h.put 5 b5
  simpa using this
theorem own_sgn {w : World} {base e : Nat} {g n c : Nat} {l : List Sg} (h : w.ownsRow base e 5 (.slice (some ⟨g, 0, none⟩) n c) n (signsOf l)) {k : Nat} {x : Sg} (hx : l[k]? = some x) :
    w.cell? ⟨g, k * 5, none⟩ = some (.int .i64 x.flag) ∧ w.cell? ⟨g, k * 5 + 1, none⟩ = some (.string x.adr) ∧ w.cell? ⟨g, k * 5 + 2, none⟩ = some (.int .i64 x.sec) ∧ w.cell? ⟨g, k * 5 + 3, none⟩ = some (.int .i64 x.nan) ∧ w.cell? ⟨g, k * 5 + 4, none⟩ = some (.slice x.S x.sig.length x.sc) := by
  have g : ∀ i u, i < 5 → x.cells[i]? = some u → w.cell? ⟨g, k * 5 + i, none⟩ = some u := fun i u hi hu => by
    have := h.cells (g := g) rfl (k * 5 + i) u ((flat_get Sg.cells 5 Sg.cells_length l k i x hx hi).trans hu)
    rwa [add_flat, Nat.zero_add] at this
  exact ⟨g 0 _ (by omega) rfl, g 1 _ (by omega) rfl, g 2 _ (by omega) rfl, g 3 _ (by omega) rfl, g 4 _ (by omega) rfl⟩
theorem mapTo_length {α : Type} (f : α → α) (l : List α) (k : Nat) : (mapTo f l k).length = l.length := by simp [mapTo]; omega
theorem own_ne_own {w : World} {base e size n : Nat} {v : Value} {xs : List Value} {base' e' size' n' : Nat} {v' : Value} {xs' : List Value} (h : w.ownsRow base e size v n xs) (h' : w.ownsRow base' e' size' v' n' xs') (hne : e ≠ e') : ∀ g, v.ownBlock = some g → some g ≠ v'.ownBlock := by
  intro g hg he
  rcases h.2 with ⟨rfl, _⟩ | ⟨g1, cap, cur, rfl, _, hh, _⟩
  · simp [Value.ownBlock] at hg
  · rcases h'.2 with ⟨rfl, _⟩ | ⟨g2, cap', cur', rfl, _, hh', _⟩
    · simp [Value.ownBlock] at he
    · simp [Value.ownBlock] at hg he
      subst hg; subst he
      rw [hh] at hh'
      injection hh' with hh'; injection hh' with _ ht
      exact hne ht
theorem own_far5 {w : World} {base e size : Nat} {v : Value} {n : Nat} {xs : List Value} {g o0 o1 o2 o3 o4 : Nat} {u0 u1 u2 u3 u4 : Value} (h : w.ownsRow base e size v n xs) (hg : some g ≠ v.ownBlock) :
    (((((w.setCell ⟨g, o0, none⟩ u0).setCell ⟨g, o1, none⟩ u1).setCell ⟨g, o2, none⟩ u2).setCell ⟨g, o3, none⟩ u3).setCell ⟨g, o4, none⟩ u4).ownsRow base e size v n xs :=
  own_far (own_far (own_far (own_far (own_far h (p := ⟨g, _, none⟩) hg _) (p := ⟨g, _, none⟩) hg _) (p := ⟨g, _, none⟩) hg _) (p := ⟨g, _, none⟩) hg _) (p := ⟨g, _, none⟩) hg _
theorem Blk.far5 {w : World} {k : Nat} {t : TypeId} {cs : Array Value} {g o0 o1 o2 o3 o4 : Nat} {u0 u1 u2 u3 u4 : Value} (h : Blk w k t cs) (hg : k ≠ g) :
    Blk (((((w.setCell ⟨g, o0, none⟩ u0).setCell ⟨g, o1, none⟩ u1).setCell ⟨g, o2, none⟩ u2).setCell ⟨g, o3, none⟩ u3).setCell ⟨g, o4, none⟩ u4) k t cs :=
  ((((h.far (p := ⟨g, _, none⟩) hg _).far (p := ⟨g, _, none⟩) hg _).far (p := ⟨g, _, none⟩) hg _).far (p := ⟨g, _, none⟩) hg _).far (p := ⟨g, _, none⟩) hg _
theorem Below.far5 {B : Nat} {w w1 : World} {g o0 o1 o2 o3 o4 : Nat} {u0 u1 u2 u3 u4 : Value} (h : Below B w w1) (hg : B ≤ g) :
    Below B w (((((w1.setCell ⟨g, o0, none⟩ u0).setCell ⟨g, o1, none⟩ u1).setCell ⟨g, o2, none⟩ u2).setCell ⟨g, o3, none⟩ u3).setCell ⟨g, o4, none⟩ u4) :=
  ((((h.setCell (p := ⟨g, _, none⟩) hg _).setCell (p := ⟨g, _, none⟩) hg _).setCell (p := ⟨g, _, none⟩) hg _).setCell (p := ⟨g, _, none⟩) hg _).setCell (p := ⟨g, _, none⟩) hg _
theorem own_far6 {w : World} {base e size : Nat} {v : Value} {n : Nat} {xs : List Value} {g o0 o1 o2 o3 o4 o5 : Nat} {u0 u1 u2 u3 u4 u5 : Value} (h : w.ownsRow base e size v n xs) (hg : some g ≠ v.ownBlock) :
    ((((((w.setCell ⟨g, o0, none⟩ u0).setCell ⟨g, o1, none⟩ u1).setCell ⟨g, o2, none⟩ u2).setCell ⟨g, o3, none⟩ u3).setCell ⟨g, o4, none⟩ u4).setCell ⟨g, o5, none⟩ u5).ownsRow base e size v n xs := own_far (own_far5 h hg) (p := ⟨g, _, none⟩) hg _
theorem Blk.far6 {w : World} {k : Nat} {t : TypeId} {cs : Array Value} {g o0 o1 o2 o3 o4 o5 : Nat} {u0 u1 u2 u3 u4 u5 : Value} (h : Blk w k t cs) (hg : k ≠ g) :
    Blk ((((((w.setCell ⟨g, o0, none⟩ u0).setCell ⟨g, o1, none⟩ u1).setCell ⟨g, o2, none⟩ u2).setCell ⟨g, o3, none⟩ u3).setCell ⟨g, o4, none⟩ u4).setCell ⟨g, o5, none⟩ u5) k t cs := (Blk.far5 h hg).far (p := ⟨g, _, none⟩) hg _
theorem Below.far6 {B : Nat} {w w1 : World} {g o0 o1 o2 o3 o4 o5 : Nat} {u0 u1 u2 u3 u4 u5 : Value} (h : Below B w w1) (hg : B ≤ g) :
    Below B w ((((((w1.setCell ⟨g, o0, none⟩ u0).setCell ⟨g, o1, none⟩ u1).setCell ⟨g, o2, none⟩ u2).setCell ⟨g, o3, none⟩ u3).setCell ⟨g, o4, none⟩ u4).setCell ⟨g, o5, none⟩ u5) := (Below.far5 h hg).setCell (p := ⟨g, _, none⟩) hg _
theorem Blk.fill6 {w : World} {g : Nat} {t : TypeId} {a0 a1 a2 a3 a4 a5 u0 u1 u2 u3 u4 u5 : Value} (h : Blk w g t #[a0, a1, a2, a3, a4, a5]) :
    Blk ((((((w.setCell ⟨g, 0, none⟩ u0).setCell ⟨g, 1, none⟩ u1).setCell ⟨g, 2, none⟩ u2).setCell ⟨g, 3, none⟩ u3).setCell ⟨g, 4, none⟩ u4).setCell ⟨g, 5, none⟩ u5) g t #[u0, u1, u2, u3, u4, u5] := by
  have := (((((h.put 0 u0).put 1 u1).put 2 u2).put 3 u3).put 4 u4).put 5 u5
  simpa using this
theorem rd_far12 {w : World} {base e size : Nat} {A : Option Addr} {n c : Nat} {xs : List Value} {g g' : Nat} {u0 u1 u2 u3 u4 u5 v0 v1 v2 v3 v4 v5 : Value} (h : w.ownsRow base e size (.slice A n c) n xs) (hg : some g ≠ (Value.slice A n c).ownBlock) (hg' : some g' ≠ (Value.slice A n c).ownBlock) :
    Rd ((((((((((((w.setCell ⟨g, 0, none⟩ u0).setCell ⟨g, 1, none⟩ u1).setCell ⟨g, 2, none⟩ u2).setCell ⟨g, 3, none⟩ u3).setCell ⟨g, 4, none⟩ u4).setCell ⟨g, 5, none⟩ u5).setCell ⟨g', 0, none⟩ v0).setCell ⟨g', 1, none⟩ v1).setCell ⟨g', 2, none⟩ v2).setCell ⟨g', 3, none⟩ v3).setCell ⟨g', 4, none⟩ v4).setCell ⟨g', 5, none⟩ v5).drew
      ((((((((((((w.setCell ⟨g, 0, none⟩ u0).setCell ⟨g, 1, none⟩ u1).setCell ⟨g, 2, none⟩ u2).setCell ⟨g, 3, none⟩ u3).setCell ⟨g, 4, none⟩ u4).setCell ⟨g, 5, none⟩ u5).setCell ⟨g', 0, none⟩ v0).setCell ⟨g', 1, none⟩ v1).setCell ⟨g', 2, none⟩ v2).setCell ⟨g', 3, none⟩ v3).setCell ⟨g', 4, none⟩ v4).setCell ⟨g', 5, none⟩ v5).drew.heap.size size A n xs := by
  have h1 := Rd.of_own (own_far6 (o0 := 0) (o1 := 1) (o2 := 2) (o3 := 3) (o4 := 4) (o5 := 5) (u0 := v0) (u1 := v1) (u2 := v2) (u3 := v3) (u4 := v4) (u5 := v5) (own_far6 (o0 := 0) (o1 := 1) (o2 := 2) (o3 := 3) (o4 := 4) (o5 := 5) (u0 := u0) (u1 := u1) (u2 := u2) (u3 := u3) (u4 := u4) (u5 := u5) h hg) hg')
  generalize ((((((((((((w.setCell ⟨g, 0, none⟩ u0).setCell ⟨g, 1, none⟩ u1).setCell ⟨g, 2, none⟩ u2).setCell ⟨g, 3, none⟩ u3).setCell ⟨g, 4, none⟩ u4).setCell ⟨g, 5, none⟩ u5).setCell ⟨g', 0, none⟩ v0).setCell ⟨g', 1, none⟩ v1).setCell ⟨g', 2, none⟩ v2).setCell ⟨g', 3, none⟩ v3).setCell ⟨g', 4, none⟩ v4).setCell ⟨g', 5, none⟩ v5) = W at h1 ⊢
  exact h1
theorem below_far12 {B : Nat} {w w1 : World} {g g' : Nat} {u0 u1 u2 u3 u4 u5 v0 v1 v2 v3 v4 v5 : Value} (h : Below B w w1) (hg : B ≤ g) (hg' : B ≤ g') :
    Below B w ((((((((((((w1.setCell ⟨g, 0, none⟩ u0).setCell ⟨g, 1, none⟩ u1).setCell ⟨g, 2, none⟩ u2).setCell ⟨g, 3, none⟩ u3).setCell ⟨g, 4, none⟩ u4).setCell ⟨g, 5, none⟩ u5).setCell ⟨g', 0, none⟩ v0).setCell ⟨g', 1, none⟩ v1).setCell ⟨g', 2, none⟩ v2).setCell ⟨g', 3, none⟩ v3).setCell ⟨g', 4, none⟩ v4).setCell ⟨g', 5, none⟩ v5).drew :=
  (Below.far6 (Below.far6 h hg) hg').drew
theorem mag_max {x : Int} (h : -9223372036854775808 ≤ x ∧ x ≤ 9223372036854775807) : max x (wrap64 (-wrap64 (x + 1))) = mag x := by
  unfold mag wrap64
  split <;> omega
theorem mag_pos (x : Int) : 0 ≤ mag x := by unfold mag; split <;> omega
def normG (s : Sg) : Sg := { s with flag := 1 + mag s.flag % 3, sec := s.sec.tmod 1099511627776, nan := mag s.nan % 1000000000 }

set_option maxRecDepth 100000 in
set_option maxHeartbeats 2000000 in
theorem lcommit_any (hgt rnd : Int) (b : Bk) (A : Option Addr) (n c : Nat) (l : List Sg) (w : World) (hr : Rd w w.heap.size 5 A n (signsOf l)) (hnc : n ≤ c) (hn31 : n ≤ 2147483647) (hh : -9223372036854775808 ≤ hgt ∧ hgt ≤ 9223372036854775807) (hrd : -9223372036854775808 ≤ rnd ∧ rnd ≤ 9223372036854775807) (hp : -9223372036854775808 ≤ b.parts ∧ b.parts ≤ 9223372036854775807) (hl : ∀ s ∈ l, s.fits) :
    Calls Tryd.prog 8 #[.agg #[.int .i64 hgt, .int .i64 rnd, .slice b.S b.sum.length b.sc, .int .i64 b.parts, .slice b.R b.root.length b.rc, .slice A n c]] w fun e w' => ∃ A1 c1 A2 c2 m, e = .returned (.tuple #[.agg #[.int .i64 (mag hgt % 1152921504606846976), .int .i64 (mag rnd % 1073741824), .slice b.S b.sum.length b.sc, .int .i64 (mag b.parts % 1073741824), .slice b.R b.root.length b.rc, .slice A1 m c1], .agg #[.int .i64 (mag hgt % 1152921504606846976), .int .i64 (mag rnd % 1073741824), .slice b.S b.sum.length b.sc, .int .i64 (mag b.parts % 1073741824), .slice b.R b.root.length b.rc, .slice A2 m c2]]) ∧ m ≤ 60 ∧
      Rd w' w'.heap.size 5 A1 m (signsOf ((l.take 60).map normG)) ∧ Rd w' w'.heap.size 5 A2 m (signsOf ((l.take 60).map normG)) ∧ Below w.heap.size w w' := by
  obtain ⟨i0, hi0, hz0, hz1, hz2⟩ := info_parts infoSSign
  have HI := Lib.hid hi0; have HZ0 := Lib.hid hz0; have HZ1 := Lib.hid hz1; have HZ2 := Lib.hid hz2
  clear hi0 hz0 hz1 hz2
  obtain ⟨m, hm⟩ : ∃ m : Nat, (min (n : Int) 60).toNat = m := ⟨_, rfl⟩
  have hmn : m ≤ n := by omega
  have hm60 : m ≤ 60 := by omega
  have hmc : m ≤ c := by omega
  have hminn : min (n : Int) 60 = (m : Int) := by omega
  have e1 := mag_max hh
  have e2 := mag_max hrd
  have e3 := mag_max hp
  have p1 := mag_pos hgt
  have p2 := mag_pos rnd
  have p3 := mag_pos b.parts
  have hr' : Rd w w.heap.size 5 A m (signsOf (l.take 60)) := by
    have h1 := hr.take hmn
    have h2 := hr.slen
    have e : (signsOf l).take (m * 5) = signsOf (l.take 60) := by
      have hall : ∀ (l : List Sg) (k : Nat), (signsOf l).take (k * 5) = signsOf (l.take k) := by
        intro l
        induction l with
        | nil => intro k; simp [signsOf]
        | cons x r ih =>
          intro k
          cases k with
          | zero => simp [signsOf]
          | succ k =>
            have := ih k
            simp only [signsOf, List.take_succ_cons, List.flatMap_cons] at this ⊢
            rw [← this]
            have e : (k + 1) * 5 = x.cells.length + k * 5 := by rw [Sg.cells_length]; omega
            rw [e, List.take_length_add_append]
      rw [hall]
      by_cases h : n ≤ 60
      · have : m = n := by omega
        rw [List.take_of_length_le (by omega), List.take_of_length_le (by omega)]
      · have : m = 60 := by omega
        rw [this]
    rw [e] at h1
    exact h1
  have hl' : ∀ s ∈ l.take 60, s.fits := fun s hs => hl s (List.mem_of_mem_take hs)
  generalize l.take 60 = t at *
  have HT := Lib.hid hr'.slen; have HR := Lib.hid hr'; have HL := Lib.hid hl'
  clear hr hl hr' hl' hh hrd hp
  generalize hH : mag hgt % 1152921504606846976 = H at *
  generalize hR : mag rnd % 1073741824 = Rn at *
  generalize hP : mag b.parts % 1073741824 = Pn at *
  go_enter Tryd.func8, Tryd.ntmps8
  have kb0 := Blk.new w 27 #[.int .i64 H, .int .i64 Rn, .slice b.S b.sum.length b.sc, .int .i64 Pn, .slice b.R b.root.length b.rc, .slice A n c]
  have kb1 := Blk.new (w.alloc (.cells #[.int .i64 H, .int .i64 Rn, .slice b.S b.sum.length b.sc, .int .i64 Pn, .slice b.R b.root.length b.rc, .slice A n c] 27)) 27 #[.int .i64 0, .int .i64 0, .slice none 0 0, .int .i64 0, .slice none 0 0, .slice none 0 0]
  have kb2 := Blk.new ((w.alloc (.cells #[.int .i64 H, .int .i64 Rn, .slice b.S b.sum.length b.sc, .int .i64 Pn, .slice b.R b.root.length b.rc, .slice A n c] 27)).alloc (.cells #[.int .i64 0, .int .i64 0, .slice none 0 0, .int .i64 0, .slice none 0 0, .slice none 0 0] 27)) 38 #[.int .i64 0, .int .i64 0, .slice none 0 0, .int .i64 0, .slice none 0 0, .slice none 0 0]
  have kbel : Below w.heap.size w (((w.alloc (.cells #[.int .i64 H, .int .i64 Rn, .slice b.S b.sum.length b.sc, .int .i64 Pn, .slice b.R b.root.length b.rc, .slice A n c] 27)).alloc (.cells #[.int .i64 0, .int .i64 0, .slice none 0 0, .int .i64 0, .slice none 0 0, .slice none 0 0] 27)).alloc (.cells #[.int .i64 0, .int .i64 0, .slice none 0 0, .int .i64 0, .slice none 0 0, .slice none 0 0] 38)) := (((Below.refl _ _).alloc (Nat.le_refl _) _).alloc (by simp) _).alloc (by simp; omega) _
  have kb0' := (kb0.alloc (.cells #[.int .i64 0, .int .i64 0, .slice none 0 0, .int .i64 0, .slice none 0 0, .slice none 0 0] 27)).alloc (.cells #[.int .i64 0, .int .i64 0, .slice none 0 0, .int .i64 0, .slice none 0 0, .slice none 0 0] 38)
  have kb1' : Blk (((w.alloc (.cells #[.int .i64 H, .int .i64 Rn, .slice b.S b.sum.length b.sc, .int .i64 Pn, .slice b.R b.root.length b.rc, .slice A n c] 27)).alloc (.cells #[.int .i64 0, .int .i64 0, .slice none 0 0, .int .i64 0, .slice none 0 0, .slice none 0 0] 27)).alloc (.cells #[.int .i64 0, .int .i64 0, .slice none 0 0, .int .i64 0, .slice none 0 0, .slice none 0 0] 38)) (w.heap.size + 1) 27 #[.int .i64 0, .int .i64 0, .slice none 0 0, .int .i64 0, .slice none 0 0, .slice none 0 0] := by have := kb1.alloc (.cells #[.int .i64 0, .int .i64 0, .slice none 0 0, .int .i64 0, .slice none 0 0, .slice none 0 0] 38); simpa using this
  have kb2' : Blk (((w.alloc (.cells #[.int .i64 H, .int .i64 Rn, .slice b.S b.sum.length b.sc, .int .i64 Pn, .slice b.R b.root.length b.rc, .slice A n c] 27)).alloc (.cells #[.int .i64 0, .int .i64 0, .slice none 0 0, .int .i64 0, .slice none 0 0, .slice none 0 0] 27)).alloc (.cells #[.int .i64 0, .int .i64 0, .slice none 0 0, .int .i64 0, .slice none 0 0, .slice none 0 0] 38)) (w.heap.size + 1 + 1) 38 #[.int .i64 0, .int .i64 0, .slice none 0 0, .int .i64 0, .slice none 0 0, .slice none 0 0] := by simpa using kb2
  have KCL := clone_any t A m c (((w.alloc (.cells #[.int .i64 H, .int .i64 Rn, .slice b.S b.sum.length b.sc, .int .i64 Pn, .slice b.R b.root.length b.rc, .slice A n c] 27)).alloc (.cells #[.int .i64 0, .int .i64 0, .slice none 0 0, .int .i64 0, .slice none 0 0, .slice none 0 0] 27)).alloc (.cells #[.int .i64 0, .int .i64 0, .slice none 0 0, .int .i64 0, .slice none 0 0, .slice none 0 0] 38)) ((HR.out.below kbel).more kbel.size) (by omega)
  have HB0 := Lib.hid kb0'; have HB1 := Lib.hid kb1'; have HB2 := Lib.hid kb2'; have HBEL := Lib.hid kbel; have HCL := Lib.hid KCL
  clear kb0 kb1 kb2 kb0' kb1' kb2' kbel KCL
  go_wp2_with fail
  refine HCL.out.mono ?_
  rintro e w1 ⟨A1, c1, rfl, ho1, hb1⟩
  have hk0 := HB0.out.belowS hb1
  have HK0 := Lib.hid hk0; have HK1 := Lib.hid (HB1.out.belowS hb1); have HK2 := Lib.hid (HB2.out.belowS hb1)
  have HBW := Lib.hid (HBEL.out.trans (hb1.mono HBEL.out.size))
  have HO1 := Lib.hid (own_base_le ho1 HBEL.out.size)
  have q0 : w1.cell? ⟨w.heap.size, 0, none⟩ = some (.int .i64 H) := hk0.cell 0
  have q1 : w1.cell? ⟨w.heap.size, 1, none⟩ = some (.int .i64 Rn) := hk0.cell 1
  have q2 : w1.cell? ⟨w.heap.size, 2, none⟩ = some (.slice b.S b.sum.length b.sc) := hk0.cell 2
  have q3 : w1.cell? ⟨w.heap.size, 3, none⟩ = some (.int .i64 Pn) := hk0.cell 3
  have q4 : w1.cell? ⟨w.heap.size, 4, none⟩ = some (.slice b.R b.root.length b.rc) := hk0.cell 4
  have q5 : w1.cell? ⟨w.heap.size, 5, none⟩ = some (.slice A n c) := hk0.cell 5
  have qf : ∀ i, w1.frozen? ⟨w.heap.size, i, none⟩ = false := fun i => hk0.free i
  have q6 : (w1.setCell ⟨w.heap.size, 5, none⟩ (.slice A1 m c1)).cell? ⟨w.heap.size, 5, none⟩ = some (.slice A1 m c1) := (HK0.out.last6 (b5 := .slice A1 m c1)).cell 5
  have hlt1 : w.heap.size + 1 + 1 < w1.heap.size := (HB2.out.belowS hb1).lt
  have hka : Blk ((w1.setCell ⟨w.heap.size, 5, none⟩ (.slice A1 m c1)).alloc (.cells #[.int .i64 H, .int .i64 Rn, .slice b.S b.sum.length b.sc, .int .i64 Pn, .slice b.R b.root.length b.rc, .slice none 0 0] 38)) w.heap.size 27 #[.int .i64 H, .int .i64 Rn, .slice b.S b.sum.length b.sc, .int .i64 Pn, .slice b.R b.root.length b.rc, .slice A1 m c1] := (HK0.out.last6).alloc _
  have q7 : ((w1.setCell ⟨w.heap.size, 5, none⟩ (.slice A1 m c1)).alloc (.cells #[.int .i64 H, .int .i64 Rn, .slice b.S b.sum.length b.sc, .int .i64 Pn, .slice b.R b.root.length b.rc, .slice none 0 0] 38)).cell? ⟨w.heap.size, 5, none⟩ = some (.slice A1 m c1) := hka.cell 5
  clear ho1 hb1 hk0
  go_wp2
  have hkb : Blk ((w1.setCell ⟨w.heap.size, 5, none⟩ (.slice A1 m c1)).alloc (.cells #[.int .i64 H, .int .i64 Rn, .slice b.S b.sum.length b.sc, .int .i64 Pn, .slice b.R b.root.length b.rc, .slice none 0 0] 38)) w1.heap.size 38 #[.int .i64 H, .int .i64 Rn, .slice b.S b.sum.length b.sc, .int .i64 Pn, .slice b.R b.root.length b.rc, .slice none 0 0] := by simpa using Blk.new (w1.setCell ⟨w.heap.size, 5, none⟩ (.slice A1 m c1)) 38 #[.int .i64 H, .int .i64 Rn, .slice b.S b.sum.length b.sc, .int .i64 Pn, .slice b.R b.root.length b.rc, .slice none 0 0]
  have hkc := (HK1.out.far (p := ⟨w.heap.size, 5, none⟩) (show w.heap.size + 1 ≠ w.heap.size by omega) (.slice A1 m c1)).alloc (.cells #[.int .i64 H, .int .i64 Rn, .slice b.S b.sum.length b.sc, .int .i64 Pn, .slice b.R b.root.length b.rc, .slice none 0 0] 38)
  have hkd := (HK2.out.far (p := ⟨w.heap.size, 5, none⟩) (show w.heap.size + 1 + 1 ≠ w.heap.size by omega) (.slice A1 m c1)).alloc (.cells #[.int .i64 H, .int .i64 Rn, .slice b.S b.sum.length b.sc, .int .i64 Pn, .slice b.R b.root.length b.rc, .slice none 0 0] 38)
  have hko := (own_far HO1.out (p := ⟨w.heap.size, 5, none⟩) (own_ne_blk HO1.out HK0.out (by decide)) (.slice A1 m c1)).alloc (.cells #[.int .i64 H, .int .i64 Rn, .slice b.S b.sum.length b.sc, .int .i64 Pn, .slice b.R b.root.length b.rc, .slice none 0 0] 38)
  have hkw : Below w.heap.size w ((w1.setCell ⟨w.heap.size, 5, none⟩ (.slice A1 m c1)).alloc (.cells #[.int .i64 H, .int .i64 Rn, .slice b.S b.sum.length b.sc, .int .i64 Pn, .slice b.R b.root.length b.rc, .slice none 0 0] 38)) := (HBW.out.setCell (p := ⟨w.heap.size, 5, none⟩) (Nat.le_refl _) _).alloc (by simp; omega) _
  have HKA := Lib.hid hka; have HKB := Lib.hid hkb; have HKC := Lib.hid hkc; have HKD := Lib.hid hkd; have HKO := Lib.hid hko; have HKW := Lib.hid hkw
  clear hka hkb hkc hkd hko hkw q0 q1 q2 q3 q4 q5 q6 q7 qf
  go_loopw [56] (fun i wr => ∃ (k : Nat) (A2 : Option Addr) (c2 : Nat), k ≤ m ∧ i = .int .i64 k ∧ Hid (Blk wr w.heap.size 27 #[.int .i64 H, .int .i64 Rn, .slice b.S b.sum.length b.sc, .int .i64 Pn, .slice b.R b.root.length b.rc, .slice A1 m c1]) ∧ Hid (Blk wr w1.heap.size 38 #[.int .i64 H, .int .i64 Rn, .slice b.S b.sum.length b.sc, .int .i64 Pn, .slice b.R b.root.length b.rc, .slice A2 k c2]) ∧ Hid (Blk wr (w.heap.size + 1) 27 #[.int .i64 0, .int .i64 0, .slice none 0 0, .int .i64 0, .slice none 0 0, .slice none 0 0]) ∧ Hid (Blk wr (w.heap.size + 1 + 1) 38 #[.int .i64 0, .int .i64 0, .slice none 0 0, .int .i64 0, .slice none 0 0, .slice none 0 0]) ∧ Hid (wr.ownsRow w.heap.size 76 5 (.slice A1 m c1) m (signsOf (mapTo normG t k))) ∧ Hid (wr.ownsRow w.heap.size 78 5 (.slice A2 k c2) k (signsOf ((t.take k).map normG))) ∧ Hid (Below w.heap.size w wr)) (fun i _ => m - (intOf i).toNat)
  case atStart => exact ⟨0, none, 0, Nat.zero_le _, rfl, HKA.out, HKB.out, HKC.out, HKD.out, by show World.ownsRow _ _ _ _ _ _ _; rw [mapTo_zero]; exact HKO.out, World.ownsRow_nil _ _ _ _, HKW.out⟩
  case round =>
    obtain ⟨k, A2, c2, hk, rfl, HG0, HG1, HG2, HG3, HW1, HW2, HB⟩ := hrel
    have hz := HB.out.size
    by_cases hlt : k < m
    · have hk' : k < t.length := by have := HT.out; omega
      have hx : t[k]? = some t[k] := List.getElem?_eq_getElem hk'
      have hx' := mapTo_get normG t k _ hx
      have hsu := mapTo_succ normG t k _ hx
      have hst : (t.take (k + 1)).map normG = (t.take k).map normG ++ [normG t[k]] := by
        rw [List.take_succ_eq_append_getElem hk', List.map_append]; rfl
      have hfx := HL.out _ (List.getElem_mem hk')
      generalize t[k] = x at *
      obtain ⟨g, cap, hv, hg0, hg1⟩ := HW1.out.form (by omega)
      have ea : A1 = some ⟨g, 0, none⟩ := by injection hv
      subst ea
      clear hv
      obtain ⟨x0, x1, x2, x3, x4⟩ := own_sgn HW1.out hx'
      have hf := own_free HW1.out
      have hg0b := HG0.out
      have hg1b := HG1.out
      have r5 : wr.cell? ⟨w.heap.size, 5, none⟩ = some (.slice (some ⟨g, 0, none⟩) m c1) := hg0b.cell 5
      have u5 : wr.cell? ⟨w1.heap.size, 5, none⟩ = some (.slice A2 k c2) := hg1b.cell 5
      have uf : ∀ i, wr.frozen? ⟨w1.heap.size, i, none⟩ = false := fun i => hg1b.free i
      have n1 : g ≠ w.heap.size := fun h => own_ne_blk HW1.out hg0b (by decide) (by rw [← h]; rfl)
      have n2 : g ≠ w1.heap.size := fun h => own_ne_blk HW1.out hg1b (by decide) (by rw [← h]; rfl)
      have l1 : w.heap.size < wr.heap.size := hg0b.lt
      have l2 : w1.heap.size < wr.heap.size := hg1b.lt
      have e5 := mag_max hfx.flag
      have e6 := mag_max hfx.nan
      have p5 := mag_pos x.flag
      have p6 := mag_pos x.nan
      have HX := Lib.hid hx; have HX' := Lib.hid hx'; have HSU := Lib.hid hsu; have HST := Lib.hid hst
      clear hx hx' hsu hst hg0b hg1b
      go_upto_region 11 with fail
      have hn2 : some g ≠ (Value.slice A2 k c2).ownBlock := own_ne_own HW1.out HW2.out (by decide) g rfl
      have ko1 : World.ownsRow ((((((wr.setCell ⟨g, k * 5, none⟩ (.int .i64 (1 + mag x.flag % 3))).setCell ⟨g, k * 5 + 1, none⟩ (.string x.adr)).setCell ⟨g, k * 5 + 2, none⟩ (.int .i64 (x.sec.tmod 1099511627776))).setCell ⟨g, k * 5 + 3, none⟩ (.int .i64 (mag x.nan % 1000000000))).setCell ⟨g, k * 5 + 4, none⟩ (.slice x.S x.sig.length x.sc)).alloc (.cells #[.int .i64 (1 + mag x.flag % 3), .string x.adr, .int .i64 (x.sec.tmod 1099511627776), .int .i64 (mag x.nan % 1000000000), .slice x.S x.sig.length x.sc] 76)) w.heap.size 76 5 (.slice (some ⟨g, 0, none⟩) m c1) m (signsOf (mapTo normG t (k + 1))) := by
        have h1 := (own_sign (s := normG x) HW1.out (by rw [mapTo_length]; exact hk')).alloc (.cells #[.int .i64 (1 + mag x.flag % 3), .string x.adr, .int .i64 (x.sec.tmod 1099511627776), .int .i64 (mag x.nan % 1000000000), .slice x.S x.sig.length x.sc] 76)
        rw [HSU.out] at h1
        exact h1
      have ko2 : World.ownsRow ((((((wr.setCell ⟨g, k * 5, none⟩ (.int .i64 (1 + mag x.flag % 3))).setCell ⟨g, k * 5 + 1, none⟩ (.string x.adr)).setCell ⟨g, k * 5 + 2, none⟩ (.int .i64 (x.sec.tmod 1099511627776))).setCell ⟨g, k * 5 + 3, none⟩ (.int .i64 (mag x.nan % 1000000000))).setCell ⟨g, k * 5 + 4, none⟩ (.slice x.S x.sig.length x.sc)).alloc (.cells #[.int .i64 (1 + mag x.flag % 3), .string x.adr, .int .i64 (x.sec.tmod 1099511627776), .int .i64 (mag x.nan % 1000000000), .slice x.S x.sig.length x.sc] 76)) w.heap.size 78 5 (.slice A2 k c2) k (signsOf ((t.take k).map normG)) := (own_far5 HW2.out hn2).alloc _
      have kb0 : Blk ((((((wr.setCell ⟨g, k * 5, none⟩ (.int .i64 (1 + mag x.flag % 3))).setCell ⟨g, k * 5 + 1, none⟩ (.string x.adr)).setCell ⟨g, k * 5 + 2, none⟩ (.int .i64 (x.sec.tmod 1099511627776))).setCell ⟨g, k * 5 + 3, none⟩ (.int .i64 (mag x.nan % 1000000000))).setCell ⟨g, k * 5 + 4, none⟩ (.slice x.S x.sig.length x.sc)).alloc (.cells #[.int .i64 (1 + mag x.flag % 3), .string x.adr, .int .i64 (x.sec.tmod 1099511627776), .int .i64 (mag x.nan % 1000000000), .slice x.S x.sig.length x.sc] 76)) w.heap.size 27 #[.int .i64 H, .int .i64 Rn, .slice b.S b.sum.length b.sc, .int .i64 Pn, .slice b.R b.root.length b.rc, .slice (some ⟨g, 0, none⟩) m c1] := (Blk.far5 HG0.out (fun h => n1 h.symm)).alloc _
      have kb1 : Blk ((((((wr.setCell ⟨g, k * 5, none⟩ (.int .i64 (1 + mag x.flag % 3))).setCell ⟨g, k * 5 + 1, none⟩ (.string x.adr)).setCell ⟨g, k * 5 + 2, none⟩ (.int .i64 (x.sec.tmod 1099511627776))).setCell ⟨g, k * 5 + 3, none⟩ (.int .i64 (mag x.nan % 1000000000))).setCell ⟨g, k * 5 + 4, none⟩ (.slice x.S x.sig.length x.sc)).alloc (.cells #[.int .i64 (1 + mag x.flag % 3), .string x.adr, .int .i64 (x.sec.tmod 1099511627776), .int .i64 (mag x.nan % 1000000000), .slice x.S x.sig.length x.sc] 76)) w1.heap.size 38 #[.int .i64 H, .int .i64 Rn, .slice b.S b.sum.length b.sc, .int .i64 Pn, .slice b.R b.root.length b.rc, .slice A2 k c2] := (Blk.far5 HG1.out (fun h => n2 h.symm)).alloc _
      have n3 : w.heap.size + 1 ≠ g := fun h => own_ne_blk HW1.out HG2.out (by decide) (by rw [h]; rfl)
      have n4 : w.heap.size + 1 + 1 ≠ g := fun h => own_ne_blk HW1.out HG3.out (by decide) (by rw [h]; rfl)
      have kb2 : Blk ((((((wr.setCell ⟨g, k * 5, none⟩ (.int .i64 (1 + mag x.flag % 3))).setCell ⟨g, k * 5 + 1, none⟩ (.string x.adr)).setCell ⟨g, k * 5 + 2, none⟩ (.int .i64 (x.sec.tmod 1099511627776))).setCell ⟨g, k * 5 + 3, none⟩ (.int .i64 (mag x.nan % 1000000000))).setCell ⟨g, k * 5 + 4, none⟩ (.slice x.S x.sig.length x.sc)).alloc (.cells #[.int .i64 (1 + mag x.flag % 3), .string x.adr, .int .i64 (x.sec.tmod 1099511627776), .int .i64 (mag x.nan % 1000000000), .slice x.S x.sig.length x.sc] 76)) (w.heap.size + 1) 27 #[.int .i64 0, .int .i64 0, .slice none 0 0, .int .i64 0, .slice none 0 0, .slice none 0 0] := (Blk.far5 HG2.out n3).alloc _
      have kb3 : Blk ((((((wr.setCell ⟨g, k * 5, none⟩ (.int .i64 (1 + mag x.flag % 3))).setCell ⟨g, k * 5 + 1, none⟩ (.string x.adr)).setCell ⟨g, k * 5 + 2, none⟩ (.int .i64 (x.sec.tmod 1099511627776))).setCell ⟨g, k * 5 + 3, none⟩ (.int .i64 (mag x.nan % 1000000000))).setCell ⟨g, k * 5 + 4, none⟩ (.slice x.S x.sig.length x.sc)).alloc (.cells #[.int .i64 (1 + mag x.flag % 3), .string x.adr, .int .i64 (x.sec.tmod 1099511627776), .int .i64 (mag x.nan % 1000000000), .slice x.S x.sig.length x.sc] 76)) (w.heap.size + 1 + 1) 38 #[.int .i64 0, .int .i64 0, .slice none 0 0, .int .i64 0, .slice none 0 0, .slice none 0 0] := (Blk.far5 HG3.out n4).alloc _
      have kbs : Blk ((((((wr.setCell ⟨g, k * 5, none⟩ (.int .i64 (1 + mag x.flag % 3))).setCell ⟨g, k * 5 + 1, none⟩ (.string x.adr)).setCell ⟨g, k * 5 + 2, none⟩ (.int .i64 (x.sec.tmod 1099511627776))).setCell ⟨g, k * 5 + 3, none⟩ (.int .i64 (mag x.nan % 1000000000))).setCell ⟨g, k * 5 + 4, none⟩ (.slice x.S x.sig.length x.sc)).alloc (.cells #[.int .i64 (1 + mag x.flag % 3), .string x.adr, .int .i64 (x.sec.tmod 1099511627776), .int .i64 (mag x.nan % 1000000000), .slice x.S x.sig.length x.sc] 76)) wr.heap.size 76 #[.int .i64 (1 + mag x.flag % 3), .string x.adr, .int .i64 (x.sec.tmod 1099511627776), .int .i64 (mag x.nan % 1000000000), .slice x.S x.sig.length x.sc] := by simpa using Blk.new (((((wr.setCell ⟨g, k * 5, none⟩ (.int .i64 (1 + mag x.flag % 3))).setCell ⟨g, k * 5 + 1, none⟩ (.string x.adr)).setCell ⟨g, k * 5 + 2, none⟩ (.int .i64 (x.sec.tmod 1099511627776))).setCell ⟨g, k * 5 + 3, none⟩ (.int .i64 (mag x.nan % 1000000000))).setCell ⟨g, k * 5 + 4, none⟩ (.slice x.S x.sig.length x.sc)) 76 #[.int .i64 (1 + mag x.flag % 3), .string x.adr, .int .i64 (x.sec.tmod 1099511627776), .int .i64 (mag x.nan % 1000000000), .slice x.S x.sig.length x.sc]
      have kbe : Below w.heap.size w ((((((wr.setCell ⟨g, k * 5, none⟩ (.int .i64 (1 + mag x.flag % 3))).setCell ⟨g, k * 5 + 1, none⟩ (.string x.adr)).setCell ⟨g, k * 5 + 2, none⟩ (.int .i64 (x.sec.tmod 1099511627776))).setCell ⟨g, k * 5 + 3, none⟩ (.int .i64 (mag x.nan % 1000000000))).setCell ⟨g, k * 5 + 4, none⟩ (.slice x.S x.sig.length x.sc)).alloc (.cells #[.int .i64 (1 + mag x.flag % 3), .string x.adr, .int .i64 (x.sec.tmod 1099511627776), .int .i64 (mag x.nan % 1000000000), .slice x.S x.sig.length x.sc] 76)) := (Below.far5 HB.out hg0).alloc (by simp; omega) _
      have n5 : some w1.heap.size ≠ (Value.slice A2 k c2).ownBlock := own_ne_blk HW2.out HG1.out (by decide)
      have n6 : some w.heap.size ≠ (Value.slice A2 k c2).ownBlock := own_ne_blk HW2.out HG0.out (by decide)
      have n7 : some (w.heap.size + 1) ≠ (Value.slice A2 k c2).ownBlock := own_ne_blk HW2.out HG2.out (by decide)
      have n8 : some (w.heap.size + 1 + 1) ≠ (Value.slice A2 k c2).ownBlock := own_ne_blk HW2.out HG3.out (by decide)
      have KO1 := Lib.hid ko1; have KO2 := Lib.hid ko2; have KB0 := Lib.hid kb0; have KB1 := Lib.hid kb1; have KB2 := Lib.hid kb2; have KB3 := Lib.hid kb3; have KBS := Lib.hid kbs; have KBE := Lib.hid kbe
      have HN := Lib.hid (And.intro hn2 (And.intro n5 (And.intro n6 (And.intro n7 n8))))
      clear ko1 ko2 kb0 kb1 kb2 kb3 kbs kbe hn2 n3 n4 n5 n6 n7 n8 x0 x1 x2 x3 x4 r5 u5 uf hf
      generalize ((((((wr.setCell ⟨g, k * 5, none⟩ (.int .i64 (1 + mag x.flag % 3))).setCell ⟨g, k * 5 + 1, none⟩ (.string x.adr)).setCell ⟨g, k * 5 + 2, none⟩ (.int .i64 (x.sec.tmod 1099511627776))).setCell ⟨g, k * 5 + 3, none⟩ (.int .i64 (mag x.nan % 1000000000))).setCell ⟨g, k * 5 + 4, none⟩ (.slice x.S x.sig.length x.sc)).alloc (.cells #[.int .i64 (1 + mag x.flag % 3), .string x.adr, .int .i64 (x.sec.tmod 1099511627776), .int .i64 (mag x.nan % 1000000000), .slice x.S x.sig.length x.sc] 76)) = W at KO1 KO2 KB0 KB1 KB2 KB3 KBS KBE ⊢
      have kb1 := KB1.out; have kbs := KBS.out
      have u5 : W.cell? ⟨w1.heap.size, 5, none⟩ = some (.slice A2 k c2) := kb1.cell 5
      have y0 : W.cell? ⟨wr.heap.size, 0, none⟩ = some (.int .i64 (1 + mag x.flag % 3)) := kbs.cell 0
      have y1 : W.cell? ⟨wr.heap.size, 1, none⟩ = some (.string x.adr) := kbs.cell 1
      have y2 : W.cell? ⟨wr.heap.size, 2, none⟩ = some (.int .i64 (x.sec.tmod 1099511627776)) := kbs.cell 2
      have y3 : W.cell? ⟨wr.heap.size, 3, none⟩ = some (.int .i64 (mag x.nan % 1000000000)) := kbs.cell 3
      have y4 : W.cell? ⟨wr.heap.size, 4, none⟩ = some (.slice x.S x.sig.length x.sc) := kbs.cell 4
      have lz : w1.heap.size < W.heap.size := kb1.lt
      have lz2 : wr.heap.size < W.heap.size := kbs.lt
      have lz3 : w.heap.size ≤ W.heap.size := KBE.out.size
      clear kb1 kbs
      go_wp2_with (at_builtin; refine wpList_app _ rfl (.tmp 95) (.tmp 105) 36 rfl w.heap.size 78 i0 _ 5 64 Tryd.underlying36 HI.out HZ0.out HZ1.out HZ2.out rfl (by decide) (.slice A2 k c2) k (signsOf ((t.take k).map normG)) rfl (KO2.out.alloc _) (W.heap.size + 1) (some ⟨W.heap.size, 0, none⟩) 1 1 (normG x).cells rfl ?hr (Sg.cells_one _) ?q1 ?q2 ?hb ?_; (case hr => exact Rd.new W #[.int .i64 (1 + mag x.flag % 3), .string x.adr, .int .i64 (x.sec.tmod 1099511627776), .int .i64 (mag x.nan % 1000000000), .slice x.S x.sig.length x.sc] 78 5 1 W.heap.size rfl rfl); (case q1 => simp only [maxLen]; omega); (case q2 => omega); (case hb => simp; omega); intro A3 c3 w3 ho3 hg3 _; have KO3 := Lib.hid ho3; have KG3 := Lib.hid hg3; have kb3 := (KB1.out.alloc (.cells #[.int .i64 (1 + mag x.flag % 3), .string x.adr, .int .i64 (x.sec.tmod 1099511627776), .int .i64 (mag x.nan % 1000000000), .slice x.S x.sig.length x.sc] 78)).grown hg3 HN.out.2.1; have uf : ∀ i, w3.frozen? ⟨w1.heap.size, i, none⟩ = false := (fun i => kb3.free i); have u5' : w3.cell? ⟨w1.heap.size, 5, none⟩ = some (.slice A2 k c2) := kb3.cell 5; have KB3' := Lib.hid kb3; clear ho3 hg3 kb3 y0 y1 y2 y3 y4 u5)
      have e3 : (Value.slice A3 (k + 1) c3).ownBlock = (Value.slice A3 (k + 1) c3).ownBlock := rfl
      go_roundw
      case rel =>
        refine ⟨k + 1, A3, c3, by omega, by go_num, ?_, ?_, ?_, ?_, ?_, ?_, ?_⟩
        · exact ((KB0.out.alloc _).grown KG3.out HN.out.2.2.1).far (p := ⟨w1.heap.size, 5, none⟩) (show w.heap.size ≠ w1.heap.size by omega) _
        · exact KB3'.out.last6
        · exact ((KB2.out.alloc _).grown KG3.out HN.out.2.2.2.1).far (p := ⟨w1.heap.size, 5, none⟩) (show w.heap.size + 1 ≠ w1.heap.size by omega) _
        · exact ((KB3.out.alloc _).grown KG3.out HN.out.2.2.2.2).far (p := ⟨w1.heap.size, 5, none⟩) (show w.heap.size + 1 + 1 ≠ w1.heap.size by omega) _
        · refine own_far ((KO1.out.alloc _).kept KG3.out (.inr HN.out.1)) (p := ⟨w1.heap.size, 5, none⟩) (fun h => n2 (Option.some.inj h).symm) _
        · have h1 := own_far KO3.out (p := ⟨w1.heap.size, 5, none⟩) (own_ne_blk KO3.out KB3'.out (by decide)) (.slice A3 (k + 1) c3)
          rw [HST.out]
          unfold signsOf at h1 ⊢
          rw [List.flatMap_append, List.flatMap_singleton]
          exact h1
        · exact ((KBE.out.alloc lz3 _).grown KG3.out (by simp; omega) (fun q hq => (KO2.out.lt q hq).1)).setCell (p := ⟨w1.heap.size, 5, none⟩) (by show w.heap.size ≤ w1.heap.size; omega) _
      case measure => simp [intOf]; omega
    · obtain rfl : k = m := by omega
      have ha1 := HW1.out
      have ha2 := HW2.out
      rw [mapTo_full _ _ _ (by have := HT.out; omega)] at ha1
      rw [List.take_of_length_le (by have := HT.out; omega)] at ha2
      have HA1 := Lib.hid ha1; have HA2 := Lib.hid ha2
      clear ha1 ha2 HW1 HW2
      have g0 := HG0.out; have g1 := HG1.out; have g2 := HG2.out; have g3 := HG3.out
      have v0 : ∀ i, wr.cell? ⟨w.heap.size, i, none⟩ = (#[.int .i64 H, .int .i64 Rn, .slice b.S b.sum.length b.sc, .int .i64 Pn, .slice b.R b.root.length b.rc, .slice A1 k c1] : Array Value)[i]? := fun i => g0.cell i
      have v1 : ∀ i, wr.cell? ⟨w1.heap.size, i, none⟩ = (#[.int .i64 H, .int .i64 Rn, .slice b.S b.sum.length b.sc, .int .i64 Pn, .slice b.R b.root.length b.rc, .slice A2 k c2] : Array Value)[i]? := fun i => g1.cell i
      have v2 : ∀ i, wr.cell? ⟨w.heap.size + 1, i, none⟩ = (#[.int .i64 0, .int .i64 0, .slice none 0 0, .int .i64 0, .slice none 0 0, .slice none 0 0] : Array Value)[i]? := fun i => g2.cell i
      have v3 : ∀ i, wr.cell? ⟨w.heap.size + 1 + 1, i, none⟩ = (#[.int .i64 0, .int .i64 0, .slice none 0 0, .int .i64 0, .slice none 0 0, .slice none 0 0] : Array Value)[i]? := fun i => g3.cell i
      have f2 : ∀ i, wr.frozen? ⟨w.heap.size + 1, i, none⟩ = false := fun i => g2.free i
      have f3 : ∀ i, wr.frozen? ⟨w.heap.size + 1 + 1, i, none⟩ = false := fun i => g3.free i
      clear g0 g1 g2 g3
      go_wp2
      go_region
      go_wp2
      (try simp only [Exit.inBlock, Exit.then])
      refine bodyPost_ret (results_cell2_row rfl _ _ (w.heap.size + 1) (w.heap.size + 1 + 1) 27 38 #[.int .i64 H, .int .i64 Rn, .slice b.S b.sum.length b.sc, .int .i64 Pn, .slice b.R b.root.length b.rc, .slice A1 k c1] #[.int .i64 H, .int .i64 Rn, .slice b.S b.sum.length b.sc, .int .i64 Pn, .slice b.R b.root.length b.rc, .slice A2 k c2] (0, 0) (0, 0) _ _ rfl ?hb1 Tryd.underlying27 rfl (by kernel_rfl) rfl ?hb2 Tryd.underlying38 rfl (by kernel_rfl)) rfl ⟨A1, c1, A2, c2, k, rfl, hm60, ?_, ?_, ?_⟩
      case hb1 => exact (Blk.far6 (Blk.fill6 HG2.out) (show w.heap.size + 1 ≠ w.heap.size + 1 + 1 by omega)).drew
      case hb2 => exact (Blk.fill6 (Blk.far6 HG3.out (show w.heap.size + 1 + 1 ≠ w.heap.size + 1 by omega))).drew
      · exact rd_far12 HA1.out (own_ne_blk HA1.out HG2.out (by decide)) (own_ne_blk HA1.out HG3.out (by decide))
      · exact rd_far12 HA2.out (own_ne_blk HA2.out HG2.out (by decide)) (own_ne_blk HA2.out HG3.out (by decide))
      · exact below_far12 HB.out (Nat.le_succ _) (Nat.le_succ_of_le (Nat.le_succ _))
end Go.Proofs.YtikikddkhikfkaaDoor
