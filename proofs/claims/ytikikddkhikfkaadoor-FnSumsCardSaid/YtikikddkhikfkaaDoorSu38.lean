/-
  types.Seats and impl.ours: walks. By the session. impl.Scaled and spec.Scaled: walks. By the session. IncrementProposerPriority: the walk. By the session. Validator.Copy, GetProposer, impl.first, impl.Turned: walks. By the session. spec.Total, spec.Ahead, spec.First: walks. By the session. spec.First: the walk. By the session.
-/
import Derived.Test.YtikikddkhikfkaaDoorSu2
import Derived.Test.YtikikddkhikfkaaDoorSu36
import Derived.Test.YtikikddkhikfkaaDoorSu10
import Derived.RegionTactic
import Derived.Deep.RegionHeld3
import Derived.Test.YtikikddkhikfkaaDoorSu21
import Derived.Test.YtikikddkhikfkaaDoorSu20
import Derived.Test.YtikikddkhikfkaaDoorSu37
set_option linter.unusedSimpArgs false
namespace Go.Proofs.YtikikddkhikfkaaDoor
open Go.RowKit

end Go.Proofs.YtikikddkhikfkaaDoor

set_option linter.unusedSimpArgs false
namespace Go.Proofs.YtikikddkhikfkaaDoor
open Go.RowKit

theorem setOf_span (l : List Sd) (hne : l ≠ []) (hp : ∀ x ∈ l, -1152921504606846976 < x.pri ∧ x.pri < 1152921504606846976) : 0 ≤ spanOf l ∧ spanOf l ≤ 2305843009213693950 := by
  have := span_bd l (-1152921504606846975) 1152921504606846975 (by omega) (by omega) hne (fun s hs => by have := hp s hs; omega)
  omega


theorem add_zero4 (a : Addr) : a.add (0 * 4) = a := by simp [Addr.add]
/-- the span from the first seat on -/
theorem span_from (s : Sd) (r : List Sd) (hp : ∀ x ∈ s :: r, -1152921504606846976 < x.pri ∧ x.pri < 1152921504606846976) : spanOf (s :: r) = mxf s.pri (prisOf (s :: r)) - mnf s.pri (prisOf (s :: r)) := by
  have h := hp s (List.mem_cons_self ..)
  have e1 : mxf (-9223372036854775808) (prisOf (s :: r)) = mxf s.pri (prisOf (s :: r)) := by
    simp only [mxf, prisOf, List.map_cons, List.foldl_cons]
    congr 1
    split <;> split <;> omega
  have e2 : mnf 9223372036854775807 (prisOf (s :: r)) = mnf s.pri (prisOf (s :: r)) := by
    simp only [mnf, prisOf, List.map_cons, List.foldl_cons]
    congr 1
    split <;> split <;> omega
  unfold spanOf
  rw [e1, e2]

end Go.Proofs.YtikikddkhikfkaaDoor

set_option linter.unusedSimpArgs false
namespace Go.Proofs.YtikikddkhikfkaaDoor
open Go.RowKit

/-- a seat but for its priority -/
def core (s : Sd) : Sd := { s with pri := 0 }
theorem core_addP (s : Sd) : core (addP s) = core s := rfl
theorem core_subP (a : Int) (s : Sd) : core (subP a s) = core s := rfl
theorem core_divP (a : Int) (s : Sd) : core (divP a s) = core s := rfl
theorem map_core {f : Sd → Sd} (hf : ∀ s, core (f s) = core s) (l : List Sd) : (l.map f).map core = l.map core := by
  rw [List.map_map]; exact List.map_congr_left (fun s _ => hf s)
theorem turnOf_core (T : Int) (l : List Sd) : (turnOf T l).map core = l.map core := by
  unfold turnOf
  cases hq : propOf (l.map addP) with
  | none => exact map_core core_addP l
  | some q =>
    have hne : l.map addP ≠ [] := fun e => by rw [e] at hq; simp [propOf] at hq
    obtain ⟨q', h1, h2⟩ := propOf_at _ hne
    rw [hq] at h1; cases h1
    simp only [List.map_set]
    rw [core_subP, map_core core_addP]
    have e := map_core core_addP l
    have h3 : (l.map core)[q.2]? = some (core q.1) := by
      rw [← e, List.getElem?_map, h2]; rfl
    have h4 := List.getElem?_eq_some_iff.1 h3
    rw [← h4.2]; exact List.set_getElem_self h4.1
theorem totL_core (l : List Sd) : totL (l.map core) = totL l := by
  unfold totL powsOf; rw [List.map_map]; rfl
theorem totL_of_core {l l' : List Sd} (h : l'.map core = l.map core) : totL l' = totL l := by rw [← totL_core l', h, totL_core]
theorem length_of_core {l l' : List Sd} (h : l'.map core = l.map core) : l'.length = l.length := by have := congrArg List.length h; simpa using this
theorem distinct_of_core {l l' : List Sd} (h : l'.map core = l.map core) (hd : distinct l) : distinct l' := by
  have h1 : distinct (l'.map core) := by rw [h]; exact distinct_map hd _ (fun _ => rfl)
  intro i j x y hx hy hij
  exact h1 i j (core x) (core y) (by rw [List.getElem?_map, hx]; rfl) (by rw [List.getElem?_map, hy]; rfl) hij
theorem pow_of_core {l l' : List Sd} (h : l'.map core = l.map core) {p : Int → Prop} (hp : ∀ s ∈ l, p s.pow) : ∀ s ∈ l', p s.pow := by
  intro s hs
  have h1 : core s ∈ l.map core := by rw [← h]; exact List.mem_map_of_mem hs
  obtain ⟨t, ht, e⟩ := List.mem_map.1 h1
  have : t.pow = s.pow := (congrArg Sd.pow e : (core t).pow = (core s).pow)
  rw [← this]; exact hp t ht
theorem turnOf_in (T : Int) (l : List Sd) : ∀ s ∈ turnOf T l, in64 s.pri := by
  intro s hs
  have h1 : ∀ s ∈ l.map addP, in64 s.pri := fun s hs => by
    obtain ⟨t, _, rfl⟩ := List.mem_map.1 hs
    exact clip_in _
  unfold turnOf at hs
  split at hs
  · exact h1 s hs
  · rcases List.mem_or_eq_of_mem_set hs with h | h
    · exact h1 s h
    · rw [h]; exact clip_in _
/-- so many turns -/
def turnsL (T : Int) : Nat → List Sd → List Sd
  | 0, l => l
  | k + 1, l => turnOf T (turnsL T k l)
theorem turnsL_core (T : Int) (l : List Sd) : ∀ k, (turnsL T k l).map core = l.map core
  | 0 => rfl
  | k + 1 => (turnOf_core T _).trans (turnsL_core T l k)
theorem turnsL_in (T : Int) (l : List Sd) (h : ∀ s ∈ l, in64 s.pri) : ∀ k, ∀ s ∈ turnsL T k l, in64 s.pri
  | 0 => h
  | _ + 1 => turnOf_in T _
theorem scaleL_core (a : Int) (l : List Sd) : (scaleL a l).map core = l.map core := by
  unfold scaleL
  split
  · rfl
  · split
    · exact map_core (core_divP _) l
    · rfl
theorem shiftL_core (l : List Sd) : (shiftL l).map core = l.map core := map_core (core_subP _) l
theorem scaleL_pri (a : Int) (l : List Sd) (B : Int) (h : ∀ s ∈ l, -B ≤ s.pri ∧ s.pri ≤ B) : ∀ s ∈ scaleL a l, -B ≤ s.pri ∧ s.pri ≤ B := by
  intro s hs
  unfold scaleL at hs
  split at hs
  · exact h s hs
  · split at hs
    · obtain ⟨t, ht, rfl⟩ := List.mem_map.1 hs
      have hb := h t ht
      generalize (spanOf l + a - 1) / a = r at *
      have h1 : (t.pri.tdiv r).natAbs ≤ t.pri.natAbs := by rw [Int.natAbs_tdiv]; exact Nat.div_le_self _ _
      simp only [divP]; omega
    · exact h s hs
/-- a set behind k turns, from its seats as they were -/
def startL (l : List Sd) : List Sd := shiftL (scaleL (2 * totL l) l)
theorem startL_core (l : List Sd) : (startL l).map core = l.map core := (shiftL_core _).trans (scaleL_core _ _)
theorem startL_in (l : List Sd) : ∀ s ∈ startL l, in64 s.pri := by
  intro s hs
  obtain ⟨t, _, rfl⟩ := List.mem_map.1 hs
  exact clip_in _

theorem tot_both (lo g : Nat) (A : Option Addr) (c : Nat) (bs : List Nat) (ts : List Tv) (prop : Value) (tot : Int) (same : Bool) (w : World) (h : VSet w lo g A c bs ts prop tot same) (hn : bs.length ≤ 1000)
    (hp : ∀ t ∈ ts, 0 ≤ t.x.pow ∧ t.x.pow ≤ 1125899906842624) (ht : tot = 0 ∨ tot = totL (ts.map Tv.x)) :
    Calls Tryd.prog 47 #[ptrTo g] w fun e w' => e = .returned (.int .i64 (totL (ts.map Tv.x))) ∧ VSet w' lo g A c bs ts prop (totL (ts.map Tv.x)) same ∧ OnlyV g bs w w' := by
  by_cases h0 : tot = 0
  · subst h0
    refine (tot_new lo g A c bs ts prop same w h hn hp).mono ?_
    rintro e w' ⟨rfl, rfl⟩
    exact ⟨rfl, h.setTot _, OnlyV.putHead _ _ _⟩
  · rcases ht with h1 | h1
    · exact absurd h1 h0
    · refine (tot_any lo g A c bs ts prop tot same w h h0).mono ?_
      rintro e w' ⟨rfl, rfl⟩
      rw [← h1]
      exact ⟨rfl, h, OnlyV.refl _ _ _⟩

end Go.Proofs.YtikikddkhikfkaaDoor

set_option linter.unusedSimpArgs false
namespace Go.Proofs.YtikikddkhikfkaaDoor
open Go.RowKit

theorem vcopy_any (b : Nat) (t : Tv) (w : World) (h : Blk w b 157 t.val) :
    Calls Tryd.prog 103 #[ptrTo b] w fun e w' => e = .returned (ptrTo w.heap.size) ∧ w' = w.alloc (.cells t.val 157) := by
  unfold ptrTo
  obtain ⟨c0, c1, c2, c3⟩ := t.val_cells h
  clear h
  go_enter Tryd.func103, Tryd.ntmps103
  go_wp2
  go_ret
  exact ⟨rfl, rfl⟩

theorem getProp_any (lo g : Nat) (A : Option Addr) (c : Nat) (bs : List Nat) (ts : List Tv) (b : Nat) (t : Tv) (tot : Int) (same : Bool) (w : World) (h : VSet w lo g A c bs ts (ptrTo b) tot same) (hn0 : 0 < bs.length) (hb : Blk w b 157 t.val) :
    Calls Tryd.prog 80 #[ptrTo g] w fun e w' => e = .returned (ptrTo w.heap.size) ∧ w' = w.alloc (.cells t.val 157) := by
  have KC := Lib.hid (vcopy_any b t w hb)
  have h0 : w.cell? ⟨g, 0, none⟩ = some (.slice A bs.length c) := h.head.cell 0
  have h1 : w.cell? ⟨g, 1, none⟩ = some (ptrTo b) := h.head.cell 1
  have hz : ((bs.length : Int) == 0) = false := by rw [beq_eq_false_iff_ne]; omega
  unfold ptrTo at *
  clear h hb
  go_enter Tryd.func80, Tryd.ntmps80
  go_wp2_with (go_at_call 103; refine KC.out.mono ?_; rintro e w1 ⟨rfl, rfl⟩)
  go_ret
  exact ⟨rfl, rfl⟩

theorem first_any (lo g : Nat) (A : Option Addr) (c : Nat) (bs : List Nat) (ts : List Tv) (b : Nat) (t : Tv) (tot : Int) (same : Bool) (w : World) (h : VSet w lo g A c bs ts (ptrTo b) tot same) (hn0 : 0 < bs.length) (hb : Blk w b 157 t.val) (hok : t.ok w) :
    Calls Tryd.prog 48 #[ptrTo g] w fun e w' => e = .returned (.string t.x.adr) ∧ Below w.heap.size w w' := by
  have KC := Lib.hid (getProp_any lo g A c bs ts b t tot same w h hn0 hb)
  have hw1 : Blk (w.alloc (.cells t.val 157)) w.heap.size 157 t.val := Blk.new _ _ _
  obtain ⟨c0, _⟩ := t.val_cells hw1
  have hto := hok.keep (KeepB.alloc w (.cells t.val 157))
  have kc := hto.1.back (P := Tryd.prog) 79 9 t.c Tryd.underlying79 Tryd.underlying5 Tryd.underlying9
  have hb1 := Lib.hid ((Below.refl w.heap.size w).alloc (Nat.le_refl _) (.cells t.val 157))
  unfold ptrTo at *
  clear h hb hok hto hw1
  go_enter Tryd.func48, Tryd.ntmps48
  go_wp2_with (go_at_call 80; refine KC.out.mono ?_; rintro e w1 ⟨rfl, rfl⟩)
  go_ret
  exact ⟨rfl, hb1.out⟩

/-- who proposes in the next turn -/
def nextP (l : List Sd) : ByteArray :=
  match propOf (l.map addP) with
  | none => .empty
  | some q => q.1.adr
theorem nextP_at {l l' : List Sd} (h : l'.map core = l.map core) (hne : l ≠ []) : ∃ q, propOf (l'.map addP) = some q ∧ nextP l' = q.1.adr ∧ ∃ x, l[q.2]? = some x ∧ x.adr = q.1.adr := by
  have hne' : l'.map addP ≠ [] := fun e => by
    have h1 := congrArg List.length e
    have h2 := length_of_core h
    simp at h1
    rw [h1] at h2
    exact hne (List.length_eq_zero_iff.1 h2.symm)
  obtain ⟨q, h1, h2⟩ := propOf_at _ hne'
  refine ⟨q, h1, by unfold nextP; rw [h1], ?_⟩
  have h3 : (l.map core)[q.2]? = some (core q.1) := by
    rw [← h, ← map_core core_addP l', List.getElem?_map, h2]; rfl
  rw [List.getElem?_map] at h3
  cases hx : l[q.2]? with
  | none => rw [hx] at h3; simp at h3
  | some x =>
    rw [hx] at h3
    simp only [Option.map_some, Option.some.injEq] at h3
    exact ⟨x, rfl, (congrArg Sd.adr h3 : (core x).adr = (core q.1).adr)⟩

/-- what the laws ask of a list of seats that takes turns -/
structure turnable (l : List Sd) : Prop where
  ne : l ≠ []
  len : l.length ≤ 500
  dist : distinct l
  pri : ∀ x ∈ l, -1152921504606846976 < x.pri ∧ x.pri < 1152921504606846976
  pow : ∀ x ∈ l, 1 ≤ x.pow ∧ x.pow ≤ 1125899906842624

end Go.Proofs.YtikikddkhikfkaaDoor

set_option linter.unusedSimpArgs false
namespace Go.Proofs.YtikikddkhikfkaaDoor
open Go.RowKit

theorem aheadB_anti {x y : Sd} (h : x.adr.toList ≠ y.adr.toList) : aheadB x y = !aheadB y x := by
  unfold aheadB
  have hb := bytesLess_anti _ _ h
  by_cases h1 : y.pri < x.pri
  · have h2 : ¬ x.pri < y.pri := by omega
    have h3 : ¬ y.pri = x.pri := by omega
    simp [h1, h2, h3]
  · by_cases h2 : x.pri < y.pri
    · have h3 : ¬ x.pri = y.pri := by omega
      simp [h1, h2, h3]
    · have h3 : x.pri = y.pri := by omega
      rw [hb]
      simp [h3]

set_option maxHeartbeats 800000 in
theorem stotal_any (l : List Sd) (A : Option Addr) (n c : Nat) (w : World) (hr : Rd w w.heap.size 4 A n (cellsOf l)) (hn : n ≤ 1000) (hp : ∀ x ∈ l, 0 ≤ x.pow ∧ x.pow ≤ 1125899906842624) :
    Calls Tryd.prog 18 #[.slice A n c] w fun e w' => e = .returned (.int .i64 (totL l)) ∧ Below w.heap.size w w' := by
  have HL := Lib.hid hr.len
  have HR := Lib.hid hr; have HP := Lib.hid hp; clear hr hp
  go_enter Tryd.func18, Tryd.ntmps18
  go_wp2
  go_loopw [3, 8] (fun s i wr => ∃ k : Nat, k ≤ n ∧ i = .int .i64 k ∧ s = .int .i64 (sumI ((powsOf l).take k)) ∧ Hid (Below w.heap.size w wr)) (fun _ i _ => n - (intOf i).toNat)
  case atStart => exact ⟨0, Nat.zero_le _, rfl, rfl, Below.refl _ _⟩
  case round =>
    obtain ⟨k, hk, rfl, rfl, HB⟩ := hrel
    by_cases hlt : k < n
    · have hk' : k < l.length := by have := HL.out; omega
      have hx : l[k]? = some l[k] := List.getElem?_eq_getElem hk'
      obtain ⟨ad, rfl, _, c0, c1, c2, c3⟩ := (HR.out.below HB.out).seat hx
      have hpx := HP.out _ (List.getElem_mem hk')
      have hst : (powsOf l).take (k + 1) = (powsOf l).take k ++ [l[k].pow] := by
        have hl2 : k < (powsOf l).length := by simpa [powsOf] using hk'
        rw [List.take_succ_eq_append_getElem hl2]; simp [powsOf]
      have hbd := sumI_bd ((powsOf l).take k) 0 1125899906842624 (fun x hx => by
        obtain ⟨s, hs, rfl⟩ := List.mem_map.1 (List.mem_of_mem_take hx)
        exact HP.out s hs)
      have hlen : ((powsOf l).take k).length ≤ k := List.length_take_le _ _
      generalize ((powsOf l).take k).length = m at *
      generalize l[k] = x at *
      have hs := sumI_snoc ((powsOf l).take k) x.pow
      rw [← hst] at hs
      generalize sumI ((powsOf l).take k) = s at *
      have HS := Lib.hid hs; clear hs hst hx
      go_wp2
      go_roundw
      case rel => exact ⟨k + 1, by omega, by go_num, by rw [HS.out], HB.out.alloc HB.out.size _⟩
      case measure => simp [intOf]; omega
    · obtain rfl : k = n := by omega
      have hsum : sumI ((powsOf l).take k) = totL l := by
        unfold totL; rw [List.take_of_length_le (by have := HL.out; simp [powsOf]; omega)]
      rw [hsum]
      clear hsum
      go_wp2
      go_ret
      exact ⟨rfl, HB.out⟩

set_option maxHeartbeats 800000 in
theorem ahead_any (x y : Sd) (w : World) :
    Calls Tryd.prog 51 #[.agg #[.string x.adr, .string x.key, .int .i64 x.pow, .int .i64 x.pri], .agg #[.string y.adr, .string y.key, .int .i64 y.pow, .int .i64 y.pri]] w fun e w' => e = .returned (.bool (aheadB x y)) ∧ Below w.heap.size w w' := by
  have hb := Lib.hid (((Below.refl w.heap.size w).alloc (Nat.le_refl _) (.cells #[.string x.adr, .string x.key, .int .i64 x.pow, .int .i64 x.pri] 59)).alloc (by simp) (.cells #[.string y.adr, .string y.key, .int .i64 y.pow, .int .i64 y.pri] 59))
  by_cases h : x.pri = y.pri
  · have h1 : (x.pri == y.pri) = true := by simpa using h
    have h2 : aheadB x y = Op.bytesLess x.adr.toList y.adr.toList := by simp [aheadB, h]
    have H2 := Lib.hid h2; clear h2 h
    go_enter Tryd.func51, Tryd.ntmps51
    go_wp2
    go_ret
    rw [H2.out]
    exact ⟨rfl, hb.out⟩
  · have h1 : (x.pri == y.pri) = false := by simpa using h
    have h2 : aheadB x y = decide (y.pri < x.pri) := by simp [aheadB, h]
    have H2 := Lib.hid h2; clear h2 h
    go_enter Tryd.func51, Tryd.ntmps51
    go_wp2
    go_ret
    rw [H2.out]
    exact ⟨rfl, hb.out⟩
end Go.Proofs.YtikikddkhikfkaaDoor

set_option linter.unusedSimpArgs false
namespace Go.Proofs.YtikikddkhikfkaaDoor
open Go.RowKit

def ixOf : Option (Sd × Nat) → Int
  | none => -1
  | some q => q.2

set_option maxRecDepth 100000 in
set_option maxHeartbeats 3200000 in
theorem sfirst_any (l : List Sd) (A : Option Addr) (n c : Nat) (w : World) (hr : Rd w w.heap.size 4 A n (cellsOf l)) (hn : n ≤ 1000) (hd : distinct l) :
    Calls Tryd.prog 19 #[.slice A n c] w fun e w' => e = .returned (.int .i64 (ixOf (propOf l))) ∧ Below w.heap.size w w' := by
  have HL := Lib.hid hr.len
  have HR := Lib.hid hr; have HD := Lib.hid hd; clear hr hd
  go_enter Tryd.func19, Tryd.ntmps19
  go_wp2
  go_loopw [3, 7] (fun v i wr => ∃ k : Nat, k ≤ n ∧ i = .int .i64 k ∧ v = .int .i64 (ixOf ((l.zipIdx.take k).foldl pstep none)) ∧ Hid (∀ q, (l.zipIdx.take k).foldl pstep none = some q → q.2 < k ∧ l[q.2]? = some q.1) ∧ Hid (Below w.heap.size w wr)) (fun _ i _ => n - (intOf i).toNat)
  case atStart => exact ⟨0, Nat.zero_le _, rfl, rfl, (fun q hq => by simp at hq), Below.refl _ _⟩
  case round =>
    obtain ⟨k, hk, rfl, rfl, HQ, HB⟩ := hrel
    by_cases hlt : k < n
    · have hk' : k < l.length := by have := HL.out; omega
      have hx : l[k]? = some l[k] := List.getElem?_eq_getElem hk'
      have hxk : l.zipIdx[k]? = some (l[k], k) := by rw [List.getElem?_zipIdx, hx]; simp
      have hnx := foldl_take_succ pstep none l.zipIdx k _ hxk
      have hrr := HR.out.below HB.out
      obtain ⟨ad, rfl, hadb, c0, c1, c2, c3⟩ := hrr.seat hx
      generalize l[k] = x at *
      have HNX := Lib.hid hnx; have HX := Lib.hid hx; clear hnx hx hxk
      cases hbest : (l.zipIdx.take k).foldl pstep none with
      | none =>
        rw [hbest] at HNX
        simp only [ixOf]
        clear hrr c0 c1 c2 c3
        go_wp2_with fail
        refine wp_region_L (fun w' : World => w' = wr.drew) 12 (by kernel_rfl) ?_
        refine wpAnyL_take 0 (v := .int .i64 (-1)) rfl (by kernel_rfl) (fun _ _ _ h => h) (yields_in rfl (fun w' hw' => by subst hw'; go_simp)) rfl ?_
        simp only [Act.put, List.setIfInBounds_toArray, List.set_cons_zero, List.set_cons_succ]
        refine wpAnyL_take 1 (v := .bool true) rfl (by kernel_rfl) (fun _ _ _ h => h) (yields_in rfl (fun w' hw' => by subst hw'; go_simp)) rfl ?_
        simp only [Act.put, List.setIfInBounds_toArray, List.set_cons_zero, List.set_cons_succ]
        refine wpAnyL_take 2 (v := .bool true) rfl (by kernel_rfl) (fun _ _ _ h => h) (yields_in rfl (fun w' hw' => by subst hw'; go_simp)) rfl ?_
        simp only [Act.put, List.setIfInBounds_toArray, List.set_cons_zero, List.set_cons_succ]
        refine wpAnyL_take 3 (v := undef) rfl (by kernel_rfl) (fun _ _ _ h => h) (yields_off (by kernel_rfl)) rfl ?_
        simp only [Act.put, List.setIfInBounds_toArray, List.set_cons_zero, List.set_cons_succ]
        refine wpAnyL_take 4 (v := undef) rfl (by kernel_rfl) (fun _ _ _ h => h) (yields_off (by kernel_rfl)) rfl ?_
        simp only [Act.put, List.setIfInBounds_toArray, List.set_cons_zero, List.set_cons_succ]
        refine wpAnyL_take 5 (v := undef) rfl (by kernel_rfl) (fun _ _ _ h => h) (yields_off (by kernel_rfl)) rfl ?_
        simp only [Act.put, List.setIfInBounds_toArray, List.set_cons_zero, List.set_cons_succ]
        refine wpAnyL_take 6 (v := undef) rfl (by kernel_rfl) (fun _ _ _ h => h) (yields_off (by kernel_rfl)) rfl ?_
        simp only [Act.put, List.setIfInBounds_toArray, List.set_cons_zero, List.set_cons_succ]
        refine wpAnyL_take 7 (v := undef) rfl (by kernel_rfl) (fun _ _ _ h => h) (yields_off (by kernel_rfl)) rfl ?_
        simp only [Act.put, List.setIfInBounds_toArray, List.set_cons_zero, List.set_cons_succ]
        refine wpAnyL_take 8 (v := undef) rfl (by kernel_rfl) (fun _ _ _ h => h) (yields_off (by kernel_rfl)) rfl ?_
        simp only [Act.put, List.setIfInBounds_toArray, List.set_cons_zero, List.set_cons_succ]
        refine wpAnyL_take 9 (v := undef) rfl (by kernel_rfl) (fun _ _ _ h => h) (yields_off (by kernel_rfl)) rfl ?_
        simp only [Act.put, List.setIfInBounds_toArray, List.set_cons_zero, List.set_cons_succ]
        refine wpAnyL_take 10 (v := undef) rfl (by kernel_rfl) (fun _ _ _ h => h) (yields_off (by kernel_rfl)) rfl ?_
        simp only [Act.put, List.setIfInBounds_toArray, List.set_cons_zero, List.set_cons_succ]
        refine wpAnyL_off 11 rfl (by kernel_rfl) (by kernel_rfl) rfl ?_
        simp only [Act.put, List.setIfInBounds_toArray, List.set_cons_zero, List.set_cons_succ]
        refine wpAnyL_one 12 rfl (by kernel_rfl) rfl ?_
        go_simp
        refine wpAnyL_done (by kernel_rfl) ?_ _
        go_wp2
        go_roundw
        case rel => exact ⟨k + 1, by omega, by go_num, by rw [HNX.out]; rfl, (fun q hq => by rw [HNX.out] at hq; simp only [pstep, Option.some.injEq] at hq; subst hq; exact ⟨Nat.lt_succ_self _, HX.out⟩), HB.out.drew⟩
        case measure => simp [intOf]; omega
      | some q =>
        obtain ⟨hqk, hqa⟩ := HQ.out q hbest
        obtain ⟨ad', h', _, d0, d1, d2, d3⟩ := hrr.seat hqa
        obtain rfl := Option.some.inj h'
        have hne : q.1.adr.toList ≠ x.adr.toList := HD.out q.2 k q.1 x hqa HX.out (by omega)
        have hqn : q.2 < n := by omega
        have hst : pstep (some q) (x, k) = if aheadB q.1 x then some q else some (x, k) := by
          have e1 : (q.1.adr.toList == x.adr.toList) = false := by simpa using hne
          simp only [pstep, e1, Bool.false_or]
        rw [hbest, hst] at HNX
        have hanti : aheadB x q.1 = !aheadB q.1 x := aheadB_anti (fun e => hne e.symm)
        have KC := Lib.hid (fun W => ahead_any x q.1 W)
        rw [hanti] at KC
        have HQA := Lib.hid hqa
        simp only [ixOf]
        clear hrr hbest hst hanti hne hqa h'
        obtain ⟨y, m⟩ := q
        simp only at *
        go_wp2_with fail
        have hS : (fun w' : World => Below wr.heap.size wr w' ∧ w'.cell? (ad.add (k * 4)) = some (.string x.adr) ∧ w'.cell? ⟨(ad.add (k * 4)).block, (ad.add (k * 4)).off + 1, none⟩ = some (.string x.key) ∧ w'.cell? ⟨(ad.add (k * 4)).block, (ad.add (k * 4)).off + 2, none⟩ = some (.int .i64 x.pow) ∧ w'.cell? ⟨(ad.add (k * 4)).block, (ad.add (k * 4)).off + 3, none⟩ = some (.int .i64 x.pri)
          ∧ w'.cell? (ad.add (m * 4)) = some (.string y.adr) ∧ w'.cell? ⟨(ad.add (m * 4)).block, (ad.add (m * 4)).off + 1, none⟩ = some (.string y.key) ∧ w'.cell? ⟨(ad.add (m * 4)).block, (ad.add (m * 4)).off + 2, none⟩ = some (.int .i64 y.pow) ∧ w'.cell? ⟨(ad.add (m * 4)).block, (ad.add (m * 4)).off + 3, none⟩ = some (.int .i64 y.pri)) wr.drew := ⟨(Below.refl _ _).drew, c0, c1, c2, c3, d0, d1, d2, d3⟩
        have HS := Lib.hid hS; clear hS
        refine wp_region_L (fun w' : World => Below wr.heap.size wr w' ∧ w'.cell? (ad.add (k * 4)) = some (.string x.adr) ∧ w'.cell? ⟨(ad.add (k * 4)).block, (ad.add (k * 4)).off + 1, none⟩ = some (.string x.key) ∧ w'.cell? ⟨(ad.add (k * 4)).block, (ad.add (k * 4)).off + 2, none⟩ = some (.int .i64 x.pow) ∧ w'.cell? ⟨(ad.add (k * 4)).block, (ad.add (k * 4)).off + 3, none⟩ = some (.int .i64 x.pri)
          ∧ w'.cell? (ad.add (m * 4)) = some (.string y.adr) ∧ w'.cell? ⟨(ad.add (m * 4)).block, (ad.add (m * 4)).off + 1, none⟩ = some (.string y.key) ∧ w'.cell? ⟨(ad.add (m * 4)).block, (ad.add (m * 4)).off + 2, none⟩ = some (.int .i64 y.pow) ∧ w'.cell? ⟨(ad.add (m * 4)).block, (ad.add (m * 4)).off + 3, none⟩ = some (.int .i64 y.pri)) 12 (by kernel_rfl) ?_
        refine wpAnyL_take 0 (v := .int .i64 m) rfl (by kernel_rfl) (fun _ _ _ h => h) (yields_on (by kernel_rfl) (fun w' hw' => by obtain ⟨yb, y0, y1, y2, y3, z0, z1, z2, z3⟩ := hw'; go_simp)) HS.out ?_
        simp only [Act.put, List.setIfInBounds_toArray, List.set_cons_zero, List.set_cons_succ]
        refine wpAnyL_take 1 (v := .bool false) rfl (by kernel_rfl) (fun _ _ _ h => h) (yields_on (by kernel_rfl) (fun w' hw' => by obtain ⟨yb, y0, y1, y2, y3, z0, z1, z2, z3⟩ := hw'; go_simp)) HS.out ?_
        simp only [Act.put, List.setIfInBounds_toArray, List.set_cons_zero, List.set_cons_succ]
        refine wpAnyL_take 2 (v := .bool false) rfl (by kernel_rfl) (fun _ _ _ h => h) (yields_on (by kernel_rfl) (fun w' hw' => by obtain ⟨yb, y0, y1, y2, y3, z0, z1, z2, z3⟩ := hw'; go_simp)) HS.out ?_
        simp only [Act.put, List.setIfInBounds_toArray, List.set_cons_zero, List.set_cons_succ]
        refine wpAnyL_take 3 (v := .slice (some ad) n c) rfl (by kernel_rfl) (fun _ _ _ h => h) (yields_on (by kernel_rfl) (fun w' hw' => by obtain ⟨yb, y0, y1, y2, y3, z0, z1, z2, z3⟩ := hw'; go_simp)) HS.out ?_
        simp only [Act.put, List.setIfInBounds_toArray, List.set_cons_zero, List.set_cons_succ]
        refine wpAnyL_take 4 (v := .int .i64 k) rfl (by kernel_rfl) (fun _ _ _ h => h) (yields_on (by kernel_rfl) (fun w' hw' => by obtain ⟨yb, y0, y1, y2, y3, z0, z1, z2, z3⟩ := hw'; go_simp)) HS.out ?_
        simp only [Act.put, List.setIfInBounds_toArray, List.set_cons_zero, List.set_cons_succ]
        refine wpAnyL_take 5 (v := .pointer (some (ad.add (k * 4)))) rfl (by kernel_rfl) (fun _ _ _ h => h) (yields_on (by kernel_rfl) (fun w' hw' => by obtain ⟨yb, y0, y1, y2, y3, z0, z1, z2, z3⟩ := hw'; go_simp)) HS.out ?_
        simp only [Act.put, List.setIfInBounds_toArray, List.set_cons_zero, List.set_cons_succ]
        refine wpAnyL_take 6 (v := .agg #[.string x.adr, .string x.key, .int .i64 x.pow, .int .i64 x.pri]) rfl (by kernel_rfl) (fun _ _ _ h => h) (yields_on (by kernel_rfl) (fun w' hw' => by obtain ⟨yb, y0, y1, y2, y3, z0, z1, z2, z3⟩ := hw'; go_simp)) HS.out ?_
        simp only [Act.put, List.setIfInBounds_toArray, List.set_cons_zero, List.set_cons_succ]
        refine wpAnyL_take 7 (v := .slice (some ad) n c) rfl (by kernel_rfl) (fun _ _ _ h => h) (yields_on (by kernel_rfl) (fun w' hw' => by obtain ⟨yb, y0, y1, y2, y3, z0, z1, z2, z3⟩ := hw'; go_simp)) HS.out ?_
        simp only [Act.put, List.setIfInBounds_toArray, List.set_cons_zero, List.set_cons_succ]
        refine wpAnyL_take 8 (v := .int .i64 m) rfl (by kernel_rfl) (fun _ _ _ h => h) (yields_on (by kernel_rfl) (fun w' hw' => by obtain ⟨yb, y0, y1, y2, y3, z0, z1, z2, z3⟩ := hw'; go_simp)) HS.out ?_
        simp only [Act.put, List.setIfInBounds_toArray, List.set_cons_zero, List.set_cons_succ]
        refine wpAnyL_take 9 (v := .pointer (some (ad.add (m * 4)))) rfl (by kernel_rfl) (fun _ _ _ h => h) (yields_on (by kernel_rfl) (fun w' hw' => by obtain ⟨yb, y0, y1, y2, y3, z0, z1, z2, z3⟩ := hw'; go_simp)) HS.out ?_
        simp only [Act.put, List.setIfInBounds_toArray, List.set_cons_zero, List.set_cons_succ]
        refine wpAnyL_take 10 (v := .agg #[.string y.adr, .string y.key, .int .i64 y.pow, .int .i64 y.pri]) rfl (by kernel_rfl) (fun _ _ _ h => h) (yields_on (by kernel_rfl) (fun w' hw' => by obtain ⟨yb, y0, y1, y2, y3, z0, z1, z2, z3⟩ := hw'; go_simp)) HS.out ?_
        simp only [Act.put, List.setIfInBounds_toArray, List.set_cons_zero, List.set_cons_succ]
        refine wpAnyL_on 11 rfl (by kernel_rfl) (by kernel_rfl) ?_
        go_simp
        refine (KC.out _).mono ?_
        rintro e w1 ⟨rfl, hb1⟩
        have hb2 : Below wr.heap.size wr w1 := (Below.refl _ _).drew.trans hb1
        have hadr : ad.block < wr.heap.size := Nat.lt_of_lt_of_le hadb HB.out.size
        have HB2 := Lib.hid hb2; clear hb1 hb2
        refine ⟨⟨HB2.out, (HB2.out.cell (p := ad.add (k * 4)) (by rw [add_block]; exact hadr)).trans c0, (HB2.out.cell (p := ⟨(ad.add (k * 4)).block, (ad.add (k * 4)).off + 1, none⟩) (by rw [add_block]; exact hadr)).trans c1, (HB2.out.cell (p := ⟨(ad.add (k * 4)).block, (ad.add (k * 4)).off + 2, none⟩) (by rw [add_block]; exact hadr)).trans c2, (HB2.out.cell (p := ⟨(ad.add (k * 4)).block, (ad.add (k * 4)).off + 3, none⟩) (by rw [add_block]; exact hadr)).trans c3, (HB2.out.cell (p := ad.add (m * 4)) (by rw [add_block]; exact hadr)).trans d0, (HB2.out.cell (p := ⟨(ad.add (m * 4)).block, (ad.add (m * 4)).off + 1, none⟩) (by rw [add_block]; exact hadr)).trans d1, (HB2.out.cell (p := ⟨(ad.add (m * 4)).block, (ad.add (m * 4)).off + 2, none⟩) (by rw [add_block]; exact hadr)).trans d2, (HB2.out.cell (p := ⟨(ad.add (m * 4)).block, (ad.add (m * 4)).off + 3, none⟩) (by rw [add_block]; exact hadr)).trans d3⟩, ?_⟩
        refine wpAnyL_one 12 rfl (by kernel_rfl) rfl ?_
        go_simp
        refine wpAnyL_done (by kernel_rfl) ?_ _
        cases hah : aheadB y x with
        | true =>
          rw [hah] at HNX
          go_wp2
          go_roundw
          case rel => exact ⟨k + 1, by omega, by go_num, by rw [HNX.out]; rfl, (fun q hq => by rw [HNX.out] at hq; simp only [if_true, Option.some.injEq] at hq; subst hq; exact ⟨by omega, HQA.out⟩), HB.out.trans (HB2.out.mono HB.out.size)⟩
          case measure => simp [intOf]; omega
        | false =>
          rw [hah] at HNX
          go_wp2
          go_roundw
          case rel => exact ⟨k + 1, by omega, by go_num, by rw [HNX.out]; rfl, (fun q hq => by rw [HNX.out] at hq; simp at hq; subst hq; exact ⟨Nat.lt_succ_self _, HX.out⟩), HB.out.trans (HB2.out.mono HB.out.size)⟩
          case measure => simp [intOf]; omega
    · obtain rfl : k = n := by omega
      have hf : l.zipIdx.take k = l.zipIdx := List.take_of_length_le (by have := HL.out; simp; omega)
      rw [hf]
      clear hf
      go_wp2
      go_ret
      exact ⟨rfl, HB.out⟩
end Go.Proofs.YtikikddkhikfkaaDoor
