/-
  laws.zzFits1 and laws.set: walks. By the session.
-/
import Derived.Test.YtikikddkhikfkaaSet
import Derived.Test.YtikikddkhikfkaaRank
namespace Go.Proofs.Ytikikddkhikfkaa
open Go.RowKit

def fit2 (x : Sd) : Bool := !(decide (2147483647 < x.adr.size)) && !(decide (2147483647 < x.key.size))
set_option maxHeartbeats 400000 in
theorem fits2_any (x : Sd) (w : World) (ha : x.adr.size ≤ 9223372036854775807) (hk : x.key.size ≤ 9223372036854775807) :
    Calls Try.prog 38 #[.agg #[.string x.adr, .string x.key, .int .i64 x.pow, .int .i64 x.pri]] w fun e w' => e = .returned (.bool (fit2 x)) ∧ Below w.heap.size w w' := by
  by_cases h1 : 2147483647 < x.adr.size
  · go_enter Try.func38, Try.ntmps38
    go_wp2
    go_ret
    exact ⟨ret_bool (by simp [fit2, h1]), (Below.refl _ _).alloc (Nat.le_refl _) _⟩
  · by_cases h2 : 2147483647 < x.key.size
    · go_enter Try.func38, Try.ntmps38
      go_wp2
      go_ret
      exact ⟨ret_bool (by simp [fit2, h2]), (Below.refl _ _).alloc (Nat.le_refl _) _⟩
    · go_enter Try.func38, Try.ntmps38
      go_wp2
      go_ret
      exact ⟨ret_bool (by simp [fit2]; omega), (Below.refl _ _).alloc (Nat.le_refl _) _⟩

def fitsB (l : List Sd) : Bool := !(decide (2147483647 < l.length)) && l.all fit2
set_option maxHeartbeats 800000 in
theorem fits1_any (l : List Sd) (A : Option Addr) (n c : Nat) (w : World) (hr : Rd w w.heap.size 4 A n (cellsOf l)) (hn : n ≤ 9223372036854775807) (hs : ∀ x ∈ l, x.adr.size ≤ 9223372036854775807 ∧ x.key.size ≤ 9223372036854775807) :
    Calls Try.prog 12 #[.slice A n c] w fun e w' => e = .returned (.bool (fitsB l)) ∧ Below w.heap.size w w' := by
  have HL := Lib.hid hr.len
  have HR := Lib.hid hr; clear hr
  have HS := Lib.hid hs; clear hs
  by_cases hbig : 2147483647 < n
  · have HF : Hid (fitsB l = false) := by
      have := HL.out
      show _ = _
      simp [fitsB]; omega
    go_enter Try.func12, Try.ntmps12
    go_wp2
    go_ret
    exact ⟨ret_bool HF.out.symm, Below.refl _ _⟩
  · have hbig' : n ≤ 2147483647 := by omega
    have HF : Hid (fitsB l = l.all fit2) := by
      have := HL.out
      show _ = _
      have e : decide (2147483647 < l.length) = false := by simp; omega
      simp [fitsB, e]
    clear hbig
    go_enter Try.func12, Try.ntmps12
    go_wp2
    go_loopw [10] (fun i wr => ∃ k : Nat, k ≤ n ∧ i = .int .i64 k ∧ Hid ((l.take k).all fit2 = true) ∧ Hid (Below w.heap.size w wr)) (fun i _ => n - (intOf i).toNat)
    case atStart => exact ⟨0, Nat.zero_le _, rfl, rfl, Below.refl _ _⟩
    case round =>
      obtain ⟨k, hk, rfl, HA, hb⟩ := hrel
      have hz := hb.out.size
      by_cases hlt : k < n
      · have hk' : k < l.length := by have := HL.out; omega
        have hx : l[k]? = some l[k] := List.getElem?_eq_getElem hk'
        obtain ⟨ad, rfl, _, c0, c1, c2, c3⟩ := (HR.out.below hb.out).seat hx
        obtain ⟨s1, s2⟩ := HS.out _ (List.getElem_mem hk')
        have ht : (l.take (k + 1)).all fit2 = fit2 l[k] := by
          rw [List.take_succ_eq_append_getElem hk', List.all_append, HA.out]; simp
        have hmem := List.getElem_mem hk'
        generalize l[k] = x at *
        have HT := Lib.hid ht; have HM := Lib.hid hmem; clear hx ht hmem
        cases hp : fit2 x with
        | true =>
          have HP := Lib.hid hp; clear hp
          go_wp2_with (go_at_call 38; refine (fits2_any x _ s1 s2).mono ?_; rw [HP.out]; rintro e w1 ⟨rfl, hb1⟩)
          go_roundw
          case rel => exact ⟨k + 1, by omega, by go_num, HT.out.trans HP.out, hb.out.trans (((Below.refl _ _).alloc (Nat.le_refl _) _ |>.trans (hb1.mono (by simp))).mono hz)⟩
          case measure => simp [intOf]; omega
        | false =>
          have HP := Lib.hid hp; clear hp
          have HFF : Hid (fitsB l = false) := by
            rw [show Hid (fitsB l = false) = (fitsB l = false) from rfl, HF.out]
            exact List.all_eq_false.2 ⟨x, HM.out, by rw [HP.out]; simp⟩
          go_wp2_with (go_at_call 38; refine (fits2_any x _ s1 s2).mono ?_; rw [HP.out]; rintro e w1 ⟨rfl, hb1⟩)
          go_ret
          exact ⟨ret_bool HFF.out.symm, hb.out.trans (((Below.refl _ _).alloc (Nat.le_refl _) _ |>.trans (hb1.mono (by simp))).mono hz)⟩
      · have hd : fitsB l = true := by
          rw [HF.out, ← HA.out, List.take_of_length_le (by have := HL.out; omega)]
        have HD := Lib.hid hd; clear hd
        have e : k = n := by omega
        have HE := Lib.hid e; clear e
        go_wp2
        go_ret
        exact ⟨ret_bool HD.out.symm, hb.out⟩

/-- the greatest of x and -(x + 1), as the laws take numbers -/
def mag (x : Int) : Int := if 0 ≤ x then x else -(x + 1)
def norm (s : Sd) : Sd := { s with pow := 1 + mag s.pow % 1125899906842624, pri := s.pri.tmod 1152921504606846976 }
theorem norm_cells (x : Sd) (h1 : -9223372036854775808 ≤ x.pow) (h2 : x.pow ≤ 9223372036854775807) :
    (#[Value.string x.adr, Value.string x.key, .int .i64 (wrap64 (1 + (if x.pow < wrap64 (-wrap64 (x.pow + 1)) then wrap64 (-wrap64 (x.pow + 1)) else x.pow).tmod 1125899906842624)), .int .i64 (x.pri.tmod 1152921504606846976)] : Array Value).toList = (norm x).cells := by
  have e : wrap64 (1 + (if x.pow < wrap64 (-wrap64 (x.pow + 1)) then wrap64 (-wrap64 (x.pow + 1)) else x.pow).tmod 1125899906842624) = 1 + mag x.pow % 1125899906842624 := by
    have e1 : (if x.pow < wrap64 (-wrap64 (x.pow + 1)) then wrap64 (-wrap64 (x.pow + 1)) else x.pow) = mag x.pow := by
      unfold mag wrap64
      by_cases h : 0 ≤ x.pow
      · rw [if_pos h, if_neg (by omega)]
      · rw [if_neg h, if_pos (by omega)]; omega
    rw [e1]
    have h0 : 0 ≤ mag x.pow := by unfold mag; split <;> omega
    rw [Int.tmod_eq_emod_of_nonneg h0]
    unfold wrap64
    omega
  rw [e]; rfl
def skipB (acc : List Sd) (s : Sd) : Bool := s.adr.toList.isEmpty || s.key.toList.isEmpty || acc.any (fun x => sameB x s)
def setAcc (acc : List Sd) (s : Sd) : List Sd := if skipB acc s then acc else acc ++ [norm s]
def setL (l : List Sd) : List Sd := (l.take 60).foldl setAcc []
theorem setAcc_length (acc : List Sd) (s : Sd) : (setAcc acc s).length ≤ acc.length + 1 := by unfold setAcc; split <;> simp
theorem foldl_setAcc_length (l acc : List Sd) : (l.foldl setAcc acc).length ≤ acc.length + l.length := by
  induction l generalizing acc with
  | nil => simp
  | cons x r ih =>
    have h1 := ih (setAcc acc x)
    have h2 := setAcc_length acc x
    simp only [List.foldl_cons, List.length_cons]; omega
theorem foldl_take_succ {α β : Type} (f : β → α → β) (b : β) (l : List α) (k : Nat) (x : α) (hx : l[k]? = some x) : (l.take (k + 1)).foldl f b = f ((l.take k).foldl f b) x := by
  have h := List.getElem?_eq_some_iff.1 hx
  rw [List.take_succ_eq_append_getElem h.1, h.2, List.foldl_append]; rfl

theorem own_base_le {w : World} {base base' e size : Nat} {v : Value} {n : Nat} {xs : List Value} (h : w.ownsRow base e size v n xs) (hb : base' ≤ base) : w.ownsRow base' e size v n xs := by
  refine ⟨h.1, ?_⟩
  rcases h.2 with h2 | ⟨g, cap, cur, hv, hg, hh, r⟩
  · exact Or.inl h2
  · exact Or.inr ⟨g, cap, cur, hv, Nat.le_trans hb hg, hh, r⟩
set_option maxRecDepth 100000 in
set_option maxHeartbeats 3200000 in
theorem set_own (l : List Sd) (A : Option Addr) (n c : Nat) (w : World) (hr : Rd w w.heap.size 4 A n (cellsOf l)) (hn : n ≤ 2147483647) (hnc : n ≤ c) (hi : ∀ x ∈ l, -9223372036854775808 ≤ x.pow ∧ x.pow ≤ 9223372036854775807 ∧ -9223372036854775808 ≤ x.pri ∧ x.pri ≤ 9223372036854775807) :
    Calls Try.prog 13 #[.slice A n c] w fun e w' => ∃ A' c' n', e = .returned (.slice A' n' c') ∧ w'.ownsRow w.heap.size 49 4 (.slice A' n' c') n' (cellsOf (rankedL (setL l))) ∧ Below w.heap.size w w' := by
  obtain ⟨i0, hi0, hz0, hz1, hz2⟩ := info_parts infoSeat
  have HI := Lib.hid hi0; have HZ0 := Lib.hid hz0; have HZ1 := Lib.hid hz1; have HZ2 := Lib.hid hz2
  clear hi0 hz0 hz1 hz2
  obtain ⟨m, hm⟩ : ∃ m, m = min n 60 := ⟨_, rfl⟩
  have hmn : m ≤ n := by omega
  have hm60 : m ≤ 60 := by omega
  have HM := Lib.hid hm
  have hr' : Rd w w.heap.size 4 A m (cellsOf (l.take 60)) := by
    have h1 := hr.take hmn
    have h2 := hr.len
    rw [cellsOf_take]
    rw [hm] at h1 ⊢
    by_cases h : n ≤ 60
    · rw [Nat.min_eq_left h] at h1 ⊢
      rw [List.take_of_length_le (by rw [cellsOf_length]; omega)] at h1 ⊢
      exact h1
    · rw [Nat.min_eq_right (by omega)] at h1 ⊢; exact h1
  have hi' : ∀ x ∈ l.take 60, -9223372036854775808 ≤ x.pow ∧ x.pow ≤ 9223372036854775807 ∧ -9223372036854775808 ≤ x.pri ∧ x.pri ≤ 9223372036854775807 := fun x hx => hi x (List.mem_of_mem_take hx)
  have HT : Hid (setL l = (l.take 60).foldl setAcc []) := rfl
  generalize l.take 60 = t at *
  have HL := Lib.hid hr'.len
  have HR := Lib.hid hr'; clear hr hr'
  have HX := Lib.hid hi'; clear hi hi'
  by_cases hle : n ≤ 60
  · obtain rfl : n = m := by omega
    clear hm hmn hm60
    go_enter Try.func13, Try.ntmps13
    go_wp2
    go_loopw [3, 12] (fun v i wr => ∃ (k q : Nat) (A1 : Option Addr) (c1 : Nat), k ≤ n ∧ q ≤ k ∧ i = .int .i64 k ∧ v = .slice A1 q c1 ∧ Hid (wr.ownsRow w.heap.size 49 4 (.slice A1 q c1) q (cellsOf ((t.take k).foldl setAcc []))) ∧ Hid (Below w.heap.size w wr)) (fun _ i _ => n - (intOf i).toNat)
    case atStart => exact ⟨0, 0, none, 0, Nat.zero_le _, Nat.zero_le _, rfl, rfl, World.ownsRow_nil w w.heap.size _ _, Below.refl _ _⟩
    case round =>
      obtain ⟨k, q, A1, c1, hk, hq, rfl, rfl, HO, HB⟩ := hrel
      have hz := HB.out.size
      by_cases hlt : k < n
      · have hk' : k < t.length := by have := HL.out; omega
        have hx : t[k]? = some t[k] := List.getElem?_eq_getElem hk'
        obtain ⟨ad, rfl, _, c0, c1', c2, c3⟩ := (HR.out.below HB.out).seat hx
        have hbx := HX.out _ (List.getElem_mem hk')
        have hst := foldl_take_succ setAcc [] t k _ hx
        have hro : Rd wr wr.heap.size 4 A1 q (cellsOf ((t.take k).foldl setAcc [])) := Rd.of_own HO.out
        have hlq : ((t.take k).foldl setAcc []).length = q := by have := hro.len; omega
        generalize t[k] = x at *
        generalize (t.take k).foldl setAcc [] = acc at *
        have HST := Lib.hid hst; have HXX := Lib.hid hx; have HLQ := Lib.hid hlq; have HRO := Lib.hid hro
        clear hst hx hlq hro
        have grow : Hid (setAcc acc x = acc) → Hid (wr.ownsRow w.heap.size 49 4 (.slice A1 q c1) q (cellsOf ((t.take (k + 1)).foldl setAcc []))) := fun e => by
          have h := HO.out; rw [← e.out, ← HST.out] at h; exact h
        have HGROW := Lib.hid grow; clear grow
        have HBA : Hid (Below w.heap.size w (wr.alloc (.cells #[.string x.adr, .string x.key, .int .i64 x.pow, .int .i64 x.pri] 79))) := HB.out.alloc hz _
        have keepA : Hid (wr.ownsRow w.heap.size 49 4 (.slice A1 q c1) q (cellsOf ((t.take (k + 1)).foldl setAcc []))) → Hid ((wr.alloc (.cells #[.string x.adr, .string x.key, .int .i64 x.pow, .int .i64 x.pri] 79)).ownsRow w.heap.size 49 4 (.slice A1 q c1) q (cellsOf ((t.take (k + 1)).foldl setAcc []))) := fun h => h.out.alloc _
        have HKA := Lib.hid keepA; clear keepA
        by_cases ha : x.adr.toList = []
        · have hsk : Hid (setAcc acc x = acc) := by show _ = _; simp [setAcc, skipB, ha]
          go_wp2
          go_roundw
          case rel => exact ⟨k + 1, q, A1, c1, by omega, by omega, by go_num, rfl, HKA.out (HGROW.out hsk), HBA⟩
          case measure => simp [intOf]; omega
        · have ha' : x.adr.toList.isEmpty = false := by simpa using ha
          by_cases hke : x.key.toList = []
          · have hsk : Hid (setAcc acc x = acc) := by show _ = _; simp [setAcc, skipB, hke]
            go_wp2
            go_roundw
            case rel => exact ⟨k + 1, q, A1, c1, by omega, by omega, by go_num, rfl, HKA.out (HGROW.out hsk), HBA⟩
            case measure => simp [intOf]; omega
          · have hke' : x.key.toList.isEmpty = false := by simpa using hke
            have HC := Lib.hid (contains_set acc A1 q c1 x wr.heap.size (wr.alloc (.cells #[.string x.adr, .string x.key, .int .i64 x.pow, .int .i64 x.pri] 79)) ((HRO.out.alloc (Nat.le_refl _) _).more (by simp)) (by omega) (by simp) (by simp) (by simp))
            cases hp : (acc.any fun y => sameB y x) with
            | true =>
              have hsk : Hid (setAcc acc x = acc) := by show _ = _; simp [setAcc, skipB, hp]
              have HP := Lib.hid hp; clear hp
              go_wp2_with (go_at_call 39; refine HC.out.mono ?_; rw [HP.out]; rintro e w1 ⟨rfl, hb1⟩)
              go_roundw
              case rel => exact ⟨k + 1, q, A1, c1, by omega, by omega, by go_num, rfl, own_below (HKA.out (HGROW.out hsk)) hb1, HBA.out.trans (hb1.mono (by have := HBA.out.size; omega))⟩
              case measure => simp [intOf]; omega
            | false =>
              have hsk : Hid (setAcc acc x = acc ++ [norm x]) := by show _ = _; simp [setAcc, skipB, hp, ha', hke']
              have HP := Lib.hid hp; clear hp
              go_wp2_with (first | (go_at_call 39; refine HC.out.mono ?_; rw [HP.out]; rintro e w1 ⟨rfl, hb1⟩; have d0 : w1.cell? ⟨wr.heap.size, 0, none⟩ = some (.string x.adr) := (hb1.cell (p := ⟨wr.heap.size, 0, none⟩) (by simp)).trans (by simp); have d1 : w1.cell? ⟨wr.heap.size, 1, none⟩ = some (.string x.key) := (hb1.cell (p := ⟨wr.heap.size, 1, none⟩) (by simp)).trans (by simp); have d2 : w1.cell? ⟨wr.heap.size, 2, none⟩ = some (.int .i64 x.pow) := (hb1.cell (p := ⟨wr.heap.size, 2, none⟩) (by simp)).trans (by simp); have d3 : w1.cell? ⟨wr.heap.size, 3, none⟩ = some (.int .i64 x.pri) := (hb1.cell (p := ⟨wr.heap.size, 3, none⟩) (by simp)).trans (by simp); have df : ∀ i, w1.frozen? ⟨wr.heap.size, i, none⟩ = false := (fun i => (hb1.frozen (p := ⟨wr.heap.size, i, none⟩) (by simp)).trans (by simp)); have dz : wr.heap.size < w1.heap.size := (by have := hb1.size; simp at this; omega)) | (at_builtin; refine wpList_app _ rfl (.tmp 43) (.tmp 45) 41 rfl w.heap.size 49 i0 _ 4 48 Try.underlying41 HI.out HZ0.out HZ1.out HZ2.out rfl (by decide) (.slice A1 q c1) q (cellsOf acc) rfl ?ho (w1.heap.size + 1) (some ⟨w1.heap.size, 0, none⟩) 1 1 (norm x).cells rfl ?hr (norm x).cells_one ?q1 ?q2 ?hb ?_; (case q1 => simp only [maxLen]; omega); (case q2 => omega); (case hr => rw [← norm_cells x hbx.1 hbx.2.1]; exact Rd.new _ _ _ 4 1 _ rfl (by simp)); (case ho => exact own_below HO.out (((((Below.refl _ _).alloc (Nat.le_refl _) _).trans (hb1.mono (by simp))).setCell (p := ⟨_, _, none⟩) (Nat.le_refl _) _).setCell (p := ⟨_, _, none⟩) (Nat.le_refl _) _ |>.alloc (by simp; omega) _) (Nat.le_refl _)); (case hb => simp; omega); intro A2 c2 w2 hown2 hg2 _; rw [cellsOf_snoc] at hown2))
              go_roundw
              case rel => exact ⟨k + 1, q + 1, A2, c2, by omega, by omega, by go_num, rfl, by rw [HST.out, hsk.out]; exact hown2, (((HBA.out.trans (hb1.mono (by have := HBA.out.size; omega))).setCell (p := ⟨_, _, none⟩) hz _).setCell (p := ⟨_, _, none⟩) hz _ |>.alloc (by have := HBA.out.size; have := hb1.size; simp; omega) _).grown hg2 (by have := HBA.out.size; have := hb1.size; simp; omega) (own_base HO.out)⟩
              case measure => simp [intOf]; omega
      · have e : k = n := by omega
        have h1 := HO.out
        rw [List.take_of_length_le (by have := HL.out; omega), ← HT.out] at h1
        have H1 := Lib.hid (Rd.of_own h1); clear h1
        have HE := Lib.hid e; clear e
        go_wp2_with (go_at_call 18; refine (ranked_own (setL l) A1 q c1 wr H1.out (by omega)).mono ?_; rintro e w1 ⟨A2, c2, rfl, hr2, hb2⟩)
        go_ret
        exact ⟨A2, c2, q, rfl, own_base_le hr2 hz, HB.out.trans (hb2.mono hz)⟩
  · obtain rfl : m = 60 := by omega
    clear hm hmn hm60
    go_enter Try.func13, Try.ntmps13
    go_wp2
    go_loopw [3, 12] (fun v i wr => ∃ (k q : Nat) (A1 : Option Addr) (c1 : Nat), k ≤ 60 ∧ q ≤ k ∧ i = .int .i64 k ∧ v = .slice A1 q c1 ∧ Hid (wr.ownsRow w.heap.size 49 4 (.slice A1 q c1) q (cellsOf ((t.take k).foldl setAcc []))) ∧ Hid (Below w.heap.size w wr)) (fun _ i _ => 60 - (intOf i).toNat)
    case atStart => exact ⟨0, 0, none, 0, Nat.zero_le _, Nat.zero_le _, rfl, rfl, World.ownsRow_nil w w.heap.size _ _, Below.refl _ _⟩
    case round =>
      obtain ⟨k, q, A1, c1, hk, hq, rfl, rfl, HO, HB⟩ := hrel
      have hz := HB.out.size
      by_cases hlt : k < 60
      · have hk' : k < t.length := by have := HL.out; omega
        have hx : t[k]? = some t[k] := List.getElem?_eq_getElem hk'
        obtain ⟨ad, rfl, _, c0, c1', c2, c3⟩ := (HR.out.below HB.out).seat hx
        have hbx := HX.out _ (List.getElem_mem hk')
        have hst := foldl_take_succ setAcc [] t k _ hx
        have hro : Rd wr wr.heap.size 4 A1 q (cellsOf ((t.take k).foldl setAcc [])) := Rd.of_own HO.out
        have hlq : ((t.take k).foldl setAcc []).length = q := by have := hro.len; omega
        generalize t[k] = x at *
        generalize (t.take k).foldl setAcc [] = acc at *
        have HST := Lib.hid hst; have HXX := Lib.hid hx; have HLQ := Lib.hid hlq; have HRO := Lib.hid hro
        clear hst hx hlq hro
        have grow : Hid (setAcc acc x = acc) → Hid (wr.ownsRow w.heap.size 49 4 (.slice A1 q c1) q (cellsOf ((t.take (k + 1)).foldl setAcc []))) := fun e => by
          have h := HO.out; rw [← e.out, ← HST.out] at h; exact h
        have HGROW := Lib.hid grow; clear grow
        have HBA : Hid (Below w.heap.size w (wr.alloc (.cells #[.string x.adr, .string x.key, .int .i64 x.pow, .int .i64 x.pri] 79))) := HB.out.alloc hz _
        have keepA : Hid (wr.ownsRow w.heap.size 49 4 (.slice A1 q c1) q (cellsOf ((t.take (k + 1)).foldl setAcc []))) → Hid ((wr.alloc (.cells #[.string x.adr, .string x.key, .int .i64 x.pow, .int .i64 x.pri] 79)).ownsRow w.heap.size 49 4 (.slice A1 q c1) q (cellsOf ((t.take (k + 1)).foldl setAcc []))) := fun h => h.out.alloc _
        have HKA := Lib.hid keepA; clear keepA
        by_cases ha : x.adr.toList = []
        · have hsk : Hid (setAcc acc x = acc) := by show _ = _; simp [setAcc, skipB, ha]
          go_wp2
          go_roundw
          case rel => exact ⟨k + 1, q, A1, c1, by omega, by omega, by go_num, rfl, HKA.out (HGROW.out hsk), HBA⟩
          case measure => simp [intOf]; omega
        · have ha' : x.adr.toList.isEmpty = false := by simpa using ha
          by_cases hke : x.key.toList = []
          · have hsk : Hid (setAcc acc x = acc) := by show _ = _; simp [setAcc, skipB, hke]
            go_wp2
            go_roundw
            case rel => exact ⟨k + 1, q, A1, c1, by omega, by omega, by go_num, rfl, HKA.out (HGROW.out hsk), HBA⟩
            case measure => simp [intOf]; omega
          · have hke' : x.key.toList.isEmpty = false := by simpa using hke
            have HC := Lib.hid (contains_set acc A1 q c1 x wr.heap.size (wr.alloc (.cells #[.string x.adr, .string x.key, .int .i64 x.pow, .int .i64 x.pri] 79)) ((HRO.out.alloc (Nat.le_refl _) _).more (by simp)) (by omega) (by simp) (by simp) (by simp))
            cases hp : (acc.any fun y => sameB y x) with
            | true =>
              have hsk : Hid (setAcc acc x = acc) := by show _ = _; simp [setAcc, skipB, hp]
              have HP := Lib.hid hp; clear hp
              go_wp2_with (go_at_call 39; refine HC.out.mono ?_; rw [HP.out]; rintro e w1 ⟨rfl, hb1⟩)
              go_roundw
              case rel => exact ⟨k + 1, q, A1, c1, by omega, by omega, by go_num, rfl, own_below (HKA.out (HGROW.out hsk)) hb1, HBA.out.trans (hb1.mono (by have := HBA.out.size; omega))⟩
              case measure => simp [intOf]; omega
            | false =>
              have hsk : Hid (setAcc acc x = acc ++ [norm x]) := by show _ = _; simp [setAcc, skipB, hp, ha', hke']
              have HP := Lib.hid hp; clear hp
              go_wp2_with (first | (go_at_call 39; refine HC.out.mono ?_; rw [HP.out]; rintro e w1 ⟨rfl, hb1⟩; have d0 : w1.cell? ⟨wr.heap.size, 0, none⟩ = some (.string x.adr) := (hb1.cell (p := ⟨wr.heap.size, 0, none⟩) (by simp)).trans (by simp); have d1 : w1.cell? ⟨wr.heap.size, 1, none⟩ = some (.string x.key) := (hb1.cell (p := ⟨wr.heap.size, 1, none⟩) (by simp)).trans (by simp); have d2 : w1.cell? ⟨wr.heap.size, 2, none⟩ = some (.int .i64 x.pow) := (hb1.cell (p := ⟨wr.heap.size, 2, none⟩) (by simp)).trans (by simp); have d3 : w1.cell? ⟨wr.heap.size, 3, none⟩ = some (.int .i64 x.pri) := (hb1.cell (p := ⟨wr.heap.size, 3, none⟩) (by simp)).trans (by simp); have df : ∀ i, w1.frozen? ⟨wr.heap.size, i, none⟩ = false := (fun i => (hb1.frozen (p := ⟨wr.heap.size, i, none⟩) (by simp)).trans (by simp)); have dz : wr.heap.size < w1.heap.size := (by have := hb1.size; simp at this; omega)) | (at_builtin; refine wpList_app _ rfl (.tmp 43) (.tmp 45) 41 rfl w.heap.size 49 i0 _ 4 48 Try.underlying41 HI.out HZ0.out HZ1.out HZ2.out rfl (by decide) (.slice A1 q c1) q (cellsOf acc) rfl ?ho (w1.heap.size + 1) (some ⟨w1.heap.size, 0, none⟩) 1 1 (norm x).cells rfl ?hr (norm x).cells_one ?q1 ?q2 ?hb ?_; (case q1 => simp only [maxLen]; omega); (case q2 => omega); (case hr => rw [← norm_cells x hbx.1 hbx.2.1]; exact Rd.new _ _ _ 4 1 _ rfl (by simp)); (case ho => exact own_below HO.out (((((Below.refl _ _).alloc (Nat.le_refl _) _).trans (hb1.mono (by simp))).setCell (p := ⟨_, _, none⟩) (Nat.le_refl _) _).setCell (p := ⟨_, _, none⟩) (Nat.le_refl _) _ |>.alloc (by simp; omega) _) (Nat.le_refl _)); (case hb => simp; omega); intro A2 c2 w2 hown2 hg2 _; rw [cellsOf_snoc] at hown2))
              go_roundw
              case rel => exact ⟨k + 1, q + 1, A2, c2, by omega, by omega, by go_num, rfl, by rw [HST.out, hsk.out]; exact hown2, (((HBA.out.trans (hb1.mono (by have := HBA.out.size; omega))).setCell (p := ⟨_, _, none⟩) hz _).setCell (p := ⟨_, _, none⟩) hz _ |>.alloc (by have := HBA.out.size; have := hb1.size; simp; omega) _).grown hg2 (by have := HBA.out.size; have := hb1.size; simp; omega) (own_base HO.out)⟩
              case measure => simp [intOf]; omega
      · have e : k = 60 := by omega
        have h1 := HO.out
        rw [List.take_of_length_le (by have := HL.out; omega), ← HT.out] at h1
        have H1 := Lib.hid (Rd.of_own h1); clear h1
        have HE := Lib.hid e; clear e
        go_wp2_with (go_at_call 18; refine (ranked_own (setL l) A1 q c1 wr H1.out (by omega)).mono ?_; rintro e w1 ⟨A2, c2, rfl, hr2, hb2⟩)
        go_ret
        exact ⟨A2, c2, q, rfl, own_base_le hr2 hz, HB.out.trans (hb2.mono hz)⟩
theorem set_any (l : List Sd) (A : Option Addr) (n c : Nat) (w : World) (hr : Rd w w.heap.size 4 A n (cellsOf l)) (hn : n ≤ 2147483647) (hnc : n ≤ c) (hi : ∀ x ∈ l, -9223372036854775808 ≤ x.pow ∧ x.pow ≤ 9223372036854775807 ∧ -9223372036854775808 ≤ x.pri ∧ x.pri ≤ 9223372036854775807) :
    Calls Try.prog 13 #[.slice A n c] w fun e w' => ∃ A' c' n', e = .returned (.slice A' n' c') ∧ Rd w' w'.heap.size 4 A' n' (cellsOf (rankedL (setL l))) ∧ Below w.heap.size w w' := by
  refine (set_own l A n c w hr hn hnc hi).mono ?_
  rintro e w' ⟨A', c', n', rfl, h1, h2⟩
  exact ⟨A', c', n', rfl, Rd.of_own h1, h2⟩
end Go.Proofs.Ytikikddkhikfkaa
