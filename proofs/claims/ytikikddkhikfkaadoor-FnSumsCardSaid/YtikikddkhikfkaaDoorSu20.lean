/-
  Comparing bytes and validators: walks. By the session. The set that a law makes of a list of seats (laws.set without its last call), and what it calls: walks. By the session. The order of a set (spec.Ranked): the walk. By the session. laws.zzFits1 and laws.set: walks. By the session. findProposer: the walk. By the session. Sums that stay at the ends of what 64 bits hold: safeAdd, safeSub, their clips, spec.plus: walks. By the session.
-/
import Derived.Test.YtikikddkhikfkaaDoorRows
import Derived.Test.YtikikddkhikfkaaDoorSu1
import Derived.RegionTactic
import Derived.BigRegion
import Derived.ChangeAlike
namespace Go.Proofs.YtikikddkhikfkaaDoor
open Go.RowKit

set_option maxRecDepth 100000 in
set_option maxHeartbeats 800000 in
theorem bequal_any (a b : ByteArray) (A B : Option Addr) (c d : Nat) (w : World) (ha : Byt w A a) (hb : Byt w B b) :
    Calls Tryd.prog 100 #[.slice A a.size c, .slice B b.size d] w fun e w' => e = .returned (.bool (a.toList == b.toList)) ∧ w = w' := by
  have kc := ha.back (P := Tryd.prog) 22 9 c Tryd.underlying22 Tryd.underlying5 Tryd.underlying9
  have kd := hb.back (P := Tryd.prog) 22 9 d Tryd.underlying22 Tryd.underlying5 Tryd.underlying9
  clear ha hb
  go_enter Tryd.func100, Tryd.ntmps100
  go_wp2
  go_ret
  exact ⟨rfl, rfl⟩
/-- Go's '<' on strings, and the library's compare -/
theorem bytesLess_eq : ∀ a b : List UInt8, Op.bytesLess a b = decide (Lib.compareBytes a b < 0) := by
  intro a
  induction a with
  | nil => intro b; cases b <;> simp [Op.bytesLess, Lib.compareBytes]
  | cons x r ih =>
    intro b
    cases b with
    | nil => simp [Op.bytesLess, Lib.compareBytes]
    | cons y s =>
      simp only [Op.bytesLess, Lib.compareBytes]
      by_cases h1 : x < y
      · simp [h1]
      · by_cases h2 : y < x
        · have : x ≠ y := by rintro rfl; exact h1 h2
          simp [h1, h2, this]
        · have : x = y := UInt8.le_antisymm (UInt8.not_lt.1 h2) (UInt8.not_lt.1 h1)
          subst this
          simp [h1, ih]
theorem compare_zero : ∀ a b : List UInt8, Lib.compareBytes a b = 0 → a = b := by
  intro a
  induction a with
  | nil => intro b; cases b <;> simp [Lib.compareBytes]
  | cons x r ih =>
    intro b
    cases b with
    | nil => simp [Lib.compareBytes]
    | cons y s =>
      simp only [Lib.compareBytes]
      by_cases h1 : x < y
      · simp [h1]
      · by_cases h2 : y < x
        · simp [h1, h2]
        · have : x = y := UInt8.le_antisymm (UInt8.not_lt.1 h2) (UInt8.not_lt.1 h1)
          subst this
          simp only [h1, if_false]
          intro h; rw [ih s h]

/-- is x ahead of y as a proposer? -/
def aheadB (x y : Sd) : Bool := decide (y.pri < x.pri) || (decide (x.pri = y.pri) && Op.bytesLess x.adr.toList y.adr.toList)

set_option maxHeartbeats 400000 in
theorem cmp_nil (b : Nat) (w : World) : Calls Tryd.prog 101 #[.pointer none, ptrTo b] w fun e w' => e = .returned (ptrTo b) ∧ w = w' := by
  unfold ptrTo
  go_enter Tryd.func101, Tryd.ntmps101
  go_wp2
  go_ret
  exact ⟨rfl, rfl⟩

end Go.Proofs.YtikikddkhikfkaaDoor

namespace Go.Proofs.YtikikddkhikfkaaDoor
open Go.RowKit

/-- are a seat's address or key those of another? -/
def sameB (x s : Sd) : Bool := x.adr.toList == s.adr.toList || x.key.toList == s.key.toList

set_option maxHeartbeats 400000 in
theorem cl_set (x s : Sd) (sb : Nat) (w : World) (h0 : w.cell? ⟨sb, 0, none⟩ = some (.string s.adr)) (h1 : w.cell? ⟨sb, 1, none⟩ = some (.string s.key)) (hsb : sb < w.heap.size) :
    Calls Tryd.prog 43 #[.agg #[.string x.adr, .string x.key, .int .i64 x.pow, .int .i64 x.pri], .pointer (some ⟨sb, 0, none⟩)] w fun e w' => e = .returned (.bool (sameB x s)) ∧ Below w.heap.size w w' := by
  by_cases ha : x.adr.toList = s.adr.toList
  · go_enter Tryd.func43, Tryd.ntmps43
    go_wp2
    go_ret
    exact ⟨by simp [sameB, ha], (Below.refl _ _).alloc (Nat.le_refl _) _⟩
  · have ha' : (x.adr.toList == s.adr.toList) = false := by simpa using ha
    go_enter Tryd.func43, Tryd.ntmps43
    go_wp2
    go_ret
    exact ⟨by simp [sameB, ha'], (Below.refl _ _).alloc (Nat.le_refl _) _⟩

/-- the first place in a list for which p holds, from k on -/
def findAt {α : Type} (p : α → Bool) : List α → Nat → Int
  | [], _ => -1
  | x :: r, k => if p x then k else findAt p r (k + 1)
theorem findAt_drop {α : Type} (p : α → Bool) (l : List α) (k : Nat) (x : α) (hx : l[k]? = some x) : findAt p (l.drop k) k = if p x then (k : Int) else findAt p (l.drop (k + 1)) (k + 1) := by
  have hk : k < l.length := (List.getElem?_eq_some_iff.1 hx).1
  rw [List.drop_eq_getElem_cons hk]
  have : l[k] = x := (List.getElem?_eq_some_iff.1 hx).2
  simp only [findAt, this]
theorem findAt_any {α : Type} (p : α → Bool) (l : List α) : ∀ k : Nat, decide (0 ≤ findAt p l k) = l.any p := by
  induction l with
  | nil => intro k; simp [findAt]
  | cons x r ih =>
    intro k
    simp only [findAt, List.any_cons]
    by_cases h : p x = true
    · simp only [h, if_true, Bool.true_or]; simp
    · simp only [h, Bool.false_or]; exact ih (k + 1)

set_option maxHeartbeats 800000 in
theorem index_set (l : List Sd) (A : Option Addr) (n c : Nat) (s : Sd) (sb : Nat) (w : World) (hr : Rd w w.heap.size 4 A n (cellsOf l)) (hn : n ≤ 1000000)
    (h0 : w.cell? ⟨sb, 0, none⟩ = some (.string s.adr)) (h1 : w.cell? ⟨sb, 1, none⟩ = some (.string s.key)) (hsb : sb < w.heap.size) :
    Calls Tryd.prog 76 #[.slice A n c, .func (.func 43) #[] #[.pointer (some ⟨sb, 0, none⟩)]] w fun e w' => e = .returned (.int .i64 (findAt (fun x => sameB x s) l 0)) ∧ Below w.heap.size w w' := by
  have hl := hr.len
  have HR := Lib.hid hr; clear hr
  have HL := Lib.hid hl; clear hl
  have H0 := Lib.hid h0; have H1 := Lib.hid h1; clear h0 h1
  go_enter Tryd.func76, Tryd.ntmps76
  go_wp2
  go_loopw [5, 8] (fun _ i wr => ∃ k : Nat, k ≤ n ∧ i = .int .i64 k ∧ Hid (findAt (fun x => sameB x s) (l.drop k) k = findAt (fun x => sameB x s) l 0) ∧ Below w.heap.size w wr) (fun _ i _ => n - (intOf i).toNat)
  case atStart => exact ⟨0, Nat.zero_le _, rfl, rfl, Below.refl _ _⟩
  case round =>
    obtain ⟨k, hk, rfl, HF, hb⟩ := hrel
    have hz := hb.size
    have h0 : wr.cell? ⟨sb, 0, none⟩ = some (.string s.adr) := (hb.cell (p := ⟨sb, 0, none⟩) hsb).trans H0.out
    have h1 : wr.cell? ⟨sb, 1, none⟩ = some (.string s.key) := (hb.cell (p := ⟨sb, 1, none⟩) hsb).trans H1.out
    have hs' : sb < wr.heap.size := by omega
    by_cases hlt : k < n
    · have hk' : k < l.length := by have := HL.out; omega
      have hx : l[k]? = some l[k] := List.getElem?_eq_getElem hk'
      obtain ⟨ad, rfl, _, c0, c1, c2, c3⟩ := (HR.out.below hb).seat hx
      have hd := findAt_drop (fun x => sameB x s) l k _ hx
      rw [HF.out] at hd
      clear HF
      generalize l[k] = x at *
      have HX := Lib.hid hx; clear hx
      cases hp : sameB x s with
      | true =>
        rw [hp, if_pos rfl] at hd
        have HD := Lib.hid hd; clear hd
        have HP := Lib.hid hp; clear hp
        go_wp2_with (go_at_call 43; refine (cl_set x s sb _ h0 h1 hs').mono ?_; rw [HP.out]; rintro e w1 ⟨rfl, hb1⟩)
        go_ret
        exact ⟨ret_int HD.out.symm, hb.trans (hb1.mono hz)⟩
      | false =>
        rw [hp, if_neg (by simp)] at hd
        have HD := Lib.hid hd; clear hd
        have HP := Lib.hid hp; clear hp
        go_wp2_with (go_at_call 43; refine (cl_set x s sb _ h0 h1 hs').mono ?_; rw [HP.out]; rintro e w1 ⟨rfl, hb1⟩)
        go_roundw
        case rel => exact ⟨k + 1, by omega, by go_num, HD.out.symm, hb.trans (hb1.mono hz)⟩
        case measure => simp [intOf]; omega
    · have e : k = n := by omega
      have hd : findAt (fun x => sameB x s) l 0 = -1 := by rw [← HF.out, List.drop_of_length_le (by have := HL.out; omega)]; rfl
      have HD := Lib.hid hd; clear hd
      have HE := Lib.hid e; clear e
      go_wp2
      go_ret
      exact ⟨ret_int HD.out.symm, hb⟩

theorem contains_set (l : List Sd) (A : Option Addr) (n c : Nat) (s : Sd) (sb : Nat) (w : World) (hr : Rd w w.heap.size 4 A n (cellsOf l)) (hn : n ≤ 1000000)
    (h0 : w.cell? ⟨sb, 0, none⟩ = some (.string s.adr)) (h1 : w.cell? ⟨sb, 1, none⟩ = some (.string s.key)) (hsb : sb < w.heap.size) :
    Calls Tryd.prog 42 #[.slice A n c, .func (.func 43) #[] #[.pointer (some ⟨sb, 0, none⟩)]] w fun e w' => e = .returned (.bool (l.any fun x => sameB x s)) ∧ Below w.heap.size w w' := by
  have HI := Lib.hid (index_set l A n c s sb w hr hn h0 h1 hsb)
  have HA := Lib.hid (findAt_any (fun x => sameB x s) l 0)
  clear hr h0 h1
  go_enter Tryd.func42, Tryd.ntmps42
  go_wp2_with (go_at_call 76; refine HI.out.mono ?_; rintro e w1 ⟨rfl, hb1⟩)
  go_ret
  exact ⟨ret_bool HA.out, hb1⟩
end Go.Proofs.YtikikddkhikfkaaDoor

namespace Go.Proofs.YtikikddkhikfkaaDoor
open Go.RowKit

theorem infoSeat : (Tryd.prog.info? 59).map (fun i => (i.zero, i.size, i.bytes)) = some (some (.agg #[.string ⟨#[]⟩, .string ⟨#[]⟩, .int .i64 0, .int .i64 0]), 4, 48) := by kernel_rfl

/-- does x stand before y in a set? -/
def beforeB (x y : Sd) : Bool := decide (y.pow < x.pow) || (x.pow == y.pow && Op.bytesLess x.adr.toList y.adr.toList)

/-- from place k leftwards: where x goes -/
def insK (x : Sd) (acc : List Sd) : Nat → Nat
  | 0 => 0
  | k + 1 => match acc[k]? with
    | some y => if beforeB x y then insK x acc k else k + 1
    | none => k + 1
def insR (acc : List Sd) (x : Sd) : List Sd := acc.take (insK x acc acc.length) ++ x :: acc.drop (insK x acc acc.length)
def rankedL (l : List Sd) : List Sd := l.foldl insR []

def stR (acc : List Sd) (x : Sd) (rest : List Sd) (j : Nat) : List Sd := acc.take j ++ x :: (acc.drop j ++ rest)
theorem insR_length (acc : List Sd) (x : Sd) : (insR acc x).length = acc.length + 1 := by simp [insR]; omega
theorem rankedL_length (l : List Sd) : (rankedL l).length = l.length := by
  have : ∀ (l acc : List Sd), (l.foldl insR acc).length = acc.length + l.length := by
    intro l
    induction l with
    | nil => intro acc; rfl
    | cons x r ih => intro acc; simp only [List.foldl_cons, List.length_cons]; rw [ih, insR_length]; omega
  rw [rankedL, this]; simp
theorem rankedL_take (l : List Sd) (k : Nat) (x : Sd) (hx : l[k]? = some x) : rankedL (l.take (k + 1)) = insR (rankedL (l.take k)) x := by
  have hk : k < l.length := (List.getElem?_eq_some_iff.1 hx).1
  have e : l[k] = x := (List.getElem?_eq_some_iff.1 hx).2
  rw [List.take_succ_eq_append_getElem hk, e]
  simp [rankedL, List.foldl_append]
theorem stR_x (acc : List Sd) (x : Sd) (rest : List Sd) (j : Nat) (hj : j ≤ acc.length) : (stR acc x rest j)[j]? = some x := by
  unfold stR
  rw [List.getElem?_append_right (by simp; omega)]
  simp [Nat.min_eq_left hj]
theorem stR_start (acc l : List Sd) (k : Nat) (x : Sd) (hk : acc.length = k) (hx : l[k]? = some x) : acc ++ l.drop k = stR acc x (l.drop (k + 1)) k := by
  have h := (List.getElem?_eq_some_iff.1 hx)
  unfold stR
  rw [List.take_of_length_le (by omega), List.drop_of_length_le (l := acc) (by omega), List.drop_eq_getElem_cons h.1, h.2]; rfl
theorem stR_y (acc : List Sd) (x y : Sd) (rest : List Sd) (j : Nat) (hy : acc[j]? = some y) : (stR acc x rest (j + 1))[j]? = some y := by
  have hj : j < acc.length := (List.getElem?_eq_some_iff.1 hy).1
  unfold stR
  rw [List.getElem?_append_left (by simp; omega), List.getElem?_take, if_pos (by omega), hy]
/-- the four cells of a seat in a row of the call's own -/
theorem own_seat {w : World} {base : Nat} {g n c : Nat} {l : List Sd} (h : w.ownsRow base 59 4 (.slice (some ⟨g, 0, none⟩) n c) n (cellsOf l)) {k : Nat} {x : Sd} (hx : l[k]? = some x) :
    w.cell? ⟨g, k * 4, none⟩ = some (.string x.adr) ∧ w.cell? ⟨g, k * 4 + 1, none⟩ = some (.string x.key) ∧ w.cell? ⟨g, k * 4 + 2, none⟩ = some (.int .i64 x.pow) ∧ w.cell? ⟨g, k * 4 + 3, none⟩ = some (.int .i64 x.pri) := by
  have g : ∀ i u, i < 4 → x.cells[i]? = some u → w.cell? ⟨g, k * 4 + i, none⟩ = some u := fun i u hi hu => by
    have := h.cells (g := g) rfl (k * 4 + i) u ((cellsOf_get l k i x hx hi).trans hu)
    rwa [add_flat, Nat.zero_add] at this
  exact ⟨g 0 _ (by omega) rfl, g 1 _ (by omega) rfl, g 2 _ (by omega) rfl, g 3 _ (by omega) rfl⟩
theorem own_free {w : World} {base : Nat} {g n c e size : Nat} {xs : List Value} (h : w.ownsRow base e size (.slice (some ⟨g, 0, none⟩) n c) n xs) (i : Nat) : w.frozen? ⟨g, i, none⟩ = false := by
  rcases h.2 with ⟨h1, _⟩ | ⟨g', cap, cur, h1, _, hh, _⟩
  · cases h1
  · cases h1
    simp [World.frozen?, hh]

theorem stR_swap (acc : List Sd) (x y : Sd) (rest : List Sd) (j : Nat) (hy : acc[j]? = some y) : ((stR acc x rest (j + 1)).set (j + 1) y).set j x = stR acc x rest j := by
  have h := List.getElem?_eq_some_iff.1 hy
  unfold stR
  rw [List.take_succ_eq_append_getElem h.1, h.2, List.drop_eq_getElem_cons h.1, h.2]
  have hj := h.1
  have hl : (acc.take j).length = j := by simp; omega
  rw [List.append_assoc, List.set_append_right _ _ (by omega), List.set_append_right _ _ (by omega)]
  congr 1
  rw [hl]
  have e1 : j + 1 - j = 1 := by omega
  rw [e1, Nat.sub_self]; rfl
theorem stR_end (acc : List Sd) (x : Sd) (rest : List Sd) (j : Nat) (h : insK x acc acc.length = j) : stR acc x rest j = insR acc x ++ rest := by
  unfold stR insR; rw [h]; simp
theorem stR_length (acc : List Sd) (x : Sd) (rest : List Sd) (j : Nat) (hj : j ≤ acc.length) : (stR acc x rest j).length = acc.length + 1 + rest.length := by
  simp only [stR, List.length_append, List.length_take, List.length_cons, List.length_drop, Nat.min_eq_left hj]; omega

set_option maxHeartbeats 3200000 in
theorem ranked_own (l : List Sd) (A : Option Addr) (n c : Nat) (w : World) (hr : Rd w w.heap.size 4 A n (cellsOf l)) (hn : n ≤ 1000000) :
    Calls Tryd.prog 44 #[.slice A n c] w fun e w' => ∃ A' c', e = .returned (.slice A' n c') ∧ w'.ownsRow w.heap.size 59 4 (.slice A' n c') n (cellsOf (rankedL l)) ∧ Below w.heap.size w w' := by
  obtain ⟨i0, hi, hz0, hz1, hz2⟩ := info_parts infoSeat
  have HI := Lib.hid hi; have HZ0 := Lib.hid hz0; have HZ1 := Lib.hid hz1; have HZ2 := Lib.hid hz2
  clear hi hz0 hz1 hz2
  have HL := Lib.hid hr.len
  have HR := Lib.hid hr; clear hr
  go_enter Tryd.func44, Tryd.ntmps44
  go_wp2_with (at_builtin; refine wpList_app w rfl (.const (.slice none 0 0)) (.tmp 6) 51 rfl w.heap.size 59 i0 _ 4 48 Tryd.underlying51 HI.out HZ0.out HZ1.out HZ2.out rfl (by decide) (.slice none 0 0) 0 [] rfl (World.ownsRow_nil w w.heap.size _ _) w.heap.size A n c (cellsOf l) rfl HR.out (cellsOf_one l) ?q1 ?q2 (Nat.le_refl _) ?_; (case q1 => simp only [maxLen]; omega); (case q2 => omega); intro A1 c1 w1 hown hg _)
  simp only [Nat.zero_add, List.nil_append] at hown
  have hb : Below w.heap.size w w1 := (Below.refl _ _).grown hg (Nat.le_refl _) (by simp [Value.ownBlock])
  have HO := Lib.hid hown; clear hown hg
  have HB := Lib.hid hb; clear hb
  go_loopw [10] (fun i wr => ∃ k : Nat, k ≤ n ∧ i = .int .i64 k ∧ Hid (wr.ownsRow w.heap.size 59 4 (.slice A1 n c1) n (cellsOf (rankedL (l.take k) ++ l.drop k))) ∧ Hid (Below w.heap.size w wr)) (fun i _ => n - (intOf i).toNat)
  case atStart => exact ⟨0, Nat.zero_le _, rfl, HO, HB⟩
  case round =>
    obtain ⟨k, hk, rfl, HO1, HB1⟩ := hrel
    clear HO HB
    by_cases hlt : k < n
    · obtain ⟨g, cap, hv, hg0, hg1⟩ := HO1.out.form (by omega)
      have e1 : A1 = some ⟨g, 0, none⟩ := by injection hv
      subst e1
      clear hv
      go_wp2
      obtain ⟨wo, rfl⟩ : ∃ wo : World, wo = wr := ⟨_, rfl⟩
      have hk' : k < l.length := by have := HL.out; omega
      obtain ⟨x, hx⟩ : ∃ x, l[k]? = some x := ⟨_, List.getElem?_eq_getElem hk'⟩
      have hacc : (rankedL (l.take k)).length = k := by rw [rankedL_length]; simp; omega
      have hst := stR_start (rankedL (l.take k)) l k x hacc hx
      have hnx := rankedL_take l k x hx
      have hO := HO1.out
      rw [hst] at hO
      generalize rankedL (l.take k) = acc at *
      have HNX := Lib.hid hnx; have HX := Lib.hid hx; have HACC := Lib.hid hacc
      clear hnx hx hacc hst HO1
      have HO2 := Lib.hid hO; clear hO
      go_loopw [5] (fun i wr => ∃ j : Nat, j ≤ k ∧ i = .int .i64 j ∧ Hid (insK x acc j = insK x acc acc.length) ∧ Hid (wr.ownsRow w.heap.size 59 4 (.slice (some ⟨g, 0, none⟩) n c1) n (cellsOf (stR acc x (l.drop (k + 1)) j))) ∧ Hid (Below w.heap.size w wr)) (fun i _ => (intOf i).toNat)
      case atStart => exact ⟨k, Nat.le_refl _, rfl, by have := HACC.out; rw [this]; rfl, HO2, HB1⟩
      case round =>
        obtain ⟨j, hj, rfl, HK, HO3, HB3⟩ := hrel
        clear HO2 HB1
        have out : insK x acc j = j → Hid (wr.ownsRow w.heap.size 59 4 (.slice (some ⟨g, 0, none⟩) n c1) n (cellsOf (rankedL (l.take (k + 1)) ++ l.drop (k + 1)))) := fun e => by
          rw [HNX.out, ← stR_end acc x _ j (HK.out.symm.trans e)]; exact HO3
        have HOUT := Lib.hid out; clear out
        obtain _ | j := j
        · go_wp2_with fail
          go_quiet (fail)
          go_wp2
          go_roundw
          case rel => exact ⟨k + 1, by omega, by go_num, HOUT.out rfl, below_drewN HB3.out _⟩
          case measure => first | (simp [intOf]; done) | (simp [intOf]; omega)
        · have hjl : j < acc.length := by have := HACC.out; omega
          obtain ⟨y, hy⟩ : ∃ y, acc[j]? = some y := ⟨_, List.getElem?_eq_getElem hjl⟩
          have hk1 : insK x acc (j + 1) = if beforeB x y then insK x acc j else j + 1 := by simp only [insK, hy]
          have hsw := stR_swap acc x y (l.drop (k + 1)) j hy
          have hln := stR_length acc x (l.drop (k + 1)) (j + 1) (by omega)
          obtain ⟨x0, x1, x2, x3⟩ := own_seat HO3.out (stR_x acc x (l.drop (k + 1)) (j + 1) (by have := HACC.out; omega))
          obtain ⟨y0, y1, y2, y3⟩ := own_seat HO3.out (stR_y acc x y (l.drop (k + 1)) j hy)
          have hf := own_free HO3.out
          have HY := Lib.hid hy; clear hy
          have HK1 := Lib.hid hk1; clear hk1
          have HSW := Lib.hid hsw; clear hsw
          have HLN := Lib.hid hln; clear hln
          have stay : beforeB x y = false → insK x acc (j + 1) = j + 1 := fun e => by rw [HK1.out, e]; rfl
          have HSTAY := Lib.hid stay; clear stay
          have go1 : beforeB x y = true → Hid (insK x acc j = insK x acc acc.length) := fun e => by
            have := HK.out; rw [HK1.out, e, if_pos rfl] at this; exact this
          have HGO := Lib.hid go1; clear go1
          have row : ∀ q, Hid (((((((((((wr.drewN q).setCell ⟨g, (j + 1) * 4, none⟩ (.string y.adr)).setCell ⟨g, (j + 1) * 4 + 1, none⟩ (.string y.key)).setCell ⟨g, (j + 1) * 4 + 2, none⟩ (.int .i64 y.pow)).setCell ⟨g, (j + 1) * 4 + 3, none⟩ (.int .i64 y.pri)).setCell ⟨g, j * 4, none⟩ (.string x.adr)).setCell ⟨g, j * 4 + 1, none⟩ (.string x.key)).setCell ⟨g, j * 4 + 2, none⟩ (.int .i64 x.pow)).setCell ⟨g, j * 4 + 3, none⟩ (.int .i64 x.pri)).ownsRow w.heap.size 59 4 (.slice (some ⟨g, 0, none⟩) n c1) n (cellsOf (stR acc x (l.drop (k + 1)) j)))) := fun q => by
            have h1 := own_put (k := j + 1) (s := y) (own_drewN HO3.out q) (by rw [HLN.out]; omega)
            have h2 := own_put (k := j) (s := x) h1 (by rw [List.length_set, HLN.out]; omega)
            rw [HSW.out] at h2; exact h2
          have HROW := Lib.hid row; clear row
          by_cases hp : y.pow < x.pow
          · have hbt : beforeB x y = true := by simp [beforeB, hp]
            have HBT := Lib.hid hbt; clear hbt
            go_wp2_with fail
            go_quiet (fail)
            go_wp2_with fail
            go_region
            go_wp2
            go_roundw
            case rel => exact ⟨j, by omega, by go_num, HGO.out HBT.out, HROW.out _, below_put (below_put (below_drewN HB3.out _) hg0) hg0⟩
            case measure => first | (simp [intOf]; done) | (simp [intOf]; omega)
          · have hp' : decide (y.pow < x.pow) = false := by simpa using hp
            by_cases he : x.pow = y.pow
            · have he' : (x.pow == y.pow) = true := by simpa using he
              cases hl : Op.bytesLess x.adr.toList y.adr.toList with
              | true =>
                have hbt : beforeB x y = true := by simp [beforeB, he', hl]
                have HBT := Lib.hid hbt; clear hbt
                have HE := Lib.hid he; clear he
                go_wp2_with fail
                go_quiet (fail)
                go_wp2_with fail
                go_region
                go_wp2
                go_roundw
                case rel => exact ⟨j, by omega, by go_num, HGO.out HBT.out, HROW.out _, below_put (below_put (below_drewN HB3.out _) hg0) hg0⟩
                case measure => first | (simp [intOf]; done) | (simp [intOf]; omega)
              | false =>
                have hbt : beforeB x y = false := by simp [beforeB, hp', hl]
                have HBT := Lib.hid hbt; clear hbt
                have HE := Lib.hid he; clear he
                go_wp2_with fail
                go_quiet (fail)
                go_wp2
                go_roundw
                case rel => exact ⟨k + 1, by omega, by go_num, HOUT.out (HSTAY.out HBT.out), below_drewN HB3.out _⟩
                case measure => first | (simp [intOf]; done) | (simp [intOf]; omega)
            · have he' : (x.pow == y.pow) = false := by simpa using he
              have hbt : beforeB x y = false := by simp [beforeB, hp', he']
              have HBT := Lib.hid hbt; clear hbt
              have HE := Lib.hid he; clear he
              go_wp2_with fail
              go_quiet (fail)
              go_wp2
              go_roundw
              case rel => exact ⟨k + 1, by omega, by go_num, HOUT.out (HSTAY.out HBT.out), below_drewN HB3.out _⟩
              case measure => first | (simp [intOf]; done) | (simp [intOf]; omega)
    · have e : k = n := by omega
      have h1 := HO1.out
      have e1 : rankedL (l.take k) ++ l.drop k = rankedL l := by
        have := HL.out
        rw [List.take_of_length_le (by omega), List.drop_of_length_le (by omega), List.append_nil]
      rw [e1] at h1
      have H1 := Lib.hid h1; clear h1 e1
      have HE := Lib.hid e; clear e
      go_wp2
      go_ret
      exact ⟨_, _, rfl, H1.out, HB1.out⟩
theorem ranked_any (l : List Sd) (A : Option Addr) (n c : Nat) (w : World) (hr : Rd w w.heap.size 4 A n (cellsOf l)) (hn : n ≤ 1000000) :
    Calls Tryd.prog 44 #[.slice A n c] w fun e w' => ∃ A' c', e = .returned (.slice A' n c') ∧ Rd w' w'.heap.size 4 A' n (cellsOf (rankedL l)) ∧ Below w.heap.size w w' := by
  refine (ranked_own l A n c w hr hn).mono ?_
  rintro e w' ⟨A', c', rfl, h1, h2⟩
  exact ⟨A', c', rfl, Rd.of_own h1, h2⟩
end Go.Proofs.YtikikddkhikfkaaDoor

namespace Go.Proofs.YtikikddkhikfkaaDoor
open Go.RowKit

def fit2 (x : Sd) : Bool := !(decide (2147483647 < x.adr.size)) && !(decide (2147483647 < x.key.size))
set_option maxHeartbeats 400000 in
theorem fits2_any (x : Sd) (w : World) (ha : x.adr.size ≤ 9223372036854775807) (hk : x.key.size ≤ 9223372036854775807) :
    Calls Tryd.prog 41 #[.agg #[.string x.adr, .string x.key, .int .i64 x.pow, .int .i64 x.pri]] w fun e w' => e = .returned (.bool (fit2 x)) ∧ Below w.heap.size w w' := by
  by_cases h1 : 2147483647 < x.adr.size
  · go_enter Tryd.func41, Tryd.ntmps41
    go_wp2
    go_ret
    exact ⟨ret_bool (by simp [fit2, h1]), (Below.refl _ _).alloc (Nat.le_refl _) _⟩
  · by_cases h2 : 2147483647 < x.key.size
    · go_enter Tryd.func41, Tryd.ntmps41
      go_wp2
      go_ret
      exact ⟨ret_bool (by simp [fit2, h2]), (Below.refl _ _).alloc (Nat.le_refl _) _⟩
    · go_enter Tryd.func41, Tryd.ntmps41
      go_wp2
      go_ret
      exact ⟨ret_bool (by simp [fit2]; omega), (Below.refl _ _).alloc (Nat.le_refl _) _⟩

def fitsB (l : List Sd) : Bool := !(decide (2147483647 < l.length)) && l.all fit2
set_option maxHeartbeats 800000 in
theorem fits1_any (l : List Sd) (A : Option Addr) (n c : Nat) (w : World) (hr : Rd w w.heap.size 4 A n (cellsOf l)) (hn : n ≤ 9223372036854775807) (hs : ∀ x ∈ l, x.adr.size ≤ 9223372036854775807 ∧ x.key.size ≤ 9223372036854775807) :
    Calls Tryd.prog 13 #[.slice A n c] w fun e w' => e = .returned (.bool (fitsB l)) ∧ Below w.heap.size w w' := by
  have HL := Lib.hid hr.len
  have HR := Lib.hid hr; clear hr
  have HS := Lib.hid hs; clear hs
  by_cases hbig : 2147483647 < n
  · have HF : Hid (fitsB l = false) := by
      have := HL.out
      show _ = _
      simp [fitsB]; omega
    go_enter Tryd.func13, Tryd.ntmps13
    go_wp2
    go_ret
    exact ⟨ret_bool HF.out.symm, Below.refl _ _⟩
  · have hbig' : n ≤ 2147483647 := by omega
    have HF : Hid (fitsB l = l.all fit2) := by
      have := HL.out
      show _ = _
      have e : decide (2147483647 < l.length) = false := by simp; omega
      simp [fitsB, e]
    clear hbig
    go_enter Tryd.func13, Tryd.ntmps13
    go_wp2
    go_loopw [10] (fun i wr => ∃ k : Nat, k ≤ n ∧ i = .int .i64 k ∧ Hid ((l.take k).all fit2 = true) ∧ Hid (Below w.heap.size w wr)) (fun i _ => n - (intOf i).toNat)
    case atStart => exact ⟨0, Nat.zero_le _, rfl, rfl, Below.refl _ _⟩
    case round =>
      obtain ⟨k, hk, rfl, HA, hb⟩ := hrel
      have hz := hb.out.size
      by_cases hlt : k < n
      · have hk' : k < l.length := by have := HL.out; omega
        have hx : l[k]? = some l[k] := List.getElem?_eq_getElem hk'
        obtain ⟨ad, rfl, _, c0, c1, c2, c3⟩ := (HR.out.below hb.out).seat hx
        obtain ⟨s1, s2⟩ := HS.out _ (List.getElem_mem hk')
        have ht : (l.take (k + 1)).all fit2 = fit2 l[k] := by
          rw [List.take_succ_eq_append_getElem hk', List.all_append, HA.out]; simp
        have hmem := List.getElem_mem hk'
        generalize l[k] = x at *
        have HT := Lib.hid ht; have HM := Lib.hid hmem; clear hx ht hmem
        cases hp : fit2 x with
        | true =>
          have HP := Lib.hid hp; clear hp
          go_wp2_with (go_at_call 41; refine (fits2_any x _ s1 s2).mono ?_; rw [HP.out]; rintro e w1 ⟨rfl, hb1⟩)
          go_roundw
          case rel => exact ⟨k + 1, by omega, by go_num, HT.out.trans HP.out, hb.out.trans (((Below.refl _ _).alloc (Nat.le_refl _) _ |>.trans (hb1.mono (by simp))).mono hz)⟩
          case measure => simp [intOf]; omega
        | false =>
          have HP := Lib.hid hp; clear hp
          have HFF : Hid (fitsB l = false) := by
            rw [show Hid (fitsB l = false) = (fitsB l = false) from rfl, HF.out]
            exact List.all_eq_false.2 ⟨x, HM.out, by rw [HP.out]; simp⟩
          go_wp2_with (go_at_call 41; refine (fits2_any x _ s1 s2).mono ?_; rw [HP.out]; rintro e w1 ⟨rfl, hb1⟩)
          go_ret
          exact ⟨ret_bool HFF.out.symm, hb.out.trans (((Below.refl _ _).alloc (Nat.le_refl _) _ |>.trans (hb1.mono (by simp))).mono hz)⟩
      · have hd : fitsB l = true := by
          rw [HF.out, ← HA.out, List.take_of_length_le (by have := HL.out; omega)]
        have HD := Lib.hid hd; clear hd
        have e : k = n := by omega
        have HE := Lib.hid e; clear e
        go_wp2
        go_ret
        exact ⟨ret_bool HD.out.symm, hb.out⟩

/-- the greatest of x and -(x + 1), as the laws take numbers -/
def mag (x : Int) : Int := if 0 ≤ x then x else -(x + 1)
def norm (s : Sd) : Sd := { s with pow := 1 + mag s.pow % 1125899906842624, pri := s.pri.tmod 1152921504606846976 }
theorem norm_cells (x : Sd) (h1 : -9223372036854775808 ≤ x.pow) (h2 : x.pow ≤ 9223372036854775807) :
    (#[Value.string x.adr, Value.string x.key, .int .i64 (wrap64 (1 + (if x.pow < wrap64 (-wrap64 (x.pow + 1)) then wrap64 (-wrap64 (x.pow + 1)) else x.pow).tmod 1125899906842624)), .int .i64 (x.pri.tmod 1152921504606846976)] : Array Value).toList = (norm x).cells := by
  have e : wrap64 (1 + (if x.pow < wrap64 (-wrap64 (x.pow + 1)) then wrap64 (-wrap64 (x.pow + 1)) else x.pow).tmod 1125899906842624) = 1 + mag x.pow % 1125899906842624 := by
    have e1 : (if x.pow < wrap64 (-wrap64 (x.pow + 1)) then wrap64 (-wrap64 (x.pow + 1)) else x.pow) = mag x.pow := by
      unfold mag wrap64
      by_cases h : 0 ≤ x.pow
      · rw [if_pos h, if_neg (by omega)]
      · rw [if_neg h, if_pos (by omega)]; omega
    rw [e1]
    have h0 : 0 ≤ mag x.pow := by unfold mag; split <;> omega
    rw [Int.tmod_eq_emod_of_nonneg h0]
    unfold wrap64
    omega
  rw [e]; rfl
def skipB (acc : List Sd) (s : Sd) : Bool := s.adr.toList.isEmpty || s.key.toList.isEmpty || acc.any (fun x => sameB x s)
def setAcc (acc : List Sd) (s : Sd) : List Sd := if skipB acc s then acc else acc ++ [norm s]
def setL (l : List Sd) : List Sd := (l.take 60).foldl setAcc []
theorem setAcc_length (acc : List Sd) (s : Sd) : (setAcc acc s).length ≤ acc.length + 1 := by unfold setAcc; split <;> simp
theorem foldl_setAcc_length (l acc : List Sd) : (l.foldl setAcc acc).length ≤ acc.length + l.length := by
  induction l generalizing acc with
  | nil => simp
  | cons x r ih =>
    have h1 := ih (setAcc acc x)
    have h2 := setAcc_length acc x
    simp only [List.foldl_cons, List.length_cons]; omega
theorem foldl_take_succ {α β : Type} (f : β → α → β) (b : β) (l : List α) (k : Nat) (x : α) (hx : l[k]? = some x) : (l.take (k + 1)).foldl f b = f ((l.take k).foldl f b) x := by
  have h := List.getElem?_eq_some_iff.1 hx
  rw [List.take_succ_eq_append_getElem h.1, h.2, List.foldl_append]; rfl

theorem own_base_le {w : World} {base base' e size : Nat} {v : Value} {n : Nat} {xs : List Value} (h : w.ownsRow base e size v n xs) (hb : base' ≤ base) : w.ownsRow base' e size v n xs := by
  refine ⟨h.1, ?_⟩
  rcases h.2 with h2 | ⟨g, cap, cur, hv, hg, hh, r⟩
  · exact Or.inl h2
  · exact Or.inr ⟨g, cap, cur, hv, Nat.le_trans hb hg, hh, r⟩
set_option maxRecDepth 100000 in
set_option maxHeartbeats 3200000 in
theorem set_own (l : List Sd) (A : Option Addr) (n c : Nat) (w : World) (hr : Rd w w.heap.size 4 A n (cellsOf l)) (hn : n ≤ 2147483647) (hnc : n ≤ c) (hi : ∀ x ∈ l, -9223372036854775808 ≤ x.pow ∧ x.pow ≤ 9223372036854775807 ∧ -9223372036854775808 ≤ x.pri ∧ x.pri ≤ 9223372036854775807) :
    Calls Tryd.prog 14 #[.slice A n c] w fun e w' => ∃ A' c' n', e = .returned (.slice A' n' c') ∧ w'.ownsRow w.heap.size 59 4 (.slice A' n' c') n' (cellsOf (rankedL (setL l))) ∧ Below w.heap.size w w' := by
  obtain ⟨i0, hi0, hz0, hz1, hz2⟩ := info_parts infoSeat
  have HI := Lib.hid hi0; have HZ0 := Lib.hid hz0; have HZ1 := Lib.hid hz1; have HZ2 := Lib.hid hz2
  clear hi0 hz0 hz1 hz2
  obtain ⟨m, hm⟩ : ∃ m, m = min n 60 := ⟨_, rfl⟩
  have hmn : m ≤ n := by omega
  have hm60 : m ≤ 60 := by omega
  have HM := Lib.hid hm
  have hr' : Rd w w.heap.size 4 A m (cellsOf (l.take 60)) := by
    have h1 := hr.take hmn
    have h2 := hr.len
    rw [cellsOf_take]
    rw [hm] at h1 ⊢
    by_cases h : n ≤ 60
    · rw [Nat.min_eq_left h] at h1 ⊢
      rw [List.take_of_length_le (by rw [cellsOf_length]; omega)] at h1 ⊢
      exact h1
    · rw [Nat.min_eq_right (by omega)] at h1 ⊢; exact h1
  have hi' : ∀ x ∈ l.take 60, -9223372036854775808 ≤ x.pow ∧ x.pow ≤ 9223372036854775807 ∧ -9223372036854775808 ≤ x.pri ∧ x.pri ≤ 9223372036854775807 := fun x hx => hi x (List.mem_of_mem_take hx)
  have HT : Hid (setL l = (l.take 60).foldl setAcc []) := rfl
  generalize l.take 60 = t at *
  have HL := Lib.hid hr'.len
  have HR := Lib.hid hr'; clear hr hr'
  have HX := Lib.hid hi'; clear hi hi'
  by_cases hle : n ≤ 60
  · obtain rfl : n = m := by omega
    clear hm hmn hm60
    go_enter Tryd.func14, Tryd.ntmps14
    go_wp2
    go_loopw [3, 12] (fun v i wr => ∃ (k q : Nat) (A1 : Option Addr) (c1 : Nat), k ≤ n ∧ q ≤ k ∧ i = .int .i64 k ∧ v = .slice A1 q c1 ∧ Hid (wr.ownsRow w.heap.size 59 4 (.slice A1 q c1) q (cellsOf ((t.take k).foldl setAcc []))) ∧ Hid (Below w.heap.size w wr)) (fun _ i _ => n - (intOf i).toNat)
    case atStart => exact ⟨0, 0, none, 0, Nat.zero_le _, Nat.zero_le _, rfl, rfl, World.ownsRow_nil w w.heap.size _ _, Below.refl _ _⟩
    case round =>
      obtain ⟨k, q, A1, c1, hk, hq, rfl, rfl, HO, HB⟩ := hrel
      have hz := HB.out.size
      by_cases hlt : k < n
      · have hk' : k < t.length := by have := HL.out; omega
        have hx : t[k]? = some t[k] := List.getElem?_eq_getElem hk'
        obtain ⟨ad, rfl, _, c0, c1', c2, c3⟩ := (HR.out.below HB.out).seat hx
        have hbx := HX.out _ (List.getElem_mem hk')
        have hst := foldl_take_succ setAcc [] t k _ hx
        have hro : Rd wr wr.heap.size 4 A1 q (cellsOf ((t.take k).foldl setAcc [])) := Rd.of_own HO.out
        have hlq : ((t.take k).foldl setAcc []).length = q := by have := hro.len; omega
        generalize t[k] = x at *
        generalize (t.take k).foldl setAcc [] = acc at *
        have HST := Lib.hid hst; have HXX := Lib.hid hx; have HLQ := Lib.hid hlq; have HRO := Lib.hid hro
        clear hst hx hlq hro
        have grow : Hid (setAcc acc x = acc) → Hid (wr.ownsRow w.heap.size 59 4 (.slice A1 q c1) q (cellsOf ((t.take (k + 1)).foldl setAcc []))) := fun e => by
          have h := HO.out; rw [← e.out, ← HST.out] at h; exact h
        have HGROW := Lib.hid grow; clear grow
        have HBA : Hid (Below w.heap.size w (wr.alloc (.cells #[.string x.adr, .string x.key, .int .i64 x.pow, .int .i64 x.pri] 101))) := HB.out.alloc hz _
        have keepA : Hid (wr.ownsRow w.heap.size 59 4 (.slice A1 q c1) q (cellsOf ((t.take (k + 1)).foldl setAcc []))) → Hid ((wr.alloc (.cells #[.string x.adr, .string x.key, .int .i64 x.pow, .int .i64 x.pri] 101)).ownsRow w.heap.size 59 4 (.slice A1 q c1) q (cellsOf ((t.take (k + 1)).foldl setAcc []))) := fun h => h.out.alloc _
        have HKA := Lib.hid keepA; clear keepA
        by_cases ha : x.adr.toList = []
        · have hsk : Hid (setAcc acc x = acc) := by show _ = _; simp [setAcc, skipB, ha]
          go_wp2
          go_roundw
          case rel => exact ⟨k + 1, q, A1, c1, by omega, by omega, by go_num, rfl, HKA.out (HGROW.out hsk), HBA⟩
          case measure => simp [intOf]; omega
        · have ha' : x.adr.toList.isEmpty = false := by simpa using ha
          by_cases hke : x.key.toList = []
          · have hsk : Hid (setAcc acc x = acc) := by show _ = _; simp [setAcc, skipB, hke]
            go_wp2
            go_roundw
            case rel => exact ⟨k + 1, q, A1, c1, by omega, by omega, by go_num, rfl, HKA.out (HGROW.out hsk), HBA⟩
            case measure => simp [intOf]; omega
          · have hke' : x.key.toList.isEmpty = false := by simpa using hke
            have HC := Lib.hid (contains_set acc A1 q c1 x wr.heap.size (wr.alloc (.cells #[.string x.adr, .string x.key, .int .i64 x.pow, .int .i64 x.pri] 101)) ((HRO.out.alloc (Nat.le_refl _) _).more (by simp)) (by omega) (by simp) (by simp) (by simp))
            cases hp : (acc.any fun y => sameB y x) with
            | true =>
              have hsk : Hid (setAcc acc x = acc) := by show _ = _; simp [setAcc, skipB, hp]
              have HP := Lib.hid hp; clear hp
              go_wp2_with (go_at_call 42; refine HC.out.mono ?_; rw [HP.out]; rintro e w1 ⟨rfl, hb1⟩)
              go_roundw
              case rel => exact ⟨k + 1, q, A1, c1, by omega, by omega, by go_num, rfl, own_below (HKA.out (HGROW.out hsk)) hb1, HBA.out.trans (hb1.mono (by have := HBA.out.size; omega))⟩
              case measure => simp [intOf]; omega
            | false =>
              have hsk : Hid (setAcc acc x = acc ++ [norm x]) := by show _ = _; simp [setAcc, skipB, hp, ha', hke']
              have HP := Lib.hid hp; clear hp
              go_wp2_with (first | (go_at_call 42; refine HC.out.mono ?_; rw [HP.out]; rintro e w1 ⟨rfl, hb1⟩; have d0 : w1.cell? ⟨wr.heap.size, 0, none⟩ = some (.string x.adr) := (hb1.cell (p := ⟨wr.heap.size, 0, none⟩) (by simp)).trans (by simp); have d1 : w1.cell? ⟨wr.heap.size, 1, none⟩ = some (.string x.key) := (hb1.cell (p := ⟨wr.heap.size, 1, none⟩) (by simp)).trans (by simp); have d2 : w1.cell? ⟨wr.heap.size, 2, none⟩ = some (.int .i64 x.pow) := (hb1.cell (p := ⟨wr.heap.size, 2, none⟩) (by simp)).trans (by simp); have d3 : w1.cell? ⟨wr.heap.size, 3, none⟩ = some (.int .i64 x.pri) := (hb1.cell (p := ⟨wr.heap.size, 3, none⟩) (by simp)).trans (by simp); have df : ∀ i, w1.frozen? ⟨wr.heap.size, i, none⟩ = false := (fun i => (hb1.frozen (p := ⟨wr.heap.size, i, none⟩) (by simp)).trans (by simp)); have dz : wr.heap.size < w1.heap.size := (by have := hb1.size; simp at this; omega)) | (at_builtin; refine wpList_app _ rfl (.tmp 43) (.tmp 45) 51 rfl w.heap.size 59 i0 _ 4 48 Tryd.underlying51 HI.out HZ0.out HZ1.out HZ2.out rfl (by decide) (.slice A1 q c1) q (cellsOf acc) rfl ?ho (w1.heap.size + 1) (some ⟨w1.heap.size, 0, none⟩) 1 1 (norm x).cells rfl ?hr (norm x).cells_one ?q1 ?q2 ?hb ?_; (case q1 => simp only [maxLen]; omega); (case q2 => omega); (case hr => rw [← norm_cells x hbx.1 hbx.2.1]; exact Rd.new _ _ _ 4 1 _ rfl (by simp)); (case ho => exact own_below HO.out (((((Below.refl _ _).alloc (Nat.le_refl _) _).trans (hb1.mono (by simp))).setCell (p := ⟨_, _, none⟩) (Nat.le_refl _) _).setCell (p := ⟨_, _, none⟩) (Nat.le_refl _) _ |>.alloc (by simp; omega) _) (Nat.le_refl _)); (case hb => simp; omega); intro A2 c2 w2 hown2 hg2 _; rw [cellsOf_snoc] at hown2))
              go_roundw
              case rel => exact ⟨k + 1, q + 1, A2, c2, by omega, by omega, by go_num, rfl, by rw [HST.out, hsk.out]; exact hown2, (((HBA.out.trans (hb1.mono (by have := HBA.out.size; omega))).setCell (p := ⟨_, _, none⟩) hz _).setCell (p := ⟨_, _, none⟩) hz _ |>.alloc (by have := HBA.out.size; have := hb1.size; simp; omega) _).grown hg2 (by have := HBA.out.size; have := hb1.size; simp; omega) (own_base HO.out)⟩
              case measure => simp [intOf]; omega
      · have e : k = n := by omega
        have h1 := HO.out
        rw [List.take_of_length_le (by have := HL.out; omega), ← HT.out] at h1
        have H1 := Lib.hid (Rd.of_own h1); clear h1
        have HE := Lib.hid e; clear e
        go_wp2_with (go_at_call 44; refine (ranked_own (setL l) A1 q c1 wr H1.out (by omega)).mono ?_; rintro e w1 ⟨A2, c2, rfl, hr2, hb2⟩)
        go_ret
        exact ⟨A2, c2, q, rfl, own_base_le hr2 hz, HB.out.trans (hb2.mono hz)⟩
  · obtain rfl : m = 60 := by omega
    clear hm hmn hm60
    go_enter Tryd.func14, Tryd.ntmps14
    go_wp2
    go_loopw [3, 12] (fun v i wr => ∃ (k q : Nat) (A1 : Option Addr) (c1 : Nat), k ≤ 60 ∧ q ≤ k ∧ i = .int .i64 k ∧ v = .slice A1 q c1 ∧ Hid (wr.ownsRow w.heap.size 59 4 (.slice A1 q c1) q (cellsOf ((t.take k).foldl setAcc []))) ∧ Hid (Below w.heap.size w wr)) (fun _ i _ => 60 - (intOf i).toNat)
    case atStart => exact ⟨0, 0, none, 0, Nat.zero_le _, Nat.zero_le _, rfl, rfl, World.ownsRow_nil w w.heap.size _ _, Below.refl _ _⟩
    case round =>
      obtain ⟨k, q, A1, c1, hk, hq, rfl, rfl, HO, HB⟩ := hrel
      have hz := HB.out.size
      by_cases hlt : k < 60
      · have hk' : k < t.length := by have := HL.out; omega
        have hx : t[k]? = some t[k] := List.getElem?_eq_getElem hk'
        obtain ⟨ad, rfl, _, c0, c1', c2, c3⟩ := (HR.out.below HB.out).seat hx
        have hbx := HX.out _ (List.getElem_mem hk')
        have hst := foldl_take_succ setAcc [] t k _ hx
        have hro : Rd wr wr.heap.size 4 A1 q (cellsOf ((t.take k).foldl setAcc [])) := Rd.of_own HO.out
        have hlq : ((t.take k).foldl setAcc []).length = q := by have := hro.len; omega
        generalize t[k] = x at *
        generalize (t.take k).foldl setAcc [] = acc at *
        have HST := Lib.hid hst; have HXX := Lib.hid hx; have HLQ := Lib.hid hlq; have HRO := Lib.hid hro
        clear hst hx hlq hro
        have grow : Hid (setAcc acc x = acc) → Hid (wr.ownsRow w.heap.size 59 4 (.slice A1 q c1) q (cellsOf ((t.take (k + 1)).foldl setAcc []))) := fun e => by
          have h := HO.out; rw [← e.out, ← HST.out] at h; exact h
        have HGROW := Lib.hid grow; clear grow
        have HBA : Hid (Below w.heap.size w (wr.alloc (.cells #[.string x.adr, .string x.key, .int .i64 x.pow, .int .i64 x.pri] 101))) := HB.out.alloc hz _
        have keepA : Hid (wr.ownsRow w.heap.size 59 4 (.slice A1 q c1) q (cellsOf ((t.take (k + 1)).foldl setAcc []))) → Hid ((wr.alloc (.cells #[.string x.adr, .string x.key, .int .i64 x.pow, .int .i64 x.pri] 101)).ownsRow w.heap.size 59 4 (.slice A1 q c1) q (cellsOf ((t.take (k + 1)).foldl setAcc []))) := fun h => h.out.alloc _
        have HKA := Lib.hid keepA; clear keepA
        by_cases ha : x.adr.toList = []
        · have hsk : Hid (setAcc acc x = acc) := by show _ = _; simp [setAcc, skipB, ha]
          go_wp2
          go_roundw
          case rel => exact ⟨k + 1, q, A1, c1, by omega, by omega, by go_num, rfl, HKA.out (HGROW.out hsk), HBA⟩
          case measure => simp [intOf]; omega
        · have ha' : x.adr.toList.isEmpty = false := by simpa using ha
          by_cases hke : x.key.toList = []
          · have hsk : Hid (setAcc acc x = acc) := by show _ = _; simp [setAcc, skipB, hke]
            go_wp2
            go_roundw
            case rel => exact ⟨k + 1, q, A1, c1, by omega, by omega, by go_num, rfl, HKA.out (HGROW.out hsk), HBA⟩
            case measure => simp [intOf]; omega
          · have hke' : x.key.toList.isEmpty = false := by simpa using hke
            have HC := Lib.hid (contains_set acc A1 q c1 x wr.heap.size (wr.alloc (.cells #[.string x.adr, .string x.key, .int .i64 x.pow, .int .i64 x.pri] 101)) ((HRO.out.alloc (Nat.le_refl _) _).more (by simp)) (by omega) (by simp) (by simp) (by simp))
            cases hp : (acc.any fun y => sameB y x) with
            | true =>
              have hsk : Hid (setAcc acc x = acc) := by show _ = _; simp [setAcc, skipB, hp]
              have HP := Lib.hid hp; clear hp
              go_wp2_with (go_at_call 42; refine HC.out.mono ?_; rw [HP.out]; rintro e w1 ⟨rfl, hb1⟩)
              go_roundw
              case rel => exact ⟨k + 1, q, A1, c1, by omega, by omega, by go_num, rfl, own_below (HKA.out (HGROW.out hsk)) hb1, HBA.out.trans (hb1.mono (by have := HBA.out.size; omega))⟩
              case measure => simp [intOf]; omega
            | false =>
              have hsk : Hid (setAcc acc x = acc ++ [norm x]) := by show _ = _; simp [setAcc, skipB, hp, ha', hke']
              have HP := Lib.hid hp; clear hp
              go_wp2_with (first | (go_at_call 42; refine HC.out.mono ?_; rw [HP.out]; rintro e w1 ⟨rfl, hb1⟩; have d0 : w1.cell? ⟨wr.heap.size, 0, none⟩ = some (.string x.adr) := (hb1.cell (p := ⟨wr.heap.size, 0, none⟩) (by simp)).trans (by simp); have d1 : w1.cell? ⟨wr.heap.size, 1, none⟩ = some (.string x.key) := (hb1.cell (p := ⟨wr.heap.size, 1, none⟩) (by simp)).trans (by simp); have d2 : w1.cell? ⟨wr.heap.size, 2, none⟩ = some (.int .i64 x.pow) := (hb1.cell (p := ⟨wr.heap.size, 2, none⟩) (by simp)).trans (by simp); have d3 : w1.cell? ⟨wr.heap.size, 3, none⟩ = some (.int .i64 x.pri) := (hb1.cell (p := ⟨wr.heap.size, 3, none⟩) (by simp)).trans (by simp); have df : ∀ i, w1.frozen? ⟨wr.heap.size, i, none⟩ = false := (fun i => (hb1.frozen (p := ⟨wr.heap.size, i, none⟩) (by simp)).trans (by simp)); have dz : wr.heap.size < w1.heap.size := (by have := hb1.size; simp at this; omega)) | (at_builtin; refine wpList_app _ rfl (.tmp 43) (.tmp 45) 51 rfl w.heap.size 59 i0 _ 4 48 Tryd.underlying51 HI.out HZ0.out HZ1.out HZ2.out rfl (by decide) (.slice A1 q c1) q (cellsOf acc) rfl ?ho (w1.heap.size + 1) (some ⟨w1.heap.size, 0, none⟩) 1 1 (norm x).cells rfl ?hr (norm x).cells_one ?q1 ?q2 ?hb ?_; (case q1 => simp only [maxLen]; omega); (case q2 => omega); (case hr => rw [← norm_cells x hbx.1 hbx.2.1]; exact Rd.new _ _ _ 4 1 _ rfl (by simp)); (case ho => exact own_below HO.out (((((Below.refl _ _).alloc (Nat.le_refl _) _).trans (hb1.mono (by simp))).setCell (p := ⟨_, _, none⟩) (Nat.le_refl _) _).setCell (p := ⟨_, _, none⟩) (Nat.le_refl _) _ |>.alloc (by simp; omega) _) (Nat.le_refl _)); (case hb => simp; omega); intro A2 c2 w2 hown2 hg2 _; rw [cellsOf_snoc] at hown2))
              go_roundw
              case rel => exact ⟨k + 1, q + 1, A2, c2, by omega, by omega, by go_num, rfl, by rw [HST.out, hsk.out]; exact hown2, (((HBA.out.trans (hb1.mono (by have := HBA.out.size; omega))).setCell (p := ⟨_, _, none⟩) hz _).setCell (p := ⟨_, _, none⟩) hz _ |>.alloc (by have := HBA.out.size; have := hb1.size; simp; omega) _).grown hg2 (by have := HBA.out.size; have := hb1.size; simp; omega) (own_base HO.out)⟩
              case measure => simp [intOf]; omega
      · have e : k = 60 := by omega
        have h1 := HO.out
        rw [List.take_of_length_le (by have := HL.out; omega), ← HT.out] at h1
        have H1 := Lib.hid (Rd.of_own h1); clear h1
        have HE := Lib.hid e; clear e
        go_wp2_with (go_at_call 44; refine (ranked_own (setL l) A1 q c1 wr H1.out (by omega)).mono ?_; rintro e w1 ⟨A2, c2, rfl, hr2, hb2⟩)
        go_ret
        exact ⟨A2, c2, q, rfl, own_base_le hr2 hz, HB.out.trans (hb2.mono hz)⟩
theorem set_any (l : List Sd) (A : Option Addr) (n c : Nat) (w : World) (hr : Rd w w.heap.size 4 A n (cellsOf l)) (hn : n ≤ 2147483647) (hnc : n ≤ c) (hi : ∀ x ∈ l, -9223372036854775808 ≤ x.pow ∧ x.pow ≤ 9223372036854775807 ∧ -9223372036854775808 ≤ x.pri ∧ x.pri ≤ 9223372036854775807) :
    Calls Tryd.prog 14 #[.slice A n c] w fun e w' => ∃ A' c' n', e = .returned (.slice A' n' c') ∧ Rd w' w'.heap.size 4 A' n' (cellsOf (rankedL (setL l))) ∧ Below w.heap.size w w' := by
  refine (set_own l A n c w hr hn hnc hi).mono ?_
  rintro e w' ⟨A', c', n', rfl, h1, h2⟩
  exact ⟨A', c', n', rfl, Rd.of_own h1, h2⟩
end Go.Proofs.YtikikddkhikfkaaDoor

namespace Go.Proofs.YtikikddkhikfkaaDoor
open Go.RowKit

def pstep (best : Option (Sd × Nat)) (p : Sd × Nat) : Option (Sd × Nat) :=
  match best with
  | none => some p
  | some q => if q.1.adr.toList == p.1.adr.toList || aheadB q.1 p.1 then some q else some p
def propOf (l : List Sd) : Option (Sd × Nat) := l.zipIdx.foldl pstep none
def pval (bs : List Nat) : Option (Sd × Nat) → Value
  | none => .pointer none
  | some q => ptrTo (bs.getD q.2 0)

end Go.Proofs.YtikikddkhikfkaaDoor

set_option linter.unusedSimpArgs false
namespace Go.Proofs.YtikikddkhikfkaaDoor
open Go.RowKit

def clip (x : Int) : Int := if 9223372036854775807 < x then 9223372036854775807 else if x < -9223372036854775808 then -9223372036854775808 else x
def in64 (x : Int) : Prop := -9223372036854775808 ≤ x ∧ x ≤ 9223372036854775807
theorem clip_in (x : Int) : in64 (clip x) := by unfold clip in64; split <;> (try split) <;> omega
theorem clip_of {x : Int} (h : in64 x) : clip x = x := by unfold clip in64 at *; rw [if_neg (by omega), if_neg (by omega)]

set_option maxHeartbeats 800000 in
theorem safeAdd_any (a b : Int) (w : World) (ha : in64 a) (hb : in64 b) :
    Calls Tryd.prog 118 #[.int .i64 a, .int .i64 b] w fun e w' => (in64 (a + b) → e = .returned (.tuple #[.int .i64 (a + b), .bool false])) ∧ (¬ in64 (a + b) → e = .returned (.tuple #[.int .i64 (-1), .bool true])) ∧ w = w' := by
  unfold in64 at *
  by_cases h1 : 0 < b
  · have q1 : wrap64 (9223372036854775807 - b) = 9223372036854775807 - b := by unfold wrap64; omega
    by_cases h2 : 9223372036854775807 - b < a
    · go_enter Tryd.func118, Tryd.ntmps118
      go_wp2
      go_ret2
      exact ⟨fun h => by omega, fun _ => rfl, rfl⟩
    · have q2 : decide (b < 0) = false := by simp; omega
      have q3 : wrap64 (a + b) = a + b := by unfold wrap64; omega
      go_enter Tryd.func118, Tryd.ntmps118
      go_wp2
      go_ret2
      exact ⟨fun _ => by simp [q3], fun h => by omega, rfl⟩
  · have q0 : decide (0 < b) = false := by simpa using h1
    by_cases h2 : b < 0
    · have q1 : wrap64 (-9223372036854775808 - b) = -9223372036854775808 - b := by unfold wrap64; omega
      by_cases h3 : a < -9223372036854775808 - b
      · go_enter Tryd.func118, Tryd.ntmps118
        go_wp2
        go_ret2
        exact ⟨fun h => by omega, fun _ => rfl, rfl⟩
      · have q3 : wrap64 (a + b) = a + b := by unfold wrap64; omega
        go_enter Tryd.func118, Tryd.ntmps118
        go_wp2
        go_ret2
        exact ⟨fun _ => by simp [q3], fun h => by omega, rfl⟩
    · have q3 : wrap64 (a + b) = a + b := by unfold wrap64; omega
      have q4 : decide (b < 0) = false := by simpa using h2
      go_enter Tryd.func118, Tryd.ntmps118
      go_wp2
      go_ret2
      exact ⟨fun _ => by simp [q3], fun h => by omega, rfl⟩

theorem addClip_any (a b : Int) (w : World) (ha : in64 a) (hb : in64 b) :
    Calls Tryd.prog 102 #[.int .i64 a, .int .i64 b] w fun e w' => e = .returned (.int .i64 (clip (a + b))) ∧ w = w' := by
  have HC := Lib.hid (safeAdd_any a b w ha hb)
  by_cases hin : in64 (a + b)
  · have hcl := clip_of hin
    go_enter Tryd.func102, Tryd.ntmps102
    go_wp2_with fail
    refine HC.out.mono ?_
    rintro e w1 ⟨h1, _, rfl⟩
    obtain rfl := h1 hin
    go_wp2
    go_ret
    exact ⟨ret_int hcl.symm, rfl⟩
  · have hcl : clip (a + b) = if b < 0 then -9223372036854775808 else 9223372036854775807 := by
      unfold clip in64 at *
      by_cases hb0 : b < 0
      · rw [if_pos hb0, if_neg (by omega), if_pos (by omega)]
      · rw [if_neg hb0, if_pos (by omega)]
    by_cases hb0 : b < 0
    · rw [if_pos hb0] at hcl
      go_enter Tryd.func102, Tryd.ntmps102
      go_wp2_with fail
      refine HC.out.mono ?_
      rintro e w1 ⟨_, h1, rfl⟩
      obtain rfl := h1 hin
      go_wp2
      go_ret
      exact ⟨ret_int hcl.symm, rfl⟩
    · rw [if_neg hb0] at hcl
      have hb1 : decide (b < 0) = false := by simpa using hb0
      go_enter Tryd.func102, Tryd.ntmps102
      go_wp2_with fail
      refine HC.out.mono ?_
      rintro e w1 ⟨_, h1, rfl⟩
      obtain rfl := h1 hin
      go_wp2
      go_ret
      exact ⟨ret_int hcl.symm, rfl⟩

end Go.Proofs.YtikikddkhikfkaaDoor
