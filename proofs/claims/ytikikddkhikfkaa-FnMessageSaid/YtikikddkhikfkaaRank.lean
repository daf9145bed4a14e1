/-
  The order of a set (spec.Ranked): the walk. By the session.
-/
import Derived.Test.YtikikddkhikfkaaRows
import Derived.Test.YtikikddkhikfkaaMem
import Derived.RegionTactic
import Derived.ChangeAlike
import Derived.BigRegion
namespace Go.Proofs.Ytikikddkhikfkaa
open Go.RowKit

theorem infoSeat : (Try.prog.info? 49).map (fun i => (i.zero, i.size, i.bytes)) = some (some (.agg #[.string ⟨#[]⟩, .string ⟨#[]⟩, .int .i64 0, .int .i64 0]), 4, 48) := by kernel_rfl

/-- does x stand before y in a set? -/
def beforeB (x y : Sd) : Bool := decide (y.pow < x.pow) || (x.pow == y.pow && Op.bytesLess x.adr.toList y.adr.toList)

/-- from place k leftwards: where x goes -/
def insK (x : Sd) (acc : List Sd) : Nat → Nat
  | 0 => 0
  | k + 1 => match acc[k]? with
    | some y => if beforeB x y then insK x acc k else k + 1
    | none => k + 1
def insR (acc : List Sd) (x : Sd) : List Sd := acc.take (insK x acc acc.length) ++ x :: acc.drop (insK x acc acc.length)
def rankedL (l : List Sd) : List Sd := l.foldl insR []

def stR (acc : List Sd) (x : Sd) (rest : List Sd) (j : Nat) : List Sd := acc.take j ++ x :: (acc.drop j ++ rest)
theorem insR_length (acc : List Sd) (x : Sd) : (insR acc x).length = acc.length + 1 := by simp [insR]; omega
theorem rankedL_length (l : List Sd) : (rankedL l).length = l.length := by
  have : ∀ (l acc : List Sd), (l.foldl insR acc).length = acc.length + l.length := by
    intro l
    induction l with
    | nil => intro acc; rfl
    | cons x r ih => intro acc; simp only [List.foldl_cons, List.length_cons]; rw [ih, insR_length]; omega
  rw [rankedL, this]; simp
theorem rankedL_take (l : List Sd) (k : Nat) (x : Sd) (hx : l[k]? = some x) : rankedL (l.take (k + 1)) = insR (rankedL (l.take k)) x := by
  have hk : k < l.length := (List.getElem?_eq_some_iff.1 hx).1
  have e : l[k] = x := (List.getElem?_eq_some_iff.1 hx).2
  rw [List.take_succ_eq_append_getElem hk, e]
  simp [rankedL, List.foldl_append]
theorem stR_x (acc : List Sd) (x : Sd) (rest : List Sd) (j : Nat) (hj : j ≤ acc.length) : (stR acc x rest j)[j]? = some x := by
  unfold stR
  rw [List.getElem?_append_right (by simp; omega)]
  simp [Nat.min_eq_left hj]
theorem stR_start (acc l : List Sd) (k : Nat) (x : Sd) (hk : acc.length = k) (hx : l[k]? = some x) : acc ++ l.drop k = stR acc x (l.drop (k + 1)) k := by
  have h := (List.getElem?_eq_some_iff.1 hx)
  unfold stR
  rw [List.take_of_length_le (by omega), List.drop_of_length_le (l := acc) (by omega), List.drop_eq_getElem_cons h.1, h.2]; rfl
theorem stR_y (acc : List Sd) (x y : Sd) (rest : List Sd) (j : Nat) (hy : acc[j]? = some y) : (stR acc x rest (j + 1))[j]? = some y := by
  have hj : j < acc.length := (List.getElem?_eq_some_iff.1 hy).1
  unfold stR
  rw [List.getElem?_append_left (by simp; omega), List.getElem?_take, if_pos (by omega), hy]
/-- the four cells of a seat in a row of the call's own -/
theorem own_seat {w : World} {base : Nat} {g n c : Nat} {l : List Sd} (h : w.ownsRow base 49 4 (.slice (some ⟨g, 0, none⟩) n c) n (cellsOf l)) {k : Nat} {x : Sd} (hx : l[k]? = some x) :
    w.cell? ⟨g, k * 4, none⟩ = some (.string x.adr) ∧ w.cell? ⟨g, k * 4 + 1, none⟩ = some (.string x.key) ∧ w.cell? ⟨g, k * 4 + 2, none⟩ = some (.int .i64 x.pow) ∧ w.cell? ⟨g, k * 4 + 3, none⟩ = some (.int .i64 x.pri) := by
  have g : ∀ i u, i < 4 → x.cells[i]? = some u → w.cell? ⟨g, k * 4 + i, none⟩ = some u := fun i u hi hu => by
    have := h.cells (g := g) rfl (k * 4 + i) u ((cellsOf_get l k i x hx hi).trans hu)
    rwa [add_flat, Nat.zero_add] at this
  exact ⟨g 0 _ (by omega) rfl, g 1 _ (by omega) rfl, g 2 _ (by omega) rfl, g 3 _ (by omega) rfl⟩
theorem own_free {w : World} {base : Nat} {g n c e size : Nat} {xs : List Value} (h : w.ownsRow base e size (.slice (some ⟨g, 0, none⟩) n c) n xs) (i : Nat) : w.frozen? ⟨g, i, none⟩ = false := by
  rcases h.2 with ⟨h1, _⟩ | ⟨g', cap, cur, h1, _, hh, _⟩
  · cases h1
  · cases h1
    simp [World.frozen?, hh]

theorem stR_swap (acc : List Sd) (x y : Sd) (rest : List Sd) (j : Nat) (hy : acc[j]? = some y) : ((stR acc x rest (j + 1)).set (j + 1) y).set j x = stR acc x rest j := by
  have h := List.getElem?_eq_some_iff.1 hy
  unfold stR
  rw [List.take_succ_eq_append_getElem h.1, h.2, List.drop_eq_getElem_cons h.1, h.2]
  have hj := h.1
  have hl : (acc.take j).length = j := by simp; omega
  rw [List.append_assoc, List.set_append_right _ _ (by omega), List.set_append_right _ _ (by omega)]
  congr 1
  rw [hl]
  have e1 : j + 1 - j = 1 := by omega
  rw [e1, Nat.sub_self]; rfl
theorem stR_end (acc : List Sd) (x : Sd) (rest : List Sd) (j : Nat) (h : insK x acc acc.length = j) : stR acc x rest j = insR acc x ++ rest := by
  unfold stR insR; rw [h]; simp
theorem stR_length (acc : List Sd) (x : Sd) (rest : List Sd) (j : Nat) (hj : j ≤ acc.length) : (stR acc x rest j).length = acc.length + 1 + rest.length := by
  simp only [stR, List.length_append, List.length_take, List.length_cons, List.length_drop, Nat.min_eq_left hj]; omega

set_option maxHeartbeats 3200000 in
theorem ranked_own (l : List Sd) (A : Option Addr) (n c : Nat) (w : World) (hr : Rd w w.heap.size 4 A n (cellsOf l)) (hn : n ≤ 1000000) :
    Calls Try.prog 18 #[.slice A n c] w fun e w' => ∃ A' c', e = .returned (.slice A' n c') ∧ w'.ownsRow w.heap.size 49 4 (.slice A' n c') n (cellsOf (rankedL l)) ∧ Below w.heap.size w w' := by
  obtain ⟨i0, hi, hz0, hz1, hz2⟩ := info_parts infoSeat
  have HI := Lib.hid hi; have HZ0 := Lib.hid hz0; have HZ1 := Lib.hid hz1; have HZ2 := Lib.hid hz2
  clear hi hz0 hz1 hz2
  have HL := Lib.hid hr.len
  have HR := Lib.hid hr; clear hr
  go_enter Try.func18, Try.ntmps18
  go_wp2_with (at_builtin; refine wpList_app w rfl (.const (.slice none 0 0)) (.tmp 6) 41 rfl w.heap.size 49 i0 _ 4 48 Try.underlying41 HI.out HZ0.out HZ1.out HZ2.out rfl (by decide) (.slice none 0 0) 0 [] rfl (World.ownsRow_nil w w.heap.size _ _) w.heap.size A n c (cellsOf l) rfl HR.out (cellsOf_one l) ?q1 ?q2 (Nat.le_refl _) ?_; (case q1 => simp only [maxLen]; omega); (case q2 => omega); intro A1 c1 w1 hown hg _)
  simp only [Nat.zero_add, List.nil_append] at hown
  have hb : Below w.heap.size w w1 := (Below.refl _ _).grown hg (Nat.le_refl _) (by simp [Value.ownBlock])
  have HO := Lib.hid hown; clear hown hg
  have HB := Lib.hid hb; clear hb
  go_loopw [10] (fun i wr => ∃ k : Nat, k ≤ n ∧ i = .int .i64 k ∧ Hid (wr.ownsRow w.heap.size 49 4 (.slice A1 n c1) n (cellsOf (rankedL (l.take k) ++ l.drop k))) ∧ Hid (Below w.heap.size w wr)) (fun i _ => n - (intOf i).toNat)
  case atStart => exact ⟨0, Nat.zero_le _, rfl, HO, HB⟩
  case round =>
    obtain ⟨k, hk, rfl, HO1, HB1⟩ := hrel
    clear HO HB
    by_cases hlt : k < n
    · obtain ⟨g, cap, hv, hg0, hg1⟩ := HO1.out.form (by omega)
      have e1 : A1 = some ⟨g, 0, none⟩ := by injection hv
      subst e1
      clear hv
      go_wp2
      obtain ⟨wo, rfl⟩ : ∃ wo : World, wo = wr := ⟨_, rfl⟩
      have hk' : k < l.length := by have := HL.out; omega
      obtain ⟨x, hx⟩ : ∃ x, l[k]? = some x := ⟨_, List.getElem?_eq_getElem hk'⟩
      have hacc : (rankedL (l.take k)).length = k := by rw [rankedL_length]; simp; omega
      have hst := stR_start (rankedL (l.take k)) l k x hacc hx
      have hnx := rankedL_take l k x hx
      have hO := HO1.out
      rw [hst] at hO
      generalize rankedL (l.take k) = acc at *
      have HNX := Lib.hid hnx; have HX := Lib.hid hx; have HACC := Lib.hid hacc
      clear hnx hx hacc hst HO1
      have HO2 := Lib.hid hO; clear hO
      go_loopw [5] (fun i wr => ∃ j : Nat, j ≤ k ∧ i = .int .i64 j ∧ Hid (insK x acc j = insK x acc acc.length) ∧ Hid (wr.ownsRow w.heap.size 49 4 (.slice (some ⟨g, 0, none⟩) n c1) n (cellsOf (stR acc x (l.drop (k + 1)) j))) ∧ Hid (Below w.heap.size w wr)) (fun i _ => (intOf i).toNat)
      case atStart => exact ⟨k, Nat.le_refl _, rfl, by have := HACC.out; rw [this]; rfl, HO2, HB1⟩
      case round =>
        obtain ⟨j, hj, rfl, HK, HO3, HB3⟩ := hrel
        clear HO2 HB1
        have out : insK x acc j = j → Hid (wr.ownsRow w.heap.size 49 4 (.slice (some ⟨g, 0, none⟩) n c1) n (cellsOf (rankedL (l.take (k + 1)) ++ l.drop (k + 1)))) := fun e => by
          rw [HNX.out, ← stR_end acc x _ j (HK.out.symm.trans e)]; exact HO3
        have HOUT := Lib.hid out; clear out
        obtain _ | j := j
        · go_wp2_with fail
          go_quiet (fail)
          go_wp2
          go_roundw
          case rel => exact ⟨k + 1, by omega, by go_num, HOUT.out rfl, below_drewN HB3.out _⟩
          case measure => first | (simp [intOf]; done) | (simp [intOf]; omega)
        · have hjl : j < acc.length := by have := HACC.out; omega
          obtain ⟨y, hy⟩ : ∃ y, acc[j]? = some y := ⟨_, List.getElem?_eq_getElem hjl⟩
          have hk1 : insK x acc (j + 1) = if beforeB x y then insK x acc j else j + 1 := by simp only [insK, hy]
          have hsw := stR_swap acc x y (l.drop (k + 1)) j hy
          have hln := stR_length acc x (l.drop (k + 1)) (j + 1) (by omega)
          obtain ⟨x0, x1, x2, x3⟩ := own_seat HO3.out (stR_x acc x (l.drop (k + 1)) (j + 1) (by have := HACC.out; omega))
          obtain ⟨y0, y1, y2, y3⟩ := own_seat HO3.out (stR_y acc x y (l.drop (k + 1)) j hy)
          have hf := own_free HO3.out
          have HY := Lib.hid hy; clear hy
          have HK1 := Lib.hid hk1; clear hk1
          have HSW := Lib.hid hsw; clear hsw
          have HLN := Lib.hid hln; clear hln
          have stay : beforeB x y = false → insK x acc (j + 1) = j + 1 := fun e => by rw [HK1.out, e]; rfl
          have HSTAY := Lib.hid stay; clear stay
          have go1 : beforeB x y = true → Hid (insK x acc j = insK x acc acc.length) := fun e => by
            have := HK.out; rw [HK1.out, e, if_pos rfl] at this; exact this
          have HGO := Lib.hid go1; clear go1
          have row : ∀ q, Hid (((((((((((wr.drewN q).setCell ⟨g, (j + 1) * 4, none⟩ (.string y.adr)).setCell ⟨g, (j + 1) * 4 + 1, none⟩ (.string y.key)).setCell ⟨g, (j + 1) * 4 + 2, none⟩ (.int .i64 y.pow)).setCell ⟨g, (j + 1) * 4 + 3, none⟩ (.int .i64 y.pri)).setCell ⟨g, j * 4, none⟩ (.string x.adr)).setCell ⟨g, j * 4 + 1, none⟩ (.string x.key)).setCell ⟨g, j * 4 + 2, none⟩ (.int .i64 x.pow)).setCell ⟨g, j * 4 + 3, none⟩ (.int .i64 x.pri)).ownsRow w.heap.size 49 4 (.slice (some ⟨g, 0, none⟩) n c1) n (cellsOf (stR acc x (l.drop (k + 1)) j)))) := fun q => by
            have h1 := own_put (k := j + 1) (s := y) (own_drewN HO3.out q) (by rw [HLN.out]; omega)
            have h2 := own_put (k := j) (s := x) h1 (by rw [List.length_set, HLN.out]; omega)
            rw [HSW.out] at h2; exact h2
          have HROW := Lib.hid row; clear row
          by_cases hp : y.pow < x.pow
          · have hbt : beforeB x y = true := by simp [beforeB, hp]
            have HBT := Lib.hid hbt; clear hbt
            go_wp2_with fail
            go_quiet (fail)
            go_wp2_with fail
            go_region
            go_wp2
            go_roundw
            case rel => exact ⟨j, by omega, by go_num, HGO.out HBT.out, HROW.out _, below_put (below_put (below_drewN HB3.out _) hg0) hg0⟩
            case measure => first | (simp [intOf]; done) | (simp [intOf]; omega)
          · have hp' : decide (y.pow < x.pow) = false := by simpa using hp
            by_cases he : x.pow = y.pow
            · have he' : (x.pow == y.pow) = true := by simpa using he
              cases hl : Op.bytesLess x.adr.toList y.adr.toList with
              | true =>
                have hbt : beforeB x y = true := by simp [beforeB, he', hl]
                have HBT := Lib.hid hbt; clear hbt
                have HE := Lib.hid he; clear he
                go_wp2_with fail
                go_quiet (fail)
                go_wp2_with fail
                go_region
                go_wp2
                go_roundw
                case rel => exact ⟨j, by omega, by go_num, HGO.out HBT.out, HROW.out _, below_put (below_put (below_drewN HB3.out _) hg0) hg0⟩
                case measure => first | (simp [intOf]; done) | (simp [intOf]; omega)
              | false =>
                have hbt : beforeB x y = false := by simp [beforeB, hp', hl]
                have HBT := Lib.hid hbt; clear hbt
                have HE := Lib.hid he; clear he
                go_wp2_with fail
                go_quiet (fail)
                go_wp2
                go_roundw
                case rel => exact ⟨k + 1, by omega, by go_num, HOUT.out (HSTAY.out HBT.out), below_drewN HB3.out _⟩
                case measure => first | (simp [intOf]; done) | (simp [intOf]; omega)
            · have he' : (x.pow == y.pow) = false := by simpa using he
              have hbt : beforeB x y = false := by simp [beforeB, hp', he']
              have HBT := Lib.hid hbt; clear hbt
              have HE := Lib.hid he; clear he
              go_wp2_with fail
              go_quiet (fail)
              go_wp2
              go_roundw
              case rel => exact ⟨k + 1, by omega, by go_num, HOUT.out (HSTAY.out HBT.out), below_drewN HB3.out _⟩
              case measure => first | (simp [intOf]; done) | (simp [intOf]; omega)
    · have e : k = n := by omega
      have h1 := HO1.out
      have e1 : rankedL (l.take k) ++ l.drop k = rankedL l := by
        have := HL.out
        rw [List.take_of_length_le (by omega), List.drop_of_length_le (by omega), List.append_nil]
      rw [e1] at h1
      have H1 := Lib.hid h1; clear h1 e1
      have HE := Lib.hid e; clear e
      go_wp2
      go_ret
      exact ⟨_, _, rfl, H1.out, HB1.out⟩
theorem ranked_any (l : List Sd) (A : Option Addr) (n c : Nat) (w : World) (hr : Rd w w.heap.size 4 A n (cellsOf l)) (hn : n ≤ 1000000) :
    Calls Try.prog 18 #[.slice A n c] w fun e w' => ∃ A' c', e = .returned (.slice A' n c') ∧ Rd w' w'.heap.size 4 A' n (cellsOf (rankedL l)) ∧ Below w.heap.size w w' := by
  refine (ranked_own l A n c w hr hn).mono ?_
  rintro e w' ⟨A', c', rfl, h1, h2⟩
  exact ⟨A', c', rfl, Rd.of_own h1, h2⟩
end Go.Proofs.Ytikikddkhikfkaa
