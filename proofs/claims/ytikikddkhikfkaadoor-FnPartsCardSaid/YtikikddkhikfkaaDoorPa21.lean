/-
  The order of a set (spec.Ranked): the walk. By the session. laws.zzFits1 and laws.set: walks. By the session. The package's words of the wire format (putUvarint and its kin): walks. By the session. checkAllKeysHaveSameType, and the methods of a plain key: walks. By the session. Comparing bytes and validators: walks. By the session. findProposer: the walk. By the session.
-/
import Derived.Test.YtikikddkhikfkaaDoorRows
import Derived.Test.YtikikddkhikfkaaDoorPa1
import Derived.RegionTactic
import Derived.ChangeAlike
import Derived.BigRegion
import Derived.Test.YtikikddkhikfkaaDoorPa2
namespace Go.Proofs.YtikikddkhikfkaaDoor
open Go.RowKit

theorem infoSeat : (Tryd.prog.info? 59).map (fun i => (i.zero, i.size, i.bytes)) = some (some (.agg #[.string ⟨#[]⟩, .string ⟨#[]⟩, .int .i64 0, .int .i64 0]), 4, 48) := by kernel_rfl

/-- does x stand before y in a set? -/
def beforeB (x y : Sd) : Bool := decide (y.pow < x.pow) || (x.pow == y.pow && Op.bytesLess x.adr.toList y.adr.toList)

/-- from place k leftwards: where x goes -/
def insK (x : Sd) (acc : List Sd) : Nat → Nat
  | 0 => 0
  | k + 1 => match acc[k]? with
    | some y => if beforeB x y then insK x acc k else k + 1
    | none => k + 1
def insR (acc : List Sd) (x : Sd) : List Sd := acc.take (insK x acc acc.length) ++ x :: acc.drop (insK x acc acc.length)
def rankedL (l : List Sd) : List Sd := l.foldl insR []

def stR (acc : List Sd) (x : Sd) (rest : List Sd) (j : Nat) : List Sd := acc.take j ++ x :: (acc.drop j ++ rest)
theorem insR_length (acc : List Sd) (x : Sd) : (insR acc x).length = acc.length + 1 := by simp [insR]; omega
theorem rankedL_length (l : List Sd) : (rankedL l).length = l.length := by
  have : ∀ (l acc : List Sd), (l.foldl insR acc).length = acc.length + l.length := by
    intro l
    induction l with
    | nil => intro acc; rfl
    | cons x r ih => intro acc; simp only [List.foldl_cons, List.length_cons]; rw [ih, insR_length]; omega
  rw [rankedL, this]; simp
theorem rankedL_take (l : List Sd) (k : Nat) (x : Sd) (hx : l[k]? = some x) : rankedL (l.take (k + 1)) = insR (rankedL (l.take k)) x := by
  have hk : k < l.length := (List.getElem?_eq_some_iff.1 hx).1
  have e : l[k] = x := (List.getElem?_eq_some_iff.1 hx).2
  rw [List.take_succ_eq_append_getElem hk, e]
  simp [rankedL, List.foldl_append]
theorem stR_x (acc : List Sd) (x : Sd) (rest : List Sd) (j : Nat) (hj : j ≤ acc.length) : (stR acc x rest j)[j]? = some x := by
  unfold stR
  rw [List.getElem?_append_right (by simp; omega)]
  simp [Nat.min_eq_left hj]
theorem stR_start (acc l : List Sd) (k : Nat) (x : Sd) (hk : acc.length = k) (hx : l[k]? = some x) : acc ++ l.drop k = stR acc x (l.drop (k + 1)) k := by
  have h := (List.getElem?_eq_some_iff.1 hx)
  unfold stR
  rw [List.take_of_length_le (by omega), List.drop_of_length_le (l := acc) (by omega), List.drop_eq_getElem_cons h.1, h.2]; rfl
theorem stR_y (acc : List Sd) (x y : Sd) (rest : List Sd) (j : Nat) (hy : acc[j]? = some y) : (stR acc x rest (j + 1))[j]? = some y := by
  have hj : j < acc.length := (List.getElem?_eq_some_iff.1 hy).1
  unfold stR
  rw [List.getElem?_append_left (by simp; omega), List.getElem?_take, if_pos (by omega), hy]
/-- the four cells of a seat in a row of the call's own -/
theorem own_seat {w : World} {base : Nat} {g n c : Nat} {l : List Sd} (h : w.ownsRow base 59 4 (.slice (some ⟨g, 0, none⟩) n c) n (cellsOf l)) {k : Nat} {x : Sd} (hx : l[k]? = some x) :
    w.cell? ⟨g, k * 4, none⟩ = some (.string x.adr) ∧ w.cell? ⟨g, k * 4 + 1, none⟩ = some (.string x.key) ∧ w.cell? ⟨g, k * 4 + 2, none⟩ = some (.int .i64 x.pow) ∧ w.cell? ⟨g, k * 4 + 3, none⟩ = some (.int .i64 x.pri) := by
  have g : ∀ i u, i < 4 → x.cells[i]? = some u → w.cell? ⟨g, k * 4 + i, none⟩ = some u := fun i u hi hu => by
    have := h.cells (g := g) rfl (k * 4 + i) u ((cellsOf_get l k i x hx hi).trans hu)
    rwa [add_flat, Nat.zero_add] at this
  exact ⟨g 0 _ (by omega) rfl, g 1 _ (by omega) rfl, g 2 _ (by omega) rfl, g 3 _ (by omega) rfl⟩
theorem own_free {w : World} {base : Nat} {g n c e size : Nat} {xs : List Value} (h : w.ownsRow base e size (.slice (some ⟨g, 0, none⟩) n c) n xs) (i : Nat) : w.frozen? ⟨g, i, none⟩ = false := by
  rcases h.2 with ⟨h1, _⟩ | ⟨g', cap, cur, h1, _, hh, _⟩
  · cases h1
  · cases h1
    simp [World.frozen?, hh]

theorem stR_swap (acc : List Sd) (x y : Sd) (rest : List Sd) (j : Nat) (hy : acc[j]? = some y) : ((stR acc x rest (j + 1)).set (j + 1) y).set j x = stR acc x rest j := by
  have h := List.getElem?_eq_some_iff.1 hy
  unfold stR
  rw [List.take_succ_eq_append_getElem h.1, h.2, List.drop_eq_getElem_cons h.1, h.2]
  have hj := h.1
  have hl : (acc.take j).length = j := by simp; omega
  rw [List.append_assoc, List.set_append_right _ _ (by omega), List.set_append_right _ _ (by omega)]
  congr 1
  rw [hl]
  have e1 : j + 1 - j = 1 := by omega
  rw [e1, Nat.sub_self]; rfl
theorem stR_end (acc : List Sd) (x : Sd) (rest : List Sd) (j : Nat) (h : insK x acc acc.length = j) : stR acc x rest j = insR acc x ++ rest := by
  unfold stR insR; rw [h]; simp
theorem stR_length (acc : List Sd) (x : Sd) (rest : List Sd) (j : Nat) (hj : j ≤ acc.length) : (stR acc x rest j).length = acc.length + 1 + rest.length := by
  simp only [stR, List.length_append, List.length_take, List.length_cons, List.length_drop, Nat.min_eq_left hj]; omega

set_option maxHeartbeats 3200000 in
theorem ranked_own (l : List Sd) (A : Option Addr) (n c : Nat) (w : World) (hr : Rd w w.heap.size 4 A n (cellsOf l)) (hn : n ≤ 1000000) :
    Calls Tryd.prog 44 #[.slice A n c] w fun e w' => ∃ A' c', e = .returned (.slice A' n c') ∧ w'.ownsRow w.heap.size 59 4 (.slice A' n c') n (cellsOf (rankedL l)) ∧ Below w.heap.size w w' := by
  obtain ⟨i0, hi, hz0, hz1, hz2⟩ := info_parts infoSeat
  have HI := Lib.hid hi; have HZ0 := Lib.hid hz0; have HZ1 := Lib.hid hz1; have HZ2 := Lib.hid hz2
  clear hi hz0 hz1 hz2
  have HL := Lib.hid hr.len
  have HR := Lib.hid hr; clear hr
  go_enter Tryd.func44, Tryd.ntmps44
  go_wp2_with (at_builtin; refine wpList_app w rfl (.const (.slice none 0 0)) (.tmp 6) 51 rfl w.heap.size 59 i0 _ 4 48 Tryd.underlying51 HI.out HZ0.out HZ1.out HZ2.out rfl (by decide) (.slice none 0 0) 0 [] rfl (World.ownsRow_nil w w.heap.size _ _) w.heap.size A n c (cellsOf l) rfl HR.out (cellsOf_one l) ?q1 ?q2 (Nat.le_refl _) ?_; (case q1 => simp only [maxLen]; omega); (case q2 => omega); intro A1 c1 w1 hown hg _)
  simp only [Nat.zero_add, List.nil_append] at hown
  have hb : Below w.heap.size w w1 := (Below.refl _ _).grown hg (Nat.le_refl _) (by simp [Value.ownBlock])
  have HO := Lib.hid hown; clear hown hg
  have HB := Lib.hid hb; clear hb
  go_loopw [10] (fun i wr => ∃ k : Nat, k ≤ n ∧ i = .int .i64 k ∧ Hid (wr.ownsRow w.heap.size 59 4 (.slice A1 n c1) n (cellsOf (rankedL (l.take k) ++ l.drop k))) ∧ Hid (Below w.heap.size w wr)) (fun i _ => n - (intOf i).toNat)
  case atStart => exact ⟨0, Nat.zero_le _, rfl, HO, HB⟩
  case round =>
    obtain ⟨k, hk, rfl, HO1, HB1⟩ := hrel
    clear HO HB
    by_cases hlt : k < n
    · obtain ⟨g, cap, hv, hg0, hg1⟩ := HO1.out.form (by omega)
      have e1 : A1 = some ⟨g, 0, none⟩ := by injection hv
      subst e1
      clear hv
      go_wp2
      obtain ⟨wo, rfl⟩ : ∃ wo : World, wo = wr := ⟨_, rfl⟩
      have hk' : k < l.length := by have := HL.out; omega
      obtain ⟨x, hx⟩ : ∃ x, l[k]? = some x := ⟨_, List.getElem?_eq_getElem hk'⟩
      have hacc : (rankedL (l.take k)).length = k := by rw [rankedL_length]; simp; omega
      have hst := stR_start (rankedL (l.take k)) l k x hacc hx
      have hnx := rankedL_take l k x hx
      have hO := HO1.out
      rw [hst] at hO
      generalize rankedL (l.take k) = acc at *
      have HNX := Lib.hid hnx; have HX := Lib.hid hx; have HACC := Lib.hid hacc
      clear hnx hx hacc hst HO1
      have HO2 := Lib.hid hO; clear hO
      go_loopw [5] (fun i wr => ∃ j : Nat, j ≤ k ∧ i = .int .i64 j ∧ Hid (insK x acc j = insK x acc acc.length) ∧ Hid (wr.ownsRow w.heap.size 59 4 (.slice (some ⟨g, 0, none⟩) n c1) n (cellsOf (stR acc x (l.drop (k + 1)) j))) ∧ Hid (Below w.heap.size w wr)) (fun i _ => (intOf i).toNat)
      case atStart => exact ⟨k, Nat.le_refl _, rfl, by have := HACC.out; rw [this]; rfl, HO2, HB1⟩
      case round =>
        obtain ⟨j, hj, rfl, HK, HO3, HB3⟩ := hrel
        clear HO2 HB1
        have out : insK x acc j = j → Hid (wr.ownsRow w.heap.size 59 4 (.slice (some ⟨g, 0, none⟩) n c1) n (cellsOf (rankedL (l.take (k + 1)) ++ l.drop (k + 1)))) := fun e => by
          rw [HNX.out, ← stR_end acc x _ j (HK.out.symm.trans e)]; exact HO3
        have HOUT := Lib.hid out; clear out
        obtain _ | j := j
        · go_wp2_with fail
          go_quiet (fail)
          go_wp2
          go_roundw
          case rel => exact ⟨k + 1, by omega, by go_num, HOUT.out rfl, below_drewN HB3.out _⟩
          case measure => first | (simp [intOf]; done) | (simp [intOf]; omega)
        · have hjl : j < acc.length := by have := HACC.out; omega
          obtain ⟨y, hy⟩ : ∃ y, acc[j]? = some y := ⟨_, List.getElem?_eq_getElem hjl⟩
          have hk1 : insK x acc (j + 1) = if beforeB x y then insK x acc j else j + 1 := by simp only [insK, hy]
          have hsw := stR_swap acc x y (l.drop (k + 1)) j hy
          have hln := stR_length acc x (l.drop (k + 1)) (j + 1) (by omega)
          obtain ⟨x0, x1, x2, x3⟩ := own_seat HO3.out (stR_x acc x (l.drop (k + 1)) (j + 1) (by have := HACC.out; omega))
          obtain ⟨y0, y1, y2, y3⟩ := own_seat HO3.out (stR_y acc x y (l.drop (k + 1)) j hy)
          have hf := own_free HO3.out
          have HY := Lib.hid hy; clear hy
          have HK1 := Lib.hid hk1; clear hk1
          have HSW := Lib.hid hsw; clear hsw
          have HLN := Lib.hid hln; clear hln
          have stay : beforeB x y = false → insK x acc (j + 1) = j + 1 := fun e => by rw [HK1.out, e]; rfl
          have HSTAY := Lib.hid stay; clear stay
          have go1 : beforeB x y = true → Hid (insK x acc j = insK x acc acc.length) := fun e => by
            have := HK.out; rw [HK1.out, e, if_pos rfl] at this; exact this
          have HGO := Lib.hid go1; clear go1
          have row : ∀ q, Hid (((((((((((wr.drewN q).setCell ⟨g, (j + 1) * 4, none⟩ (.string y.adr)).setCell ⟨g, (j + 1) * 4 + 1, none⟩ (.string y.key)).setCell ⟨g, (j + 1) * 4 + 2, none⟩ (.int .i64 y.pow)).setCell ⟨g, (j + 1) * 4 + 3, none⟩ (.int .i64 y.pri)).setCell ⟨g, j * 4, none⟩ (.string x.adr)).setCell ⟨g, j * 4 + 1, none⟩ (.string x.key)).setCell ⟨g, j * 4 + 2, none⟩ (.int .i64 x.pow)).setCell ⟨g, j * 4 + 3, none⟩ (.int .i64 x.pri)).ownsRow w.heap.size 59 4 (.slice (some ⟨g, 0, none⟩) n c1) n (cellsOf (stR acc x (l.drop (k + 1)) j)))) := fun q => by
            have h1 := own_put (k := j + 1) (s := y) (own_drewN HO3.out q) (by rw [HLN.out]; omega)
            have h2 := own_put (k := j) (s := x) h1 (by rw [List.length_set, HLN.out]; omega)
            rw [HSW.out] at h2; exact h2
          have HROW := Lib.hid row; clear row
          by_cases hp : y.pow < x.pow
          · have hbt : beforeB x y = true := by simp [beforeB, hp]
            have HBT := Lib.hid hbt; clear hbt
            go_wp2_with fail
            go_quiet (fail)
            go_wp2_with fail
            go_region
            go_wp2
            go_roundw
            case rel => exact ⟨j, by omega, by go_num, HGO.out HBT.out, HROW.out _, below_put (below_put (below_drewN HB3.out _) hg0) hg0⟩
            case measure => first | (simp [intOf]; done) | (simp [intOf]; omega)
          · have hp' : decide (y.pow < x.pow) = false := by simpa using hp
            by_cases he : x.pow = y.pow
            · have he' : (x.pow == y.pow) = true := by simpa using he
              cases hl : Op.bytesLess x.adr.toList y.adr.toList with
              | true =>
                have hbt : beforeB x y = true := by simp [beforeB, he', hl]
                have HBT := Lib.hid hbt; clear hbt
                have HE := Lib.hid he; clear he
                go_wp2_with fail
                go_quiet (fail)
                go_wp2_with fail
                go_region
                go_wp2
                go_roundw
                case rel => exact ⟨j, by omega, by go_num, HGO.out HBT.out, HROW.out _, below_put (below_put (below_drewN HB3.out _) hg0) hg0⟩
                case measure => first | (simp [intOf]; done) | (simp [intOf]; omega)
              | false =>
                have hbt : beforeB x y = false := by simp [beforeB, hp', hl]
                have HBT := Lib.hid hbt; clear hbt
                have HE := Lib.hid he; clear he
                go_wp2_with fail
                go_quiet (fail)
                go_wp2
                go_roundw
                case rel => exact ⟨k + 1, by omega, by go_num, HOUT.out (HSTAY.out HBT.out), below_drewN HB3.out _⟩
                case measure => first | (simp [intOf]; done) | (simp [intOf]; omega)
            · have he' : (x.pow == y.pow) = false := by simpa using he
              have hbt : beforeB x y = false := by simp [beforeB, hp', he']
              have HBT := Lib.hid hbt; clear hbt
              have HE := Lib.hid he; clear he
              go_wp2_with fail
              go_quiet (fail)
              go_wp2
              go_roundw
              case rel => exact ⟨k + 1, by omega, by go_num, HOUT.out (HSTAY.out HBT.out), below_drewN HB3.out _⟩
              case measure => first | (simp [intOf]; done) | (simp [intOf]; omega)
    · have e : k = n := by omega
      have h1 := HO1.out
      have e1 : rankedL (l.take k) ++ l.drop k = rankedL l := by
        have := HL.out
        rw [List.take_of_length_le (by omega), List.drop_of_length_le (by omega), List.append_nil]
      rw [e1] at h1
      have H1 := Lib.hid h1; clear h1 e1
      have HE := Lib.hid e; clear e
      go_wp2
      go_ret
      exact ⟨_, _, rfl, H1.out, HB1.out⟩
theorem ranked_any (l : List Sd) (A : Option Addr) (n c : Nat) (w : World) (hr : Rd w w.heap.size 4 A n (cellsOf l)) (hn : n ≤ 1000000) :
    Calls Tryd.prog 44 #[.slice A n c] w fun e w' => ∃ A' c', e = .returned (.slice A' n c') ∧ Rd w' w'.heap.size 4 A' n (cellsOf (rankedL l)) ∧ Below w.heap.size w w' := by
  refine (ranked_own l A n c w hr hn).mono ?_
  rintro e w' ⟨A', c', rfl, h1, h2⟩
  exact ⟨A', c', rfl, Rd.of_own h1, h2⟩
end Go.Proofs.YtikikddkhikfkaaDoor

namespace Go.Proofs.YtikikddkhikfkaaDoor
open Go.RowKit

def fit2 (x : Sd) : Bool := !(decide (2147483647 < x.adr.size)) && !(decide (2147483647 < x.key.size))
set_option maxHeartbeats 400000 in
theorem fits2_any (x : Sd) (w : World) (ha : x.adr.size ≤ 9223372036854775807) (hk : x.key.size ≤ 9223372036854775807) :
    Calls Tryd.prog 41 #[.agg #[.string x.adr, .string x.key, .int .i64 x.pow, .int .i64 x.pri]] w fun e w' => e = .returned (.bool (fit2 x)) ∧ Below w.heap.size w w' := by
  by_cases h1 : 2147483647 < x.adr.size
  · go_enter Tryd.func41, Tryd.ntmps41
    go_wp2
    go_ret
    exact ⟨ret_bool (by simp [fit2, h1]), (Below.refl _ _).alloc (Nat.le_refl _) _⟩
  · by_cases h2 : 2147483647 < x.key.size
    · go_enter Tryd.func41, Tryd.ntmps41
      go_wp2
      go_ret
      exact ⟨ret_bool (by simp [fit2, h2]), (Below.refl _ _).alloc (Nat.le_refl _) _⟩
    · go_enter Tryd.func41, Tryd.ntmps41
      go_wp2
      go_ret
      exact ⟨ret_bool (by simp [fit2]; omega), (Below.refl _ _).alloc (Nat.le_refl _) _⟩

def fitsB (l : List Sd) : Bool := !(decide (2147483647 < l.length)) && l.all fit2
set_option maxHeartbeats 800000 in
theorem fits1_any (l : List Sd) (A : Option Addr) (n c : Nat) (w : World) (hr : Rd w w.heap.size 4 A n (cellsOf l)) (hn : n ≤ 9223372036854775807) (hs : ∀ x ∈ l, x.adr.size ≤ 9223372036854775807 ∧ x.key.size ≤ 9223372036854775807) :
    Calls Tryd.prog 13 #[.slice A n c] w fun e w' => e = .returned (.bool (fitsB l)) ∧ Below w.heap.size w w' := by
  have HL := Lib.hid hr.len
  have HR := Lib.hid hr; clear hr
  have HS := Lib.hid hs; clear hs
  by_cases hbig : 2147483647 < n
  · have HF : Hid (fitsB l = false) := by
      have := HL.out
      show _ = _
      simp [fitsB]; omega
    go_enter Tryd.func13, Tryd.ntmps13
    go_wp2
    go_ret
    exact ⟨ret_bool HF.out.symm, Below.refl _ _⟩
  · have hbig' : n ≤ 2147483647 := by omega
    have HF : Hid (fitsB l = l.all fit2) := by
      have := HL.out
      show _ = _
      have e : decide (2147483647 < l.length) = false := by simp; omega
      simp [fitsB, e]
    clear hbig
    go_enter Tryd.func13, Tryd.ntmps13
    go_wp2
    go_loopw [10] (fun i wr => ∃ k : Nat, k ≤ n ∧ i = .int .i64 k ∧ Hid ((l.take k).all fit2 = true) ∧ Hid (Below w.heap.size w wr)) (fun i _ => n - (intOf i).toNat)
    case atStart => exact ⟨0, Nat.zero_le _, rfl, rfl, Below.refl _ _⟩
    case round =>
      obtain ⟨k, hk, rfl, HA, hb⟩ := hrel
      have hz := hb.out.size
      by_cases hlt : k < n
      · have hk' : k < l.length := by have := HL.out; omega
        have hx : l[k]? = some l[k] := List.getElem?_eq_getElem hk'
        obtain ⟨ad, rfl, _, c0, c1, c2, c3⟩ := (HR.out.below hb.out).seat hx
        obtain ⟨s1, s2⟩ := HS.out _ (List.getElem_mem hk')
        have ht : (l.take (k + 1)).all fit2 = fit2 l[k] := by
          rw [List.take_succ_eq_append_getElem hk', List.all_append, HA.out]; simp
        have hmem := List.getElem_mem hk'
        generalize l[k] = x at *
        have HT := Lib.hid ht; have HM := Lib.hid hmem; clear hx ht hmem
        cases hp : fit2 x with
        | true =>
          have HP := Lib.hid hp; clear hp
          go_wp2_with (go_at_call 41; refine (fits2_any x _ s1 s2).mono ?_; rw [HP.out]; rintro e w1 ⟨rfl, hb1⟩)
          go_roundw
          case rel => exact ⟨k + 1, by omega, by go_num, HT.out.trans HP.out, hb.out.trans (((Below.refl _ _).alloc (Nat.le_refl _) _ |>.trans (hb1.mono (by simp))).mono hz)⟩
          case measure => simp [intOf]; omega
        | false =>
          have HP := Lib.hid hp; clear hp
          have HFF : Hid (fitsB l = false) := by
            rw [show Hid (fitsB l = false) = (fitsB l = false) from rfl, HF.out]
            exact List.all_eq_false.2 ⟨x, HM.out, by rw [HP.out]; simp⟩
          go_wp2_with (go_at_call 41; refine (fits2_any x _ s1 s2).mono ?_; rw [HP.out]; rintro e w1 ⟨rfl, hb1⟩)
          go_ret
          exact ⟨ret_bool HFF.out.symm, hb.out.trans (((Below.refl _ _).alloc (Nat.le_refl _) _ |>.trans (hb1.mono (by simp))).mono hz)⟩
      · have hd : fitsB l = true := by
          rw [HF.out, ← HA.out, List.take_of_length_le (by have := HL.out; omega)]
        have HD := Lib.hid hd; clear hd
        have e : k = n := by omega
        have HE := Lib.hid e; clear e
        go_wp2
        go_ret
        exact ⟨ret_bool HD.out.symm, hb.out⟩

/-- the greatest of x and -(x + 1), as the laws take numbers -/
def mag (x : Int) : Int := if 0 ≤ x then x else -(x + 1)
def norm (s : Sd) : Sd := { s with pow := 1 + mag s.pow % 1125899906842624, pri := s.pri.tmod 1152921504606846976 }
theorem norm_cells (x : Sd) (h1 : -9223372036854775808 ≤ x.pow) (h2 : x.pow ≤ 9223372036854775807) :
    (#[Value.string x.adr, Value.string x.key, .int .i64 (wrap64 (1 + (if x.pow < wrap64 (-wrap64 (x.pow + 1)) then wrap64 (-wrap64 (x.pow + 1)) else x.pow).tmod 1125899906842624)), .int .i64 (x.pri.tmod 1152921504606846976)] : Array Value).toList = (norm x).cells := by
  have e : wrap64 (1 + (if x.pow < wrap64 (-wrap64 (x.pow + 1)) then wrap64 (-wrap64 (x.pow + 1)) else x.pow).tmod 1125899906842624) = 1 + mag x.pow % 1125899906842624 := by
    have e1 : (if x.pow < wrap64 (-wrap64 (x.pow + 1)) then wrap64 (-wrap64 (x.pow + 1)) else x.pow) = mag x.pow := by
      unfold mag wrap64
      by_cases h : 0 ≤ x.pow
      · rw [if_pos h, if_neg (by omega)]
      · rw [if_neg h, if_pos (by omega)]; omega
    rw [e1]
    have h0 : 0 ≤ mag x.pow := by unfold mag; split <;> omega
    rw [Int.tmod_eq_emod_of_nonneg h0]
    unfold wrap64
    omega
  rw [e]; rfl
def skipB (acc : List Sd) (s : Sd) : Bool := s.adr.toList.isEmpty || s.key.toList.isEmpty || acc.any (fun x => sameB x s)
def setAcc (acc : List Sd) (s : Sd) : List Sd := if skipB acc s then acc else acc ++ [norm s]
def setL (l : List Sd) : List Sd := (l.take 60).foldl setAcc []
theorem setAcc_length (acc : List Sd) (s : Sd) : (setAcc acc s).length ≤ acc.length + 1 := by unfold setAcc; split <;> simp
theorem foldl_setAcc_length (l acc : List Sd) : (l.foldl setAcc acc).length ≤ acc.length + l.length := by
  induction l generalizing acc with
  | nil => simp
  | cons x r ih =>
    have h1 := ih (setAcc acc x)
    have h2 := setAcc_length acc x
    simp only [List.foldl_cons, List.length_cons]; omega
theorem foldl_take_succ {α β : Type} (f : β → α → β) (b : β) (l : List α) (k : Nat) (x : α) (hx : l[k]? = some x) : (l.take (k + 1)).foldl f b = f ((l.take k).foldl f b) x := by
  have h := List.getElem?_eq_some_iff.1 hx
  rw [List.take_succ_eq_append_getElem h.1, h.2, List.foldl_append]; rfl

theorem own_base_le {w : World} {base base' e size : Nat} {v : Value} {n : Nat} {xs : List Value} (h : w.ownsRow base e size v n xs) (hb : base' ≤ base) : w.ownsRow base' e size v n xs := by
  refine ⟨h.1, ?_⟩
  rcases h.2 with h2 | ⟨g, cap, cur, hv, hg, hh, r⟩
  · exact Or.inl h2
  · exact Or.inr ⟨g, cap, cur, hv, Nat.le_trans hb hg, hh, r⟩
set_option maxRecDepth 100000 in
set_option maxHeartbeats 3200000 in
theorem set_own (l : List Sd) (A : Option Addr) (n c : Nat) (w : World) (hr : Rd w w.heap.size 4 A n (cellsOf l)) (hn : n ≤ 2147483647) (hnc : n ≤ c) (hi : ∀ x ∈ l, -9223372036854775808 ≤ x.pow ∧ x.pow ≤ 9223372036854775807 ∧ -9223372036854775808 ≤ x.pri ∧ x.pri ≤ 9223372036854775807) :
    Calls Tryd.prog 14 #[.slice A n c] w fun e w' => ∃ A' c' n', e = .returned (.slice A' n' c') ∧ w'.ownsRow w.heap.size 59 4 (.slice A' n' c') n' (cellsOf (rankedL (setL l))) ∧ Below w.heap.size w w' := by
  obtain ⟨i0, hi0, hz0, hz1, hz2⟩ := info_parts infoSeat
  have HI := Lib.hid hi0; have HZ0 := Lib.hid hz0; have HZ1 := Lib.hid hz1; have HZ2 := Lib.hid hz2
  clear hi0 hz0 hz1 hz2
  obtain ⟨m, hm⟩ : ∃ m, m = min n 60 := ⟨_, rfl⟩
  have hmn : m ≤ n := by omega
  have hm60 : m ≤ 60 := by omega
  have HM := Lib.hid hm
  have hr' : Rd w w.heap.size 4 A m (cellsOf (l.take 60)) := by
    have h1 := hr.take hmn
    have h2 := hr.len
    rw [cellsOf_take]
    rw [hm] at h1 ⊢
    by_cases h : n ≤ 60
    · rw [Nat.min_eq_left h] at h1 ⊢
      rw [List.take_of_length_le (by rw [cellsOf_length]; omega)] at h1 ⊢
      exact h1
    · rw [Nat.min_eq_right (by omega)] at h1 ⊢; exact h1
  have hi' : ∀ x ∈ l.take 60, -9223372036854775808 ≤ x.pow ∧ x.pow ≤ 9223372036854775807 ∧ -9223372036854775808 ≤ x.pri ∧ x.pri ≤ 9223372036854775807 := fun x hx => hi x (List.mem_of_mem_take hx)
  have HT : Hid (setL l = (l.take 60).foldl setAcc []) := rfl
  generalize l.take 60 = t at *
  have HL := Lib.hid hr'.len
  have HR := Lib.hid hr'; clear hr hr'
  have HX := Lib.hid hi'; clear hi hi'
  by_cases hle : n ≤ 60
  · obtain rfl : n = m := by omega
    clear hm hmn hm60
    go_enter Tryd.func14, Tryd.ntmps14
    go_wp2
    go_loopw [3, 12] (fun v i wr => ∃ (k q : Nat) (A1 : Option Addr) (c1 : Nat), k ≤ n ∧ q ≤ k ∧ i = .int .i64 k ∧ v = .slice A1 q c1 ∧ Hid (wr.ownsRow w.heap.size 59 4 (.slice A1 q c1) q (cellsOf ((t.take k).foldl setAcc []))) ∧ Hid (Below w.heap.size w wr)) (fun _ i _ => n - (intOf i).toNat)
    case atStart => exact ⟨0, 0, none, 0, Nat.zero_le _, Nat.zero_le _, rfl, rfl, World.ownsRow_nil w w.heap.size _ _, Below.refl _ _⟩
    case round =>
      obtain ⟨k, q, A1, c1, hk, hq, rfl, rfl, HO, HB⟩ := hrel
      have hz := HB.out.size
      by_cases hlt : k < n
      · have hk' : k < t.length := by have := HL.out; omega
        have hx : t[k]? = some t[k] := List.getElem?_eq_getElem hk'
        obtain ⟨ad, rfl, _, c0, c1', c2, c3⟩ := (HR.out.below HB.out).seat hx
        have hbx := HX.out _ (List.getElem_mem hk')
        have hst := foldl_take_succ setAcc [] t k _ hx
        have hro : Rd wr wr.heap.size 4 A1 q (cellsOf ((t.take k).foldl setAcc [])) := Rd.of_own HO.out
        have hlq : ((t.take k).foldl setAcc []).length = q := by have := hro.len; omega
        generalize t[k] = x at *
        generalize (t.take k).foldl setAcc [] = acc at *
        have HST := Lib.hid hst; have HXX := Lib.hid hx; have HLQ := Lib.hid hlq; have HRO := Lib.hid hro
        clear hst hx hlq hro
        have grow : Hid (setAcc acc x = acc) → Hid (wr.ownsRow w.heap.size 59 4 (.slice A1 q c1) q (cellsOf ((t.take (k + 1)).foldl setAcc []))) := fun e => by
          have h := HO.out; rw [← e.out, ← HST.out] at h; exact h
        have HGROW := Lib.hid grow; clear grow
        have HBA : Hid (Below w.heap.size w (wr.alloc (.cells #[.string x.adr, .string x.key, .int .i64 x.pow, .int .i64 x.pri] 101))) := HB.out.alloc hz _
        have keepA : Hid (wr.ownsRow w.heap.size 59 4 (.slice A1 q c1) q (cellsOf ((t.take (k + 1)).foldl setAcc []))) → Hid ((wr.alloc (.cells #[.string x.adr, .string x.key, .int .i64 x.pow, .int .i64 x.pri] 101)).ownsRow w.heap.size 59 4 (.slice A1 q c1) q (cellsOf ((t.take (k + 1)).foldl setAcc []))) := fun h => h.out.alloc _
        have HKA := Lib.hid keepA; clear keepA
        by_cases ha : x.adr.toList = []
        · have hsk : Hid (setAcc acc x = acc) := by show _ = _; simp [setAcc, skipB, ha]
          go_wp2
          go_roundw
          case rel => exact ⟨k + 1, q, A1, c1, by omega, by omega, by go_num, rfl, HKA.out (HGROW.out hsk), HBA⟩
          case measure => simp [intOf]; omega
        · have ha' : x.adr.toList.isEmpty = false := by simpa using ha
          by_cases hke : x.key.toList = []
          · have hsk : Hid (setAcc acc x = acc) := by show _ = _; simp [setAcc, skipB, hke]
            go_wp2
            go_roundw
            case rel => exact ⟨k + 1, q, A1, c1, by omega, by omega, by go_num, rfl, HKA.out (HGROW.out hsk), HBA⟩
            case measure => simp [intOf]; omega
          · have hke' : x.key.toList.isEmpty = false := by simpa using hke
            have HC := Lib.hid (contains_set acc A1 q c1 x wr.heap.size (wr.alloc (.cells #[.string x.adr, .string x.key, .int .i64 x.pow, .int .i64 x.pri] 101)) ((HRO.out.alloc (Nat.le_refl _) _).more (by simp)) (by omega) (by simp) (by simp) (by simp))
            cases hp : (acc.any fun y => sameB y x) with
            | true =>
              have hsk : Hid (setAcc acc x = acc) := by show _ = _; simp [setAcc, skipB, hp]
              have HP := Lib.hid hp; clear hp
              go_wp2_with (go_at_call 42; refine HC.out.mono ?_; rw [HP.out]; rintro e w1 ⟨rfl, hb1⟩)
              go_roundw
              case rel => exact ⟨k + 1, q, A1, c1, by omega, by omega, by go_num, rfl, own_below (HKA.out (HGROW.out hsk)) hb1, HBA.out.trans (hb1.mono (by have := HBA.out.size; omega))⟩
              case measure => simp [intOf]; omega
            | false =>
              have hsk : Hid (setAcc acc x = acc ++ [norm x]) := by show _ = _; simp [setAcc, skipB, hp, ha', hke']
              have HP := Lib.hid hp; clear hp
              go_wp2_with (first | (go_at_call 42; refine HC.out.mono ?_; rw [HP.out]; rintro e w1 ⟨rfl, hb1⟩; have d0 : w1.cell? ⟨wr.heap.size, 0, none⟩ = some (.string x.adr) := (hb1.cell (p := ⟨wr.heap.size, 0, none⟩) (by simp)).trans (by simp); have d1 : w1.cell? ⟨wr.heap.size, 1, none⟩ = some (.string x.key) := (hb1.cell (p := ⟨wr.heap.size, 1, none⟩) (by simp)).trans (by simp); have d2 : w1.cell? ⟨wr.heap.size, 2, none⟩ = some (.int .i64 x.pow) := (hb1.cell (p := ⟨wr.heap.size, 2, none⟩) (by simp)).trans (by simp); have d3 : w1.cell? ⟨wr.heap.size, 3, none⟩ = some (.int .i64 x.pri) := (hb1.cell (p := ⟨wr.heap.size, 3, none⟩) (by simp)).trans (by simp); have df : ∀ i, w1.frozen? ⟨wr.heap.size, i, none⟩ = false := (fun i => (hb1.frozen (p := ⟨wr.heap.size, i, none⟩) (by simp)).trans (by simp)); have dz : wr.heap.size < w1.heap.size := (by have := hb1.size; simp at this; omega)) | (at_builtin; refine wpList_app _ rfl (.tmp 43) (.tmp 45) 51 rfl w.heap.size 59 i0 _ 4 48 Tryd.underlying51 HI.out HZ0.out HZ1.out HZ2.out rfl (by decide) (.slice A1 q c1) q (cellsOf acc) rfl ?ho (w1.heap.size + 1) (some ⟨w1.heap.size, 0, none⟩) 1 1 (norm x).cells rfl ?hr (norm x).cells_one ?q1 ?q2 ?hb ?_; (case q1 => simp only [maxLen]; omega); (case q2 => omega); (case hr => rw [← norm_cells x hbx.1 hbx.2.1]; exact Rd.new _ _ _ 4 1 _ rfl (by simp)); (case ho => exact own_below HO.out (((((Below.refl _ _).alloc (Nat.le_refl _) _).trans (hb1.mono (by simp))).setCell (p := ⟨_, _, none⟩) (Nat.le_refl _) _).setCell (p := ⟨_, _, none⟩) (Nat.le_refl _) _ |>.alloc (by simp; omega) _) (Nat.le_refl _)); (case hb => simp; omega); intro A2 c2 w2 hown2 hg2 _; rw [cellsOf_snoc] at hown2))
              go_roundw
              case rel => exact ⟨k + 1, q + 1, A2, c2, by omega, by omega, by go_num, rfl, by rw [HST.out, hsk.out]; exact hown2, (((HBA.out.trans (hb1.mono (by have := HBA.out.size; omega))).setCell (p := ⟨_, _, none⟩) hz _).setCell (p := ⟨_, _, none⟩) hz _ |>.alloc (by have := HBA.out.size; have := hb1.size; simp; omega) _).grown hg2 (by have := HBA.out.size; have := hb1.size; simp; omega) (own_base HO.out)⟩
              case measure => simp [intOf]; omega
      · have e : k = n := by omega
        have h1 := HO.out
        rw [List.take_of_length_le (by have := HL.out; omega), ← HT.out] at h1
        have H1 := Lib.hid (Rd.of_own h1); clear h1
        have HE := Lib.hid e; clear e
        go_wp2_with (go_at_call 44; refine (ranked_own (setL l) A1 q c1 wr H1.out (by omega)).mono ?_; rintro e w1 ⟨A2, c2, rfl, hr2, hb2⟩)
        go_ret
        exact ⟨A2, c2, q, rfl, own_base_le hr2 hz, HB.out.trans (hb2.mono hz)⟩
  · obtain rfl : m = 60 := by omega
    clear hm hmn hm60
    go_enter Tryd.func14, Tryd.ntmps14
    go_wp2
    go_loopw [3, 12] (fun v i wr => ∃ (k q : Nat) (A1 : Option Addr) (c1 : Nat), k ≤ 60 ∧ q ≤ k ∧ i = .int .i64 k ∧ v = .slice A1 q c1 ∧ Hid (wr.ownsRow w.heap.size 59 4 (.slice A1 q c1) q (cellsOf ((t.take k).foldl setAcc []))) ∧ Hid (Below w.heap.size w wr)) (fun _ i _ => 60 - (intOf i).toNat)
    case atStart => exact ⟨0, 0, none, 0, Nat.zero_le _, Nat.zero_le _, rfl, rfl, World.ownsRow_nil w w.heap.size _ _, Below.refl _ _⟩
    case round =>
      obtain ⟨k, q, A1, c1, hk, hq, rfl, rfl, HO, HB⟩ := hrel
      have hz := HB.out.size
      by_cases hlt : k < 60
      · have hk' : k < t.length := by have := HL.out; omega
        have hx : t[k]? = some t[k] := List.getElem?_eq_getElem hk'
        obtain ⟨ad, rfl, _, c0, c1', c2, c3⟩ := (HR.out.below HB.out).seat hx
        have hbx := HX.out _ (List.getElem_mem hk')
        have hst := foldl_take_succ setAcc [] t k _ hx
        have hro : Rd wr wr.heap.size 4 A1 q (cellsOf ((t.take k).foldl setAcc [])) := Rd.of_own HO.out
        have hlq : ((t.take k).foldl setAcc []).length = q := by have := hro.len; omega
        generalize t[k] = x at *
        generalize (t.take k).foldl setAcc [] = acc at *
        have HST := Lib.hid hst; have HXX := Lib.hid hx; have HLQ := Lib.hid hlq; have HRO := Lib.hid hro
        clear hst hx hlq hro
        have grow : Hid (setAcc acc x = acc) → Hid (wr.ownsRow w.heap.size 59 4 (.slice A1 q c1) q (cellsOf ((t.take (k + 1)).foldl setAcc []))) := fun e => by
          have h := HO.out; rw [← e.out, ← HST.out] at h; exact h
        have HGROW := Lib.hid grow; clear grow
        have HBA : Hid (Below w.heap.size w (wr.alloc (.cells #[.string x.adr, .string x.key, .int .i64 x.pow, .int .i64 x.pri] 101))) := HB.out.alloc hz _
        have keepA : Hid (wr.ownsRow w.heap.size 59 4 (.slice A1 q c1) q (cellsOf ((t.take (k + 1)).foldl setAcc []))) → Hid ((wr.alloc (.cells #[.string x.adr, .string x.key, .int .i64 x.pow, .int .i64 x.pri] 101)).ownsRow w.heap.size 59 4 (.slice A1 q c1) q (cellsOf ((t.take (k + 1)).foldl setAcc []))) := fun h => h.out.alloc _
        have HKA := Lib.hid keepA; clear keepA
        by_cases ha : x.adr.toList = []
        · have hsk : Hid (setAcc acc x = acc) := by show _ = _; simp [setAcc, skipB, ha]
          go_wp2
          go_roundw
          case rel => exact ⟨k + 1, q, A1, c1, by omega, by omega, by go_num, rfl, HKA.out (HGROW.out hsk), HBA⟩
          case measure => simp [intOf]; omega
        · have ha' : x.adr.toList.isEmpty = false := by simpa using ha
          by_cases hke : x.key.toList = []
          · have hsk : Hid (setAcc acc x = acc) := by show _ = _; simp [setAcc, skipB, hke]
            go_wp2
            go_roundw
            case rel => exact ⟨k + 1, q, A1, c1, by omega, by omega, by go_num, rfl, HKA.out (HGROW.out hsk), HBA⟩
            case measure => simp [intOf]; omega
          · have hke' : x.key.toList.isEmpty = false := by simpa using hke
            have HC := Lib.hid (contains_set acc A1 q c1 x wr.heap.size (wr.alloc (.cells #[.string x.adr, .string x.key, .int .i64 x.pow, .int .i64 x.pri] 101)) ((HRO.out.alloc (Nat.le_refl _) _).more (by simp)) (by omega) (by simp) (by simp) (by simp))
            cases hp : (acc.any fun y => sameB y x) with
            | true =>
              have hsk : Hid (setAcc acc x = acc) := by show _ = _; simp [setAcc, skipB, hp]
              have HP := Lib.hid hp; clear hp
              go_wp2_with (go_at_call 42; refine HC.out.mono ?_; rw [HP.out]; rintro e w1 ⟨rfl, hb1⟩)
              go_roundw
              case rel => exact ⟨k + 1, q, A1, c1, by omega, by omega, by go_num, rfl, own_below (HKA.out (HGROW.out hsk)) hb1, HBA.out.trans (hb1.mono (by have := HBA.out.size; omega))⟩
              case measure => simp [intOf]; omega
            | false =>
              have hsk : Hid (setAcc acc x = acc ++ [norm x]) := by show _ = _; simp [setAcc, skipB, hp, ha', hke']
              have HP := Lib.hid hp; clear hp
              go_wp2_with (first | (go_at_call 42; refine HC.out.mono ?_; rw [HP.out]; rintro e w1 ⟨rfl, hb1⟩; have d0 : w1.cell? ⟨wr.heap.size, 0, none⟩ = some (.string x.adr) := (hb1.cell (p := ⟨wr.heap.size, 0, none⟩) (by simp)).trans (by simp); have d1 : w1.cell? ⟨wr.heap.size, 1, none⟩ = some (.string x.key) := (hb1.cell (p := ⟨wr.heap.size, 1, none⟩) (by simp)).trans (by simp); have d2 : w1.cell? ⟨wr.heap.size, 2, none⟩ = some (.int .i64 x.pow) := (hb1.cell (p := ⟨wr.heap.size, 2, none⟩) (by simp)).trans (by simp); have d3 : w1.cell? ⟨wr.heap.size, 3, none⟩ = some (.int .i64 x.pri) := (hb1.cell (p := ⟨wr.heap.size, 3, none⟩) (by simp)).trans (by simp); have df : ∀ i, w1.frozen? ⟨wr.heap.size, i, none⟩ = false := (fun i => (hb1.frozen (p := ⟨wr.heap.size, i, none⟩) (by simp)).trans (by simp)); have dz : wr.heap.size < w1.heap.size := (by have := hb1.size; simp at this; omega)) | (at_builtin; refine wpList_app _ rfl (.tmp 43) (.tmp 45) 51 rfl w.heap.size 59 i0 _ 4 48 Tryd.underlying51 HI.out HZ0.out HZ1.out HZ2.out rfl (by decide) (.slice A1 q c1) q (cellsOf acc) rfl ?ho (w1.heap.size + 1) (some ⟨w1.heap.size, 0, none⟩) 1 1 (norm x).cells rfl ?hr (norm x).cells_one ?q1 ?q2 ?hb ?_; (case q1 => simp only [maxLen]; omega); (case q2 => omega); (case hr => rw [← norm_cells x hbx.1 hbx.2.1]; exact Rd.new _ _ _ 4 1 _ rfl (by simp)); (case ho => exact own_below HO.out (((((Below.refl _ _).alloc (Nat.le_refl _) _).trans (hb1.mono (by simp))).setCell (p := ⟨_, _, none⟩) (Nat.le_refl _) _).setCell (p := ⟨_, _, none⟩) (Nat.le_refl _) _ |>.alloc (by simp; omega) _) (Nat.le_refl _)); (case hb => simp; omega); intro A2 c2 w2 hown2 hg2 _; rw [cellsOf_snoc] at hown2))
              go_roundw
              case rel => exact ⟨k + 1, q + 1, A2, c2, by omega, by omega, by go_num, rfl, by rw [HST.out, hsk.out]; exact hown2, (((HBA.out.trans (hb1.mono (by have := HBA.out.size; omega))).setCell (p := ⟨_, _, none⟩) hz _).setCell (p := ⟨_, _, none⟩) hz _ |>.alloc (by have := HBA.out.size; have := hb1.size; simp; omega) _).grown hg2 (by have := HBA.out.size; have := hb1.size; simp; omega) (own_base HO.out)⟩
              case measure => simp [intOf]; omega
      · have e : k = 60 := by omega
        have h1 := HO.out
        rw [List.take_of_length_le (by have := HL.out; omega), ← HT.out] at h1
        have H1 := Lib.hid (Rd.of_own h1); clear h1
        have HE := Lib.hid e; clear e
        go_wp2_with (go_at_call 44; refine (ranked_own (setL l) A1 q c1 wr H1.out (by omega)).mono ?_; rintro e w1 ⟨A2, c2, rfl, hr2, hb2⟩)
        go_ret
        exact ⟨A2, c2, q, rfl, own_base_le hr2 hz, HB.out.trans (hb2.mono hz)⟩
theorem set_any (l : List Sd) (A : Option Addr) (n c : Nat) (w : World) (hr : Rd w w.heap.size 4 A n (cellsOf l)) (hn : n ≤ 2147483647) (hnc : n ≤ c) (hi : ∀ x ∈ l, -9223372036854775808 ≤ x.pow ∧ x.pow ≤ 9223372036854775807 ∧ -9223372036854775808 ≤ x.pri ∧ x.pri ≤ 9223372036854775807) :
    Calls Tryd.prog 14 #[.slice A n c] w fun e w' => ∃ A' c' n', e = .returned (.slice A' n' c') ∧ Rd w' w'.heap.size 4 A' n' (cellsOf (rankedL (setL l))) ∧ Below w.heap.size w w' := by
  refine (set_own l A n c w hr hn hnc hi).mono ?_
  rintro e w' ⟨A', c', n', rfl, h1, h2⟩
  exact ⟨A', c', n', rfl, Rd.of_own h1, h2⟩
end Go.Proofs.YtikikddkhikfkaaDoor

set_option linter.all false
namespace Go.Proofs.YtikikddkhikfkaaDoor
open Go.RowKit

theorem Grew.alloc {w w' : World} {v v' : Value} (h : Grew w w' v v') (o : Obj) : Grew w (w'.alloc o) v v' := h.of_below ((Below.refl _ _).alloc (Nat.le_refl _) _)
theorem Grew.size {w w' : World} {v v' : Value} (h : Grew w w' v v') : w.heap.size ≤ w'.heap.size := h.1.size
set_option maxRecDepth 100000 in
set_option maxHeartbeats 1600000 in
theorem putUv_any (B n c : Nat) (A : Option Addr) (l : List UInt8) (N : Nat) (w : World) (h : Own8 w B A n c l) (hB : B ≤ w.heap.size) (hn : n ≤ 50000000000) (hN : N < 18446744073709551616) :
    Calls Tryd.prog 112 #[.slice A n c, .int .u64 N] w fun e w' => ∃ A' m c', e = .returned (.slice A' m c') ∧ Own8 w' B A' m c' (l ++ vi N) ∧ Grew w w' (.slice A n c) (.slice A' m c') := by
  have HO0 := Lib.hid h; have HN0 := Lib.hid h.len; clear h
  go_enter Tryd.func112, Tryd.ntmps112
  go_wp2
  go_loopw [0, 1] (fun v u wr => ∃ (acc : List UInt8) (x : Nat) (A1 : Option Addr) (m1 c1 : Nat), u = .int .u64 x ∧ v = .slice A1 m1 c1 ∧ x < 18446744073709551616 ∧ Hid (vi N = acc ++ vi x) ∧ Hid (Own8 wr B A1 m1 c1 (l ++ acc)) ∧ Hid (Grew w wr (.slice A n c) (.slice A1 m1 c1))) (fun _ u _ => (intOf u).toNat)
  case atStart => exact ⟨[], N, A, n, c, rfl, rfl, hN, rfl, by show Own8 _ _ _ _ _ _; rw [List.append_nil]; exact HO0.out, Grew.refl _ _⟩
  case round =>
    obtain ⟨acc, x, A1, m1, c1, rfl, rfl, hx, HV, HO, HG⟩ := hrel
    have hz := HG.out.size
    have hacc := vi_acc HV.out hN
    have HM : Hid (m1 + 1 ≤ 100000000000) := by
      have a := HO.out.len
      have b := HN0.out
      rw [List.length_append] at a
      show _ ≤ _; omega
    by_cases hlt : 127 < x
    · have hb2 : bits .or .u8 ((x : Int) % 256) 128 = ((UInt8.ofNat (x % 128 + 128)).toNat : Int) := by
        have := or_128 (x := x % 256) (by omega)
        rw [show x % 256 % 128 = x % 128 by omega] at this
        rw [← this]; rfl
      have hnx := vi_next HV.out hlt
      have HNX := Lib.hid hnx; have HB2 := Lib.hid hb2; clear hnx hb2
      go_wp2_with (at_builtin; refine app8 _ rfl (.tmp 7) (.tmp 11) rfl B m1 c1 A1 _ rfl (World.ownsRow.alloc HO.out _) (wr.heap.size + 1) 1 1 (some ⟨wr.heap.size, 0, none⟩) [UInt8.ofNat (x % 128 + 128)] rfl (Rd.byte _ _ _ _ _ HB2.out (by simp)) HM.out (by simp; omega) ?_; intro A2 c2 w2 hown2 hg2)
      go_roundw
      case rel => exact ⟨acc ++ [UInt8.ofNat (x % 128 + 128)], x / 128, A2, m1 + 1, c2, by first | rfl | go_num, rfl, by omega, HNX.out, by rw [← List.append_assoc]; exact hown2, (HG.out.alloc _).trans hg2⟩
      case measure => simp [intOf]; omega
    · have hlast := vi_last HV.out (by omega)
      have hb2 : (x : Int) % 256 = ((UInt8.ofNat x).toNat : Int) := byte_of x
      have HL := Lib.hid hlast; have HB2 := Lib.hid hb2; clear hlast hb2
      go_wp2_with (at_builtin; refine app8 _ rfl (.tmp 15) (.tmp 18) rfl B m1 c1 A1 _ rfl (World.ownsRow.alloc HO.out _) (wr.heap.size + 1) 1 1 (some ⟨wr.heap.size, 0, none⟩) [UInt8.ofNat x] rfl ?hr HM.out (by simp; omega) ?_; (case hr => refine Rd.byte _ _ _ _ _ ?_ (by simp); have := HB2.out; omega); intro A2 c2 w2 hown2 hg2)
      go_ret
      exact ⟨A2, m1 + 1, c2, rfl, by rw [HL.out, ← List.append_assoc]; exact hown2, (HG.out.alloc _).trans hg2⟩

set_option maxRecDepth 100000 in
set_option maxHeartbeats 1600000 in
theorem putNum_any (B n c f : Nat) (A : Option Addr) (l : List UInt8) (N : Nat) (w : World) (h : Own8 w B A n c l) (hB : B ≤ w.heap.size) (hn : n ≤ 40000000000) (hN : N < 18446744073709551616) (hf : f < 32) :
    Calls Tryd.prog 92 #[.slice A n c, .int .i64 f, .int .u64 N] w fun e w' => ∃ A' m c', e = .returned (.slice A' m c') ∧ Own8 w' B A' m c' (l ++ numB f N) ∧ Grew w w' (.slice A n c) (.slice A' m c') := by
  have HO0 := Lib.hid h; have HN0 := Lib.hid h.len
  by_cases h0 : N = 0
  · subst h0
    have hB0 : Hid (numB f 0 = []) := rfl
    clear h
    go_enter Tryd.func92, Tryd.ntmps92
    go_wp2
    go_ret
    exact ⟨A, n, c, rfl, by rw [hB0.out, List.append_nil]; exact HO0.out, Grew.refl _ _⟩
  · have hz : ((N : Int) == 0) = false := by rw [beq_eq_false_iff_ne]; omega
    have hB0 : Hid (numB f N = [UInt8.ofNat (f * 8)] ++ vi N) := by show _ = _; unfold numB; rw [if_neg h0]; rfl
    have hbt : ((f : Int) * 8) % 256 = ((UInt8.ofNat (f * 8)).toNat : Int) := by rw [← byte_of]; omega
    have HBT := Lib.hid hbt
    clear h hbt
    go_enter Tryd.func92, Tryd.ntmps92
    go_wp2_with (at_builtin; refine app8 _ rfl (.tmp 10) (.tmp 14) rfl B n c A _ rfl (World.ownsRow.alloc HO0.out _) (w.heap.size + 1) 1 1 (some ⟨w.heap.size, 0, none⟩) [UInt8.ofNat (f * 8)] rfl ?hr (by omega) (by simp; omega) ?_; (case hr => refine Rd.byte _ _ _ _ _ ?_ (by simp); have := HBT.out; omega); intro A2 c2 w2 hown2 hg2; have HO2 := Lib.hid hown2; have HG2 := Lib.hid hg2; clear hown2 hg2)
    have K := Lib.hid (putUv_any B (n + 1) c2 A2 _ N w2 HO2.out (by have := HG2.out.size; simp at this; omega) (by omega) hN)
    refine K.out.mono ?_
    rintro e w3 ⟨A3, m3, c3, rfl, ho3, hg3⟩
    have HO3 := Lib.hid ho3; have HG3 := Lib.hid hg3; clear ho3 hg3
    go_wp2
    go_ret
    exact ⟨A3, m3, c3, rfl, by rw [hB0.out, ← List.append_assoc]; exact HO3.out, (((Grew.refl w _).alloc _).trans HG2.out).trans HG3.out⟩

set_option maxRecDepth 100000 in
set_option maxHeartbeats 1600000 in
theorem putMsg_any (B n c f : Nat) (A : Option Addr) (l : List UInt8) (X : Option Addr) (m d : Nat) (x : List UInt8) (w : World) (h : Own8 w B A n c l) (hB : B ≤ w.heap.size) (hn : n ≤ 30000000000) (hr : Rd w w.heap.size 1 X m (bc x)) (ha : Apart8 (.slice A n c) X) (hX : ∀ ad, X = some ad → ad.block < w.heap.size) (hm : m ≤ 30000000000) (hf : f < 31) :
    Calls Tryd.prog 94 #[.slice A n c, .int .i64 f, .slice X m d] w fun e w' => ∃ A' m c', e = .returned (.slice A' m c') ∧ Own8 w' B A' m c' (l ++ msgB f x) ∧ Grew w w' (.slice A n c) (.slice A' m c') := by
  have HO0 := Lib.hid h; have HN0 := Lib.hid h.len; have HR := Lib.hid hr
  have htag : bits .or .i64 ((f : Int) * 8) 2 = ((f * 8 + 2 : Nat) : Int) := by
    have := bits_join .i64 63 (by decide) wraps_i64 3 ((f : Int) * 8) 2 (by omega) (by omega) (by omega) (by omega) (by omega) (by omega)
    rw [this]; omega
  have hbt : ((f * 8 + 2 : Nat) : Int) % 256 = ((UInt8.ofNat (f * 8 + 2)).toNat : Int) := byte_of _
  have HBT := Lib.hid hbt
  have hxm := hr.len1
  have hB0 : Hid (l ++ msgB f x = ((l ++ [UInt8.ofNat (f * 8 + 2)]) ++ vi m) ++ x) := by show _ = _; unfold msgB; rw [← hxm]; simp
  have HA := Lib.hid ha; have HX := Lib.hid hX
  have hvl := vi_ten (show m < 18446744073709551616 by omega)
  have HVL := Lib.hid hvl
  clear h hbt hr hxm ha hX hvl
  go_enter Tryd.func94, Tryd.ntmps94
  go_wp2_with (at_builtin; refine app8 _ rfl (.tmp 7) (.tmp 12) rfl B n c A _ rfl (World.ownsRow.alloc HO0.out _) (w.heap.size + 1) 1 1 (some ⟨w.heap.size, 0, none⟩) [UInt8.ofNat (f * 8 + 2)] rfl ?hr (by omega) (by simp; omega) ?_; (case hr => refine Rd.byte _ _ _ _ _ ?_ (by simp); have := HBT.out; omega); intro A2 c2 w2 hown2 hg2; have HO2 := Lib.hid hown2; have HG2 := Lib.hid (((Grew.refl w (.slice A n c)).alloc _).trans hg2); clear hown2 hg2)
  have K := Lib.hid (putUv_any B (n + 1) c2 A2 _ m w2 HO2.out (by have := HG2.out.size; omega) (by omega) (by omega))
  refine K.out.mono ?_
  rintro e w3 ⟨A3, m3, c3, rfl, ho3, hg3⟩
  have hg03 := HG2.out.trans hg3
  have HM : Hid (m3 + m ≤ 100000000000) := by
    have a := ho3.len
    have b := HN0.out
    have d := HVL.out
    rw [List.length_append, List.length_append] at a
    simp only [List.length_cons, List.length_nil] at a
    show _ ≤ _; omega
  have hap := HA.out.grew HX.out hg03
  have hr3 := HR.out.grew hg03.1 (fun ad e => HA.out ad e)
  have HO3 := Lib.hid ho3; have HG3 := Lib.hid hg03; have HR3 := Lib.hid hr3; clear ho3 hg3 hg03 hr3
  go_wp2_with (at_builtin; refine app8 _ rfl (.tmp 18) (.tmp 19) rfl B m3 c3 A3 _ rfl HO3.out w.heap.size m d X x rfl HR3.out HM.out (by have := HG3.out.size; omega) ?_; intro A4 c4 w4 ho4 hg4)
  go_ret
  exact ⟨A4, m3 + m, c4, rfl, by rw [hB0.out]; exact ho4, HG3.out.trans hg4⟩

set_option maxRecDepth 100000 in
set_option maxHeartbeats 1600000 in
theorem putTxt_any (B n c f : Nat) (A : Option Addr) (l : List UInt8) (X : Option Addr) (m d : Nat) (x : List UInt8) (w : World) (h : Own8 w B A n c l) (hB : B ≤ w.heap.size) (hn : n ≤ 30000000000) (hr : Rd w w.heap.size 1 X m (bc x)) (ha : Apart8 (.slice A n c) X) (hX : ∀ ad, X = some ad → ad.block < w.heap.size) (hm : m ≤ 30000000000) (hf : f < 31) :
    Calls Tryd.prog 93 #[.slice A n c, .int .i64 f, .slice X m d] w fun e w' => ∃ A' m c', e = .returned (.slice A' m c') ∧ Own8 w' B A' m c' (l ++ txtB f x) ∧ Grew w w' (.slice A n c) (.slice A' m c') := by
  have hxm := hr.len1
  by_cases h0 : m = 0
  · have hB0 : Hid (txtB f x = []) := by show _ = _; unfold txtB; rw [if_pos (by omega)]
    have HO0 := Lib.hid h
    subst h0
    clear h hr ha hX hxm
    go_enter Tryd.func93, Tryd.ntmps93
    go_wp2
    go_ret
    exact ⟨A, n, c, rfl, by rw [hB0.out, List.append_nil]; exact HO0.out, Grew.refl _ _⟩
  · have hz : ((m : Int) == 0) = false := by rw [beq_eq_false_iff_ne]; omega
    have hB0 : Hid (txtB f x = msgB f x) := by show _ = _; unfold txtB; rw [if_neg (by omega)]
    have K := Lib.hid (putMsg_any B n c f A l X m d x w h hB hn hr ha hX hm hf)
    clear h hr ha hX hxm
    go_enter Tryd.func93, Tryd.ntmps93
    go_wp2_with fail
    refine K.out.mono ?_
    rintro e w3 ⟨A3, m3, c3, rfl, ho3, hg3⟩
    have HO3 := Lib.hid ho3; have HG3 := Lib.hid hg3; clear ho3 hg3
    go_wp2
    go_ret
    exact ⟨A3, m3, c3, rfl, by rw [hB0.out]; exact HO3.out, HG3.out⟩

end Go.Proofs.YtikikddkhikfkaaDoor

namespace Go.Proofs.YtikikddkhikfkaaDoor
open Go.RowKit

def plainS : ByteArray := ⟨#[112, 108, 97, 105, 110]⟩
theorem method_type (A B : Option Addr) (n c m d : Nat) (w : World) : (method 363 153 (.agg #[.slice A n c, .slice B m d, .bool false]) "Type").run Tryd.prog w = .ok (162, .agg #[.slice A n c, .slice B m d, .bool false]) w := by kernel_rfl
theorem method_bytes (A B : Option Addr) (n c m d : Nat) (w : World) : (method 363 153 (.agg #[.slice A n c, .slice B m d, .bool false]) "Bytes").run Tryd.prog w = .ok (161, .agg #[.slice A n c, .slice B m d, .bool false]) w := by kernel_rfl

set_option maxHeartbeats 400000 in
theorem type_any (A B : Option Addr) (n c m d : Nat) (w : World) :
    Calls Tryd.prog 162 #[.agg #[.slice A n c, .slice B m d, .bool false]] w fun e w' => e = .returned (.string ⟨#[112, 108, 97, 105, 110]⟩) ∧ Below w.heap.size w w' := by
  go_enter Tryd.func162, Tryd.ntmps162
  go_wp2
  go_ret
  exact ⟨rfl, (Below.refl _ _).alloc (Nat.le_refl _) _⟩
set_option maxHeartbeats 400000 in
theorem kbytes_any (A B : Option Addr) (n c m d : Nat) (w : World) :
    Calls Tryd.prog 161 #[.agg #[.slice A n c, .slice B m d, .bool false]] w fun e w' => e = .returned (.slice A n c) ∧ Below w.heap.size w w' := by
  go_enter Tryd.func161, Tryd.ntmps161
  go_wp2
  go_ret
  exact ⟨rfl, (Below.refl _ _).alloc (Nat.le_refl _) _⟩

set_option maxHeartbeats 400000 in
theorem size_any (g n c : Nat) (A : Option Addr) (w : World) (h : w.cell? ⟨g, 0, none⟩ = some (.slice A n c)) :
    Calls Tryd.prog 99 #[.pointer (some ⟨g, 0, none⟩)] w fun e w' => e = .returned (.int .i64 n) ∧ w = w' := by
  go_enter Tryd.func99, Tryd.ntmps99
  go_wp2
  go_ret
  exact ⟨rfl, rfl⟩

set_option maxRecDepth 100000 in
set_option maxHeartbeats 1600000 in
theorem keys_any (lo g : Nat) (A : Option Addr) (c : Nat) (bs : List Nat) (ts : List Tv) (prop : Value) (tot : Int) (same : Bool) (w : World) (h : VSet w lo g A c bs ts prop tot same) (hn : bs.length ≤ 1000000) :
    Calls Tryd.prog 77 #[ptrTo g] w fun e w' => e = .returned (.tuple #[]) ∧ VSet w' lo g A c bs ts prop tot true ∧ w.grownBy w' (some g) := by
  unfold ptrTo
  have h0 : w.cell? ⟨g, 0, none⟩ = some (.slice A bs.length c) := h.head.cell 0
  have h3 : w.cell? ⟨g, 3, none⟩ = some (.bool same) := h.head.cell 3
  have hf := h.head.free
  have hg := h.head.lt
  have H := Lib.hid h; clear h
  have fin : ∀ wr, Below w.heap.size w wr → Hid (VSet (wr.setCell ⟨g, 3, none⟩ (.bool true)) lo g A c bs ts prop tot true ∧ w.grownBy (wr.setCell ⟨g, 3, none⟩ (.bool true)) (some g)) := fun wr hb => by
    have hv := H.out.keep (KeepV.of_below lo hb (Nat.le_refl _))
    exact ⟨hv.mark, (grownAny_of hb (some g)).trans (grown_put wr g 3 _)⟩
  have FIN := Lib.hid fin; clear fin
  by_cases hz : bs.length = 0
  · have hz' : ((bs.length : Int) == 0) = true := by simpa using hz
    have HZ := Lib.hid hz; clear hz
    go_enter Tryd.func77, Tryd.ntmps77
    go_wp2_with (go_at_call 99; refine (size_any g bs.length c A w h0).mono ?_; rintro e w' ⟨rfl, rfl⟩)
    refine bodyPost_ret (results_none rfl _ _ _) rfl ?_
    exact ⟨rfl, FIN.out w (Below.refl _ _)⟩
  · have hz' : ((bs.length : Int) == 0) = false := by simpa using hz
    go_enter Tryd.func77, Tryd.ntmps77
    go_wp2_with (go_at_call 99; refine (size_any g bs.length c A w h0).mono ?_; rintro e w' ⟨rfl, rfl⟩)
    go_loopw [2, 16] (fun v i wr => ∃ k : Nat, k ≤ bs.length ∧ i = .int .i64 k ∧ Hid (v = if k = 0 then .string ⟨#[]⟩ else .string ⟨#[112, 108, 97, 105, 110]⟩) ∧ Hid (Below w.heap.size w wr)) (fun _ i _ => bs.length - (intOf i).toNat)
    case atStart => exact ⟨0, Nat.zero_le _, rfl, rfl, Below.refl _ _⟩
    case round =>
      obtain ⟨k, hk, rfl, HV, HW⟩ := hrel
      have hg' : g < wr.heap.size := by have := HW.out.size; omega
      have hzz := HW.out.size
      have h0' : wr.cell? ⟨g, 0, none⟩ = some (.slice A bs.length c) := (HW.out.cell (p := ⟨g, 0, none⟩) hg).trans h0
      have h3' : wr.cell? ⟨g, 3, none⟩ = some (.bool same) := (HW.out.cell (p := ⟨g, 3, none⟩) hg).trans h3
      have hf' : wr.frozen? ⟨g, 3, none⟩ = false := (HW.out.frozen (p := ⟨g, 3, none⟩) hg).trans (hf 3)
      by_cases hlt : k < bs.length
      · have hv := H.out.keep (KeepV.of_below lo HW.out (Nat.le_refl _))
        obtain ⟨b, t, hb, ht⟩ := hv.at_ hlt
        obtain ⟨r, rfl, _, hp⟩ := hv.ptr hb
        obtain ⟨_, hbv, hok⟩ := hv.vals k b t hb ht
        obtain ⟨c0, c1, c2, c3⟩ := t.val_cells hbv
        have hbl := hbv.lt
        have c1' : ∀ W, Below wr.heap.size wr W → W.cell? ⟨b, 1, none⟩ = some (.iface 153 (.agg #[.slice t.K t.x.key.size t.d, .slice t.A t.x.adr.size t.c, .bool false])) := fun W hW => (hW.cell (p := ⟨b, 1, none⟩) hbl).trans c1
        have HC1 := Lib.hid c1'
        have HB := Lib.hid hb; have HT := Lib.hid ht; have HBV := Lib.hid hbv; have HOK := Lib.hid hok; have HVV := Lib.hid hv
        clear hb ht hbv hok hv c1'
        have km := fun W => method_type t.K t.A t.x.key.size t.d t.x.adr.size t.c W
        by_cases hk0 : k = 0
        · have e : u2 = .string ⟨#[]⟩ := by have := HV.out; rw [if_pos hk0] at this; exact this
          subst e
          have HK0 := Lib.hid hk0; clear hk0 HV
          go_wp2_with fail
          refine (type_any _ _ _ _ _ _ _).mono ?_
          rintro e w1 ⟨rfl, hb1⟩
          have d1 := HC1.out _ hb1
          go_wp2_with fail
          refine (type_any _ _ _ _ _ _ _).mono ?_
          rintro e w2 ⟨rfl, hb2⟩
          go_wp2
          go_roundw
          case rel => exact ⟨k + 1, by omega, by go_num, (by show _ = _; rw [if_neg (by omega)]), HW.out.trans ((hb1.trans (hb2.mono hb1.size)).mono hzz)⟩
          case measure => simp [intOf]; omega
        · have e : u2 = .string ⟨#[112, 108, 97, 105, 110]⟩ := by have := HV.out; rw [if_neg hk0] at this; exact this
          subst e
          have HK0 := Lib.hid hk0; clear hk0 HV
          go_wp2_with fail
          refine (type_any _ _ _ _ _ _ _).mono ?_
          rintro e w2 ⟨rfl, hb2⟩
          go_wp2
          go_roundw
          case rel => exact ⟨k + 1, by omega, by go_num, (by show _ = _; rw [if_neg (by omega)]), HW.out.trans (hb2.mono hzz)⟩
          case measure => simp [intOf]; omega
      · have HF := Lib.hid (FIN.out wr HW.out)
        clear HV
        go_wp2
        go_end0
        exact ⟨rfl, HF.out.out⟩
end Go.Proofs.YtikikddkhikfkaaDoor

namespace Go.Proofs.YtikikddkhikfkaaDoor
open Go.RowKit

set_option maxRecDepth 100000 in
set_option maxHeartbeats 800000 in
theorem bequal_any (a b : ByteArray) (A B : Option Addr) (c d : Nat) (w : World) (ha : Byt w A a) (hb : Byt w B b) :
    Calls Tryd.prog 100 #[.slice A a.size c, .slice B b.size d] w fun e w' => e = .returned (.bool (a.toList == b.toList)) ∧ w = w' := by
  have kc := ha.back (P := Tryd.prog) 22 9 c Tryd.underlying22 Tryd.underlying5 Tryd.underlying9
  have kd := hb.back (P := Tryd.prog) 22 9 d Tryd.underlying22 Tryd.underlying5 Tryd.underlying9
  clear ha hb
  go_enter Tryd.func100, Tryd.ntmps100
  go_wp2
  go_ret
  exact ⟨rfl, rfl⟩
/-- Go's '<' on strings, and the library's compare -/
theorem bytesLess_eq : ∀ a b : List UInt8, Op.bytesLess a b = decide (Lib.compareBytes a b < 0) := by
  intro a
  induction a with
  | nil => intro b; cases b <;> simp [Op.bytesLess, Lib.compareBytes]
  | cons x r ih =>
    intro b
    cases b with
    | nil => simp [Op.bytesLess, Lib.compareBytes]
    | cons y s =>
      simp only [Op.bytesLess, Lib.compareBytes]
      by_cases h1 : x < y
      · simp [h1]
      · by_cases h2 : y < x
        · have : x ≠ y := by rintro rfl; exact h1 h2
          simp [h1, h2, this]
        · have : x = y := UInt8.le_antisymm (UInt8.not_lt.1 h2) (UInt8.not_lt.1 h1)
          subst this
          simp [h1, ih]
theorem compare_zero : ∀ a b : List UInt8, Lib.compareBytes a b = 0 → a = b := by
  intro a
  induction a with
  | nil => intro b; cases b <;> simp [Lib.compareBytes]
  | cons x r ih =>
    intro b
    cases b with
    | nil => simp [Lib.compareBytes]
    | cons y s =>
      simp only [Lib.compareBytes]
      by_cases h1 : x < y
      · simp [h1]
      · by_cases h2 : y < x
        · simp [h1, h2]
        · have : x = y := UInt8.le_antisymm (UInt8.not_lt.1 h2) (UInt8.not_lt.1 h1)
          subst this
          simp only [h1, if_false]
          intro h; rw [ih s h]

/-- is x ahead of y as a proposer? -/
def aheadB (x y : Sd) : Bool := decide (y.pri < x.pri) || (decide (x.pri = y.pri) && Op.bytesLess x.adr.toList y.adr.toList)

set_option maxHeartbeats 400000 in
theorem cmp_nil (b : Nat) (w : World) : Calls Tryd.prog 101 #[.pointer none, ptrTo b] w fun e w' => e = .returned (ptrTo b) ∧ w = w' := by
  unfold ptrTo
  go_enter Tryd.func101, Tryd.ntmps101
  go_wp2
  go_ret
  exact ⟨rfl, rfl⟩

end Go.Proofs.YtikikddkhikfkaaDoor

namespace Go.Proofs.YtikikddkhikfkaaDoor
open Go.RowKit

def pstep (best : Option (Sd × Nat)) (p : Sd × Nat) : Option (Sd × Nat) :=
  match best with
  | none => some p
  | some q => if q.1.adr.toList == p.1.adr.toList || aheadB q.1 p.1 then some q else some p
def propOf (l : List Sd) : Option (Sd × Nat) := l.zipIdx.foldl pstep none
def pval (bs : List Nat) : Option (Sd × Nat) → Value
  | none => .pointer none
  | some q => ptrTo (bs.getD q.2 0)

end Go.Proofs.YtikikddkhikfkaaDoor
