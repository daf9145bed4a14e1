/-
  shiftByAvgProposerPriority, getValWithMostPriority: walks. By the session.
-/
import Derived.Test.YtikikddkhikfkaaAvg
import Derived.Test.YtikikddkhikfkaaFind
set_option linter.unusedSimpArgs false
namespace Go.Proofs.Ytikikddkhikfkaa
open Go.RowKit

/-- a priority less so much, within 64 bits -/
def subP (a : Int) (s : Sd) : Sd := { s with pri := clip (s.pri - a) }
/-- a priority and so much of the power's, within 64 bits -/
def addP (s : Sd) : Sd := { s with pri := clip (s.pri + s.pow) }
def shiftL (l : List Sd) : List Sd := l.map (subP (avgL l))
theorem avgL_bd (l : List Sd) (hne : l ≠ []) (B : Int) (h : ∀ s ∈ l, -B ≤ s.pri ∧ s.pri ≤ B) : -B ≤ avgL l ∧ avgL l ≤ B := by
  have hl : 0 < (l.length : Int) := by have := List.length_pos_iff.2 hne; omega
  have hb := sumI_bd (prisOf l) (-B) B (fun x hx => by
    obtain ⟨s, hs, rfl⟩ := List.mem_map.1 hx
    exact h s hs)
  have e : (prisOf l).length = l.length := by simp [prisOf]
  rw [e] at hb
  unfold avgL
  constructor
  · rw [Int.le_ediv_iff_mul_le hl, Int.mul_comm]; exact hb.1
  · have := Int.ediv_le_ediv hl hb.2
    rw [Int.mul_ediv_cancel_left _ (by omega)] at this
    exact this

set_option maxRecDepth 100000 in
set_option maxHeartbeats 1600000 in
theorem shift_any (lo g : Nat) (A : Option Addr) (c : Nat) (bs : List Nat) (ts : List Tv) (prop : Value) (tot : Int) (same : Bool) (w : World) (h : VSet w lo g A c bs ts prop tot same) (hn : bs.length ≤ 1000) (hn0 : 0 < bs.length)
    (hp : ∀ t ∈ ts, -4611686018427387904 ≤ t.x.pri ∧ t.x.pri ≤ 4611686018427387904) :
    Calls Try.prog 68 #[ptrTo g] w fun e w' => e = .returned (.tuple #[]) ∧ ∃ ts', ts'.map Tv.x = shiftL (ts.map Tv.x) ∧ VSet w' lo g A c bs ts' prop tot same ∧ OnlyV g bs w w' := by
  have KA := Lib.hid (avg_any lo g A c bs ts prop tot same w h hn hn0 hp)
  have hab : in64 (avgL (ts.map Tv.x)) := by
    have := avgL_bd (ts.map Tv.x) (by intro e; have h1 := congrArg List.length e; simp at h1; have := h.len; rw [h1] at this; simp at this; omega) 4611686018427387904 (fun s hs => by
      obtain ⟨t, ht, rfl⟩ := List.mem_map.1 hs
      exact hp t ht)
    unfold in64; omega
  unfold ptrTo at *
  have h0 : w.cell? ⟨g, 0, none⟩ = some (.slice A bs.length c) := h.head.cell 0
  have H := Lib.hid h; have HP := Lib.hid hp; clear h hp
  have hsh : shiftL (ts.map Tv.x) = (ts.map Tv.x).map (subP (avgL (ts.map Tv.x))) := rfl
  have HSH := Lib.hid hsh; clear hsh
  generalize avgL (ts.map Tv.x) = av at *
  go_enter Try.func68, Try.ntmps68
  go_wp2_with (first | (go_at_call 64; refine (nil_any g bs.length c A w h0 hn0).mono ?_; rintro e w' ⟨rfl, rfl⟩) | (go_at_call 83; refine KA.out.mono ?_; rintro e w' ⟨rfl, rfl⟩))
  go_loopw [15] (fun i wr => ∃ k : Nat, k ≤ bs.length ∧ i = .int .i64 k ∧ Hid (VSet wr lo g A c bs (mapTo (onX (subP av)) ts k) prop tot same) ∧ Hid (OnlyV g bs w wr)) (fun i _ => bs.length - (intOf i).toNat)
  case atStart => exact ⟨0, Nat.zero_le _, rfl, by rw [mapTo_zero]; exact H.out, OnlyV.refl _ _ _⟩
  case round =>
    obtain ⟨k, hk, rfl, HV, HO⟩ := hrel
    by_cases hlt : k < bs.length
    · obtain ⟨b, t, hb, ht⟩ := H.out.at_ hlt
      have ht' := mapTo_get (onX (subP av)) ts k t ht
      obtain ⟨r0, rfl, _, hp⟩ := HV.out.ptr hb
      obtain ⟨_, hbv, hok⟩ := HV.out.vals k b t hb ht'
      obtain ⟨c0, c1, c2, c3⟩ := t.val_cells hbv
      have f3 := hbv.free 3
      have hb3 := HP.out t (List.mem_of_getElem? ht)
      have hset := HV.out.setPri hb ht' (clip (t.x.pri - av))
      have e1 : (mapTo (onX (subP av)) ts k).set k { t with x := { t.x with pri := clip (t.x.pri - av) } } = mapTo (onX (subP av)) ts (k + 1) := mapTo_succ (onX (subP av)) ts k t ht
      rw [e1] at hset
      have KC := Lib.hid (fun W => subClip_any t.x.pri av W ⟨by omega, by omega⟩ hab)
      have HSET := Lib.hid hset; have HB := Lib.hid hb; have HT := Lib.hid ht; have HBV := Lib.hid hbv; have HOK := Lib.hid hok; have HT' := Lib.hid ht'
      have hmem := Lib.hid (List.mem_of_getElem? hb)
      clear hset e1 hb ht hbv hok ht' c0 c1 c2
      generalize clip (t.x.pri - av) = q at *
      go_wp2_with (go_at_call 84; refine (KC.out _).mono ?_; rintro e w' ⟨rfl, rfl⟩)
      go_roundw
      case rel => exact ⟨k + 1, by omega, by go_num, HSET.out, HO.out.trans (OnlyV.putVal _ hmem.out 3 _)⟩
      case measure => simp [intOf]; omega
    · have hfin := HV.out
      rw [mapTo_full _ _ _ (by rw [H.out.len]; omega)] at hfin
      have HF := Lib.hid hfin; clear hfin
      go_wp2
      go_end0
      exact ⟨rfl, _, (onX_map _ _).trans HSH.out.symm, HF.out, HO.out⟩

/-- no two have one address -/
def distinct (l : List Sd) : Prop := ∀ (i j : Nat) (x y : Sd), l[i]? = some x → l[j]? = some y → i ≠ j → x.adr.toList ≠ y.adr.toList

set_option maxRecDepth 100000 in
set_option maxHeartbeats 3200000 in
theorem most_any (lo g : Nat) (A : Option Addr) (c : Nat) (bs : List Nat) (ts : List Tv) (prop : Value) (tot : Int) (same : Bool) (w : World) (h : VSet w lo g A c bs ts prop tot same) (hn : bs.length ≤ 1000000) (hd : distinct (ts.map Tv.x)) :
    Calls Try.prog 86 #[ptrTo g] w fun e w' => e = .returned (pval bs (propOf (ts.map Tv.x))) ∧ ∃ n, w' = w.drewN n := by
  unfold ptrTo
  have h0 : w.cell? ⟨g, 0, none⟩ = some (.slice A bs.length c) := h.head.cell 0
  have H := Lib.hid h; have HD := Lib.hid hd; clear h hd
  go_enter Try.func86, Try.ntmps86
  go_wp2
  go_loopw [3, 11] (fun v i wr => ∃ k : Nat, k ≤ bs.length ∧ i = .int .i64 k ∧ Hid (v = pval bs (((ts.map Tv.x).zipIdx.take k).foldl pstep none)) ∧ Hid (∀ q, ((ts.map Tv.x).zipIdx.take k).foldl pstep none = some q → q.2 < k ∧ ∃ b t, bs[q.2]? = some b ∧ ts[q.2]? = some t ∧ t.x = q.1) ∧ Hid (∃ n, wr = w.drewN n)) (fun _ i _ => bs.length - (intOf i).toNat)
  case atStart => exact ⟨0, Nat.zero_le _, rfl, rfl, (fun q hq => by simp at hq), ⟨0, rfl⟩⟩
  case round =>
    obtain ⟨k, hk, rfl, HV, HQ, HW⟩ := hrel
    obtain ⟨nd, hnd⟩ := HW.out
    subst hnd
    by_cases hlt : k < bs.length
    · obtain ⟨b, t, hb, ht⟩ := H.out.at_ hlt
      obtain ⟨r, rfl, _, hp⟩ := H.out.ptr hb
      obtain ⟨_, hbv, hok⟩ := H.out.vals k b t hb ht
      obtain ⟨c0, c1, c2, c3⟩ := t.val_cells hbv
      have hxk : (ts.map Tv.x).zipIdx[k]? = some (t.x, k) := by rw [List.getElem?_zipIdx, List.getElem?_map, ht]; simp
      have hnx := foldl_take_succ pstep none (ts.map Tv.x).zipIdx k _ hxk
      have HNX := Lib.hid hnx; have HXK := Lib.hid hxk; have HB := Lib.hid hb; have HT := Lib.hid ht; have HBV := Lib.hid hbv; have HOK := Lib.hid hok
      clear hnx hxk hb ht hbv hok
      cases hbest : ((ts.map Tv.x).zipIdx.take k).foldl pstep none with
      | none =>
        have e : u3 = Value.pointer none := by have := HV.out; rw [hbest] at this; exact this
        subst e
        have hn1 : ((ts.map Tv.x).zipIdx.take (k + 1)).foldl pstep none = some (t.x, k) := by rw [HNX.out, hbest]; rfl
        have HN1 := Lib.hid hn1; have HBE := Lib.hid hbest; clear hn1 hbest
        go_wp2_with (go_at_call 81; refine (cmp_nil b _).mono ?_; rintro e w1 ⟨rfl, rfl⟩)
        go_roundw
        case rel => exact ⟨k + 1, by omega, by go_num, by rw [HN1.out]; show _ = ptrTo (bs.getD k 0); rw [List.getD_eq_getElem?_getD, HB.out]; rfl, (fun q hq => by rw [HN1.out] at hq; cases hq; exact ⟨Nat.lt_succ_self _, b, t, HB.out, HT.out, rfl⟩), ⟨_, rfl⟩⟩
        case measure => simp [intOf]; omega
      | some q =>
        obtain ⟨hqk, b', t', hb', ht', hx'⟩ := HQ.out q hbest
        have e : u3 = Value.pointer (some ⟨b', 0, none⟩) := by
          have := HV.out; rw [hbest] at this
          rw [this]; show ptrTo (bs.getD q.2 0) = _
          rw [List.getD_eq_getElem?_getD, hb']; rfl
        subst e
        obtain ⟨_, hbv', hok'⟩ := H.out.vals q.2 b' t' hb' ht'
        obtain ⟨d0, d1, d2, d3⟩ := t'.val_cells hbv'
        have hne : t'.x.adr.toList ≠ t.x.adr.toList := HD.out q.2 k t'.x t.x (by rw [List.getElem?_map, ht']; rfl) (by rw [List.getElem?_map, HT.out]; rfl) (by omega)
        have e1 : (t'.x.adr.toList == t.x.adr.toList) = false := by simpa using hne
        have hn1 : ((ts.map Tv.x).zipIdx.take (k + 1)).foldl pstep none = if aheadB t'.x t.x then some q else some (t.x, k) := by rw [HNX.out, hbest, pstep, ← hx', e1, Bool.false_or]
        have HN1 := Lib.hid hn1; have HBE := Lib.hid hbest; have HB' := Lib.hid hb'; have HT' := Lib.hid ht'; have HX' := Lib.hid hx'; have HBV' := Lib.hid hbv'; have HOK' := Lib.hid hok'
        have HNE := Lib.hid hne
        clear hn1 hbest hb' ht' hx' hbv' hok' hne e1
        cases hah : aheadB t'.x t.x with
        | true =>
          have hn2 : ((ts.map Tv.x).zipIdx.take (k + 1)).foldl pstep none = some q := by rw [HN1.out, hah]; rfl
          have HN2 := Lib.hid hn2; clear hn2
          have HAH := Lib.hid hah; clear hah
          have HCY := Lib.hid (fun n => cmp_yes b' b t' t (w.drewN n) (HBV'.out.drewN n) (HBV.out.drewN n) (HOK'.out.drewN n) (HOK.out.drewN n) HAH.out)
          go_wp2_with (go_at_call 81; refine (HCY.out _).mono ?_; rintro e w1 ⟨rfl, nd2, rfl⟩)
          go_roundw
          case rel => exact ⟨k + 1, by omega, by go_num, by rw [HN2.out]; show _ = ptrTo (bs.getD q.2 0); rw [List.getD_eq_getElem?_getD, HB'.out]; rfl, (fun q1 hq => by rw [HN2.out] at hq; cases hq; exact ⟨by omega, b', t', HB'.out, HT'.out, HX'.out⟩), ⟨_, rfl⟩⟩
          case measure => simp [intOf]; omega
        | false =>
          have hn2 : ((ts.map Tv.x).zipIdx.take (k + 1)).foldl pstep none = some (t.x, k) := by rw [HN1.out, hah]; rfl
          have HN2 := Lib.hid hn2; clear hn2
          have HAH := Lib.hid hah; clear hah
          have HCY := Lib.hid (fun n => cmp_no b' b t' t (w.drewN n) (HBV'.out.drewN n) (HBV.out.drewN n) (HOK'.out.drewN n) (HOK.out.drewN n) HAH.out (.inr HNE.out))
          go_wp2_with (go_at_call 81; refine (HCY.out _).mono ?_; rintro e w1 ⟨rfl, nd2, rfl⟩)
          go_roundw
          case rel => exact ⟨k + 1, by omega, by go_num, by rw [HN2.out]; show _ = ptrTo (bs.getD k 0); rw [List.getD_eq_getElem?_getD, HB.out]; rfl, (fun q1 hq => by rw [HN2.out] at hq; cases hq; exact ⟨Nat.lt_succ_self _, b, t, HB.out, HT.out, rfl⟩), ⟨_, rfl⟩⟩
          case measure => simp [intOf]; omega
    · have e : k = bs.length := by omega
      have h1 := HV.out
      rw [List.take_of_length_le (by rw [List.length_zipIdx, List.length_map, H.out.len]; omega)] at h1
      have H1 := Lib.hid h1; clear h1
      have HE := Lib.hid e; clear e
      go_wp2
      go_ret
      exact ⟨ret_val H1.out, nd, rfl⟩
end Go.Proofs.Ytikikddkhikfkaa
