/-
  findProposer: the walk. By the session.
-/
import Derived.Test.YtikikddkhikfkaaCmp
import Derived.Test.YtikikddkhikfkaaSet2
namespace Go.Proofs.Ytikikddkhikfkaa
open Go.RowKit

def pstep (best : Option (Sd × Nat)) (p : Sd × Nat) : Option (Sd × Nat) :=
  match best with
  | none => some p
  | some q => if q.1.adr.toList == p.1.adr.toList || aheadB q.1 p.1 then some q else some p
def propOf (l : List Sd) : Option (Sd × Nat) := l.zipIdx.foldl pstep none
def pval (bs : List Nat) : Option (Sd × Nat) → Value
  | none => .pointer none
  | some q => ptrTo (bs.getD q.2 0)

set_option maxRecDepth 100000 in
set_option maxHeartbeats 3200000 in
theorem find_any (lo g : Nat) (A : Option Addr) (c : Nat) (bs : List Nat) (ts : List Tv) (prop : Value) (tot : Int) (same : Bool) (w : World) (h : VSet w lo g A c bs ts prop tot same) (hn : bs.length ≤ 1000000) :
    Calls Try.prog 63 #[ptrTo g] w fun e w' => e = .returned (pval bs (propOf (ts.map Tv.x))) ∧ ∃ n, w' = w.drewN n := by
  unfold ptrTo
  have h0 : w.cell? ⟨g, 0, none⟩ = some (.slice A bs.length c) := h.head.cell 0
  have H := Lib.hid h; clear h
  go_enter Try.func63, Try.ntmps63
  go_wp2
  go_loopw [3, 11] (fun v i wr => ∃ k : Nat, k ≤ bs.length ∧ i = .int .i64 k ∧ Hid (v = pval bs (((ts.map Tv.x).zipIdx.take k).foldl pstep none)) ∧ Hid (∀ q, ((ts.map Tv.x).zipIdx.take k).foldl pstep none = some q → ∃ b t, bs[q.2]? = some b ∧ ts[q.2]? = some t ∧ t.x = q.1) ∧ Hid (k ≠ 0 → ((ts.map Tv.x).zipIdx.take k).foldl pstep none ≠ none) ∧ Hid (∃ n, wr = w.drewN n)) (fun _ i _ => bs.length - (intOf i).toNat)
  case atStart => exact ⟨0, Nat.zero_le _, rfl, rfl, (fun q hq => by simp at hq), (fun h => absurd rfl h), ⟨0, rfl⟩⟩
  case round =>
    obtain ⟨k, hk, rfl, HV, HQ, HZ, HW⟩ := hrel
    obtain ⟨nd, hnd⟩ := HW.out
    subst hnd
    by_cases hlt : k < bs.length
    · obtain ⟨b, t, hb, ht⟩ := H.out.at_ hlt
      obtain ⟨r, rfl, _, hp⟩ := H.out.ptr hb
      obtain ⟨_, hbv, hok⟩ := H.out.vals k b t hb ht
      obtain ⟨c0, c1, c2, c3⟩ := t.val_cells hbv
      have hxk : (ts.map Tv.x).zipIdx[k]? = some (t.x, k) := by rw [List.getElem?_zipIdx, List.getElem?_map, ht]; simp
      have hnx := foldl_take_succ pstep none (ts.map Tv.x).zipIdx k _ hxk
      have HNX := Lib.hid hnx; have HXK := Lib.hid hxk; have HB := Lib.hid hb; have HT := Lib.hid ht; have HBV := Lib.hid hbv; have HOK := Lib.hid hok
      clear hnx hxk hb ht hbv hok
      cases hbest : ((ts.map Tv.x).zipIdx.take k).foldl pstep none with
      | none =>
        have e : u3 = Value.pointer none := by have := HV.out; rw [hbest] at this; exact this
        subst e
        have hn1 : ((ts.map Tv.x).zipIdx.take (k + 1)).foldl pstep none = some (t.x, k) := by rw [HNX.out, hbest]; rfl
        have HN1 := Lib.hid hn1; have HBE := Lib.hid hbest; clear hn1 hbest
        go_wp2_with fail
        go_quiet (fail)
        go_wp2_with (go_at_call 81; refine (cmp_nil b _).mono ?_; rintro e w1 ⟨rfl, rfl⟩)
        go_roundw
        case rel => exact ⟨k + 1, by omega, by go_num, by rw [HN1.out]; show _ = ptrTo (bs.getD k 0); rw [List.getD_eq_getElem?_getD, HB.out]; rfl, (fun q hq => by rw [HN1.out] at hq; cases hq; exact ⟨b, t, HB.out, HT.out, rfl⟩), (fun _ hq => by rw [HN1.out] at hq; cases hq), ⟨_, rfl⟩⟩
        case measure => simp [intOf]; omega
      | some q =>
        obtain ⟨b', t', hb', ht', hx'⟩ := HQ.out q hbest
        have e : u3 = Value.pointer (some ⟨b', 0, none⟩) := by
          have := HV.out; rw [hbest] at this
          rw [this]; show ptrTo (bs.getD q.2 0) = _
          rw [List.getD_eq_getElem?_getD, hb']; rfl
        subst e
        obtain ⟨_, hbv', hok'⟩ := H.out.vals q.2 b' t' hb' ht'
        obtain ⟨d0, d1, d2, d3⟩ := t'.val_cells hbv'
        have hn1 : ((ts.map Tv.x).zipIdx.take (k + 1)).foldl pstep none = if t'.x.adr.toList == t.x.adr.toList || aheadB t'.x t.x then some q else some (t.x, k) := by rw [HNX.out, hbest, hx']; rfl
        have stay : ((ts.map Tv.x).zipIdx.take (k + 1)).foldl pstep none = some q → Hid (Value.pointer (some ⟨b', 0, none⟩) = pval bs (((ts.map Tv.x).zipIdx.take (k + 1)).foldl pstep none)) ∧ Hid (∀ q, ((ts.map Tv.x).zipIdx.take (k + 1)).foldl pstep none = some q → ∃ b t, bs[q.2]? = some b ∧ ts[q.2]? = some t ∧ t.x = q.1) ∧ Hid (k + 1 ≠ 0 → ((ts.map Tv.x).zipIdx.take (k + 1)).foldl pstep none ≠ none) := fun e => by
          rw [e]
          exact ⟨by show _ = ptrTo (bs.getD q.2 0); rw [List.getD_eq_getElem?_getD, hb']; rfl, (fun q1 hq => by cases hq; exact ⟨b', t', hb', ht', hx'⟩), (fun _ hq => by cases hq)⟩
        have HSTAY := Lib.hid stay; clear stay
        have move : ((ts.map Tv.x).zipIdx.take (k + 1)).foldl pstep none = some (t.x, k) → Hid (Value.pointer (some ⟨b, 0, none⟩) = pval bs (((ts.map Tv.x).zipIdx.take (k + 1)).foldl pstep none)) ∧ Hid (∀ q, ((ts.map Tv.x).zipIdx.take (k + 1)).foldl pstep none = some q → ∃ b t, bs[q.2]? = some b ∧ ts[q.2]? = some t ∧ t.x = q.1) ∧ Hid (k + 1 ≠ 0 → ((ts.map Tv.x).zipIdx.take (k + 1)).foldl pstep none ≠ none) := fun e => by
          rw [e]
          exact ⟨by show _ = ptrTo (bs.getD k 0); rw [List.getD_eq_getElem?_getD, HB.out]; rfl, (fun q1 hq => by cases hq; exact ⟨b, t, HB.out, HT.out, rfl⟩), (fun _ hq => by cases hq)⟩
        have HMOVE := Lib.hid move; clear move
        have HN1 := Lib.hid hn1; have HBE := Lib.hid hbest; have HB' := Lib.hid hb'; have HT' := Lib.hid ht'; have HX' := Lib.hid hx'; have HBV' := Lib.hid hbv'; have HOK' := Lib.hid hok'
        clear hn1 hbest hb' ht' hx' hbv' hok'
        have HE := Lib.hid (fun W (hW : t.ok W ∧ t'.ok W) => bequal_any t.x.adr t'.x.adr t.A t'.A t.c t'.c W hW.1.1 hW.2.1)
        cases heq : t.x.adr.toList == t'.x.adr.toList with
        | true =>
          have e1 : (t'.x.adr.toList == t.x.adr.toList) = true := by have := eq_of_beq heq; rw [this]; simp
          have HS := Lib.hid (HSTAY.out (by rw [HN1.out, e1]; rfl))
          rw [heq] at HE
          have HQ2 := Lib.hid heq; clear heq e1
          go_wp2_with fail
          go_quiet ((go_at_call 80; first | exact quietA (HE.out _ ⟨HOK.out, HOK'.out⟩) | exact quietL (HE.out _ ⟨HOK.out, HOK'.out⟩)))
          go_wp2
          go_roundw
          case rel => exact ⟨k + 1, by omega, by go_num, HS.out.1, HS.out.2.1, HS.out.2.2, ⟨_, rfl⟩⟩
          case measure => simp [intOf]; omega
        | false =>
          have hne : t'.x.adr.toList ≠ t.x.adr.toList := by intro e; rw [e] at heq; simp at heq
          have e1 : (t'.x.adr.toList == t.x.adr.toList) = false := by simpa using hne
          rw [heq] at HE
          have HNE := Lib.hid hne; have HE1 := Lib.hid e1; have HQ2 := Lib.hid heq; clear hne e1 heq
          cases hah : aheadB t'.x t.x with
          | true =>
            have HS := Lib.hid (HSTAY.out (by rw [HN1.out, HE1.out, hah]; rfl))
            have HAH := Lib.hid hah; clear hah
            have HCY := Lib.hid (fun n => cmp_yes b' b t' t (w.drewN n) (HBV'.out.drewN n) (HBV.out.drewN n) (HOK'.out.drewN n) (HOK.out.drewN n) HAH.out)
            go_wp2_with fail
            go_quiet ((go_at_call 80; first | exact quietA (HE.out _ ⟨HOK.out, HOK'.out⟩) | exact quietL (HE.out _ ⟨HOK.out, HOK'.out⟩)))
            go_wp2_with (go_at_call 81; refine (HCY.out _).mono ?_; rintro e w1 ⟨rfl, nd2, rfl⟩)
            go_roundw
            case rel => exact ⟨k + 1, by omega, by go_num, HS.out.1, HS.out.2.1, HS.out.2.2, ⟨_, rfl⟩⟩
            case measure => simp [intOf]; omega
          | false =>
            have HS := Lib.hid (HMOVE.out (by rw [HN1.out, HE1.out, hah]; rfl))
            have HAH := Lib.hid hah; clear hah
            have HCY := Lib.hid (fun n => cmp_no b' b t' t (w.drewN n) (HBV'.out.drewN n) (HBV.out.drewN n) (HOK'.out.drewN n) (HOK.out.drewN n) HAH.out (.inr HNE.out))
            go_wp2_with fail
            go_quiet ((go_at_call 80; first | exact quietA (HE.out _ ⟨HOK.out, HOK'.out⟩) | exact quietL (HE.out _ ⟨HOK.out, HOK'.out⟩)))
            go_wp2_with (go_at_call 81; refine (HCY.out _).mono ?_; rintro e w1 ⟨rfl, nd2, rfl⟩)
            go_roundw
            case rel => exact ⟨k + 1, by omega, by go_num, HS.out.1, HS.out.2.1, HS.out.2.2, ⟨_, rfl⟩⟩
            case measure => simp [intOf]; omega
    · have e : k = bs.length := by omega
      have h1 := HV.out
      rw [List.take_of_length_le (by rw [List.length_zipIdx, List.length_map, H.out.len]; omega)] at h1
      have H1 := Lib.hid h1; clear h1
      have HE := Lib.hid e; clear e
      go_wp2
      go_ret
      exact ⟨ret_val H1.out, nd, rfl⟩
end Go.Proofs.Ytikikddkhikfkaa
