/-
  findProposer: the walk. By the session. checkAllKeysHaveSameType, and the methods of a plain key: walks. By the session. impl.seats: the walk. By the session. laws.same at one and the same list: walks. By the session.
-/
import Derived.Test.YtikikddkhikfkaaGreatDoorCh3
import Derived.Test.YtikikddkhikfkaaGreatDoorRows
import Derived.Test.YtikikddkhikfkaaGreatDoorCh1
import Derived.Laws.IdiomStrings
namespace Go.Proofs.YtikikddkhikfkaaGreatDoor
open Go.RowKit

def pstep (best : Option (Sd × Nat)) (p : Sd × Nat) : Option (Sd × Nat) :=
  match best with
  | none => some p
  | some q => if q.1.adr.toList == p.1.adr.toList || aheadB q.1 p.1 then some q else some p
def propOf (l : List Sd) : Option (Sd × Nat) := l.zipIdx.foldl pstep none
def pval (bs : List Nat) : Option (Sd × Nat) → Value
  | none => .pointer none
  | some q => ptrTo (bs.getD q.2 0)

set_option maxRecDepth 100000 in
set_option maxHeartbeats 3200000 in
theorem find_any (lo g : Nat) (A : Option Addr) (c : Nat) (bs : List Nat) (ts : List Tv) (prop : Value) (tot : Int) (same : Bool) (w : World) (h : VSet w lo g A c bs ts prop tot same) (hn : bs.length ≤ 1000000) :
    Calls Tryz.prog 64 #[ptrTo g] w fun e w' => e = .returned (pval bs (propOf (ts.map Tv.x))) ∧ ∃ n, w' = w.drewN n := by
  unfold ptrTo
  have h0 : w.cell? ⟨g, 0, none⟩ = some (.slice A bs.length c) := h.head.cell 0
  have H := Lib.hid h; clear h
  go_enter Tryz.func64, Tryz.ntmps64
  go_wp2
  go_loopw [3, 11] (fun v i wr => ∃ k : Nat, k ≤ bs.length ∧ i = .int .i64 k ∧ Hid (v = pval bs (((ts.map Tv.x).zipIdx.take k).foldl pstep none)) ∧ Hid (∀ q, ((ts.map Tv.x).zipIdx.take k).foldl pstep none = some q → ∃ b t, bs[q.2]? = some b ∧ ts[q.2]? = some t ∧ t.x = q.1) ∧ Hid (k ≠ 0 → ((ts.map Tv.x).zipIdx.take k).foldl pstep none ≠ none) ∧ Hid (∃ n, wr = w.drewN n)) (fun _ i _ => bs.length - (intOf i).toNat)
  case atStart => exact ⟨0, Nat.zero_le _, rfl, rfl, (fun q hq => by simp at hq), (fun h => absurd rfl h), ⟨0, rfl⟩⟩
  case round =>
    obtain ⟨k, hk, rfl, HV, HQ, HZ, HW⟩ := hrel
    obtain ⟨nd, hnd⟩ := HW.out
    subst hnd
    by_cases hlt : k < bs.length
    · obtain ⟨b, t, hb, ht⟩ := H.out.at_ hlt
      obtain ⟨r, rfl, _, hp⟩ := H.out.ptr hb
      obtain ⟨_, hbv, hok⟩ := H.out.vals k b t hb ht
      obtain ⟨c0, c1, c2, c3⟩ := t.val_cells hbv
      have hxk : (ts.map Tv.x).zipIdx[k]? = some (t.x, k) := by rw [List.getElem?_zipIdx, List.getElem?_map, ht]; simp
      have hnx := foldl_take_succ pstep none (ts.map Tv.x).zipIdx k _ hxk
      have HNX := Lib.hid hnx; have HXK := Lib.hid hxk; have HB := Lib.hid hb; have HT := Lib.hid ht; have HBV := Lib.hid hbv; have HOK := Lib.hid hok
      clear hnx hxk hb ht hbv hok
      cases hbest : ((ts.map Tv.x).zipIdx.take k).foldl pstep none with
      | none =>
        have e : u3 = Value.pointer none := by have := HV.out; rw [hbest] at this; exact this
        subst e
        have hn1 : ((ts.map Tv.x).zipIdx.take (k + 1)).foldl pstep none = some (t.x, k) := by rw [HNX.out, hbest]; rfl
        have HN1 := Lib.hid hn1; have HBE := Lib.hid hbest; clear hn1 hbest
        go_wp2_with fail
        go_quiet (fail)
        go_wp2_with (go_at_call 96; refine (cmp_nil b _).mono ?_; rintro e w1 ⟨rfl, rfl⟩)
        go_roundw
        case rel => exact ⟨k + 1, by omega, by go_num, by rw [HN1.out]; show _ = ptrTo (bs.getD k 0); rw [List.getD_eq_getElem?_getD, HB.out]; rfl, (fun q hq => by rw [HN1.out] at hq; cases hq; exact ⟨b, t, HB.out, HT.out, rfl⟩), (fun _ hq => by rw [HN1.out] at hq; cases hq), ⟨_, rfl⟩⟩
        case measure => simp [intOf]; omega
      | some q =>
        obtain ⟨b', t', hb', ht', hx'⟩ := HQ.out q hbest
        have e : u3 = Value.pointer (some ⟨b', 0, none⟩) := by
          have := HV.out; rw [hbest] at this
          rw [this]; show ptrTo (bs.getD q.2 0) = _
          rw [List.getD_eq_getElem?_getD, hb']; rfl
        subst e
        obtain ⟨_, hbv', hok'⟩ := H.out.vals q.2 b' t' hb' ht'
        obtain ⟨d0, d1, d2, d3⟩ := t'.val_cells hbv'
        have hn1 : ((ts.map Tv.x).zipIdx.take (k + 1)).foldl pstep none = if t'.x.adr.toList == t.x.adr.toList || aheadB t'.x t.x then some q else some (t.x, k) := by rw [HNX.out, hbest, hx']; rfl
        have stay : ((ts.map Tv.x).zipIdx.take (k + 1)).foldl pstep none = some q → Hid (Value.pointer (some ⟨b', 0, none⟩) = pval bs (((ts.map Tv.x).zipIdx.take (k + 1)).foldl pstep none)) ∧ Hid (∀ q, ((ts.map Tv.x).zipIdx.take (k + 1)).foldl pstep none = some q → ∃ b t, bs[q.2]? = some b ∧ ts[q.2]? = some t ∧ t.x = q.1) ∧ Hid (k + 1 ≠ 0 → ((ts.map Tv.x).zipIdx.take (k + 1)).foldl pstep none ≠ none) := fun e => by
          rw [e]
          exact ⟨by show _ = ptrTo (bs.getD q.2 0); rw [List.getD_eq_getElem?_getD, hb']; rfl, (fun q1 hq => by cases hq; exact ⟨b', t', hb', ht', hx'⟩), (fun _ hq => by cases hq)⟩
        have HSTAY := Lib.hid stay; clear stay
        have move : ((ts.map Tv.x).zipIdx.take (k + 1)).foldl pstep none = some (t.x, k) → Hid (Value.pointer (some ⟨b, 0, none⟩) = pval bs (((ts.map Tv.x).zipIdx.take (k + 1)).foldl pstep none)) ∧ Hid (∀ q, ((ts.map Tv.x).zipIdx.take (k + 1)).foldl pstep none = some q → ∃ b t, bs[q.2]? = some b ∧ ts[q.2]? = some t ∧ t.x = q.1) ∧ Hid (k + 1 ≠ 0 → ((ts.map Tv.x).zipIdx.take (k + 1)).foldl pstep none ≠ none) := fun e => by
          rw [e]
          exact ⟨by show _ = ptrTo (bs.getD k 0); rw [List.getD_eq_getElem?_getD, HB.out]; rfl, (fun q1 hq => by cases hq; exact ⟨b, t, HB.out, HT.out, rfl⟩), (fun _ hq => by cases hq)⟩
        have HMOVE := Lib.hid move; clear move
        have HN1 := Lib.hid hn1; have HBE := Lib.hid hbest; have HB' := Lib.hid hb'; have HT' := Lib.hid ht'; have HX' := Lib.hid hx'; have HBV' := Lib.hid hbv'; have HOK' := Lib.hid hok'
        clear hn1 hbest hb' ht' hx' hbv' hok'
        have HE := Lib.hid (fun W (hW : t.ok W ∧ t'.ok W) => bequal_any t.x.adr t'.x.adr t.A t'.A t.c t'.c W hW.1.1 hW.2.1)
        cases heq : t.x.adr.toList == t'.x.adr.toList with
        | true =>
          have e1 : (t'.x.adr.toList == t.x.adr.toList) = true := by have := eq_of_beq heq; rw [this]; simp
          have HS := Lib.hid (HSTAY.out (by rw [HN1.out, e1]; rfl))
          rw [heq] at HE
          have HQ2 := Lib.hid heq; clear heq e1
          go_wp2_with fail
          go_quiet ((go_at_call 95; first | exact quietA (HE.out _ ⟨HOK.out, HOK'.out⟩) | exact quietL (HE.out _ ⟨HOK.out, HOK'.out⟩)))
          go_wp2
          go_roundw
          case rel => exact ⟨k + 1, by omega, by go_num, HS.out.1, HS.out.2.1, HS.out.2.2, ⟨_, rfl⟩⟩
          case measure => simp [intOf]; omega
        | false =>
          have hne : t'.x.adr.toList ≠ t.x.adr.toList := by intro e; rw [e] at heq; simp at heq
          have e1 : (t'.x.adr.toList == t.x.adr.toList) = false := by simpa using hne
          rw [heq] at HE
          have HNE := Lib.hid hne; have HE1 := Lib.hid e1; have HQ2 := Lib.hid heq; clear hne e1 heq
          cases hah : aheadB t'.x t.x with
          | true =>
            have HS := Lib.hid (HSTAY.out (by rw [HN1.out, HE1.out, hah]; rfl))
            have HAH := Lib.hid hah; clear hah
            have HCY := Lib.hid (fun n => cmp_yes b' b t' t (w.drewN n) (HBV'.out.drewN n) (HBV.out.drewN n) (HOK'.out.drewN n) (HOK.out.drewN n) HAH.out)
            go_wp2_with fail
            go_quiet ((go_at_call 95; first | exact quietA (HE.out _ ⟨HOK.out, HOK'.out⟩) | exact quietL (HE.out _ ⟨HOK.out, HOK'.out⟩)))
            go_wp2_with (go_at_call 96; refine (HCY.out _).mono ?_; rintro e w1 ⟨rfl, nd2, rfl⟩)
            go_roundw
            case rel => exact ⟨k + 1, by omega, by go_num, HS.out.1, HS.out.2.1, HS.out.2.2, ⟨_, rfl⟩⟩
            case measure => simp [intOf]; omega
          | false =>
            have HS := Lib.hid (HMOVE.out (by rw [HN1.out, HE1.out, hah]; rfl))
            have HAH := Lib.hid hah; clear hah
            have HCY := Lib.hid (fun n => cmp_no b' b t' t (w.drewN n) (HBV'.out.drewN n) (HBV.out.drewN n) (HOK'.out.drewN n) (HOK.out.drewN n) HAH.out (.inr HNE.out))
            go_wp2_with fail
            go_quiet ((go_at_call 95; first | exact quietA (HE.out _ ⟨HOK.out, HOK'.out⟩) | exact quietL (HE.out _ ⟨HOK.out, HOK'.out⟩)))
            go_wp2_with (go_at_call 96; refine (HCY.out _).mono ?_; rintro e w1 ⟨rfl, nd2, rfl⟩)
            go_roundw
            case rel => exact ⟨k + 1, by omega, by go_num, HS.out.1, HS.out.2.1, HS.out.2.2, ⟨_, rfl⟩⟩
            case measure => simp [intOf]; omega
    · have e : k = bs.length := by omega
      have h1 := HV.out
      rw [List.take_of_length_le (by rw [List.length_zipIdx, List.length_map, H.out.len]; omega)] at h1
      have H1 := Lib.hid h1; clear h1
      have HE := Lib.hid e; clear e
      go_wp2
      go_ret
      exact ⟨ret_val H1.out, nd, rfl⟩
end Go.Proofs.YtikikddkhikfkaaGreatDoor

namespace Go.Proofs.YtikikddkhikfkaaGreatDoor
open Go.RowKit

def plainS : ByteArray := ⟨#[112, 108, 97, 105, 110]⟩
theorem method_type (A B : Option Addr) (n c m d : Nat) (w : World) : (method 451 132 (.agg #[.slice A n c, .slice B m d, .bool false]) "Type").run Tryz.prog w = .ok (243, .agg #[.slice A n c, .slice B m d, .bool false]) w := by kernel_rfl
theorem method_bytes (A B : Option Addr) (n c m d : Nat) (w : World) : (method 451 132 (.agg #[.slice A n c, .slice B m d, .bool false]) "Bytes").run Tryz.prog w = .ok (242, .agg #[.slice A n c, .slice B m d, .bool false]) w := by kernel_rfl

set_option maxHeartbeats 400000 in
theorem type_any (A B : Option Addr) (n c m d : Nat) (w : World) :
    Calls Tryz.prog 243 #[.agg #[.slice A n c, .slice B m d, .bool false]] w fun e w' => e = .returned (.string ⟨#[112, 108, 97, 105, 110]⟩) ∧ Below w.heap.size w w' := by
  go_enter Tryz.func243, Tryz.ntmps243
  go_wp2
  go_ret
  exact ⟨rfl, (Below.refl _ _).alloc (Nat.le_refl _) _⟩
set_option maxHeartbeats 400000 in
theorem kbytes_any (A B : Option Addr) (n c m d : Nat) (w : World) :
    Calls Tryz.prog 242 #[.agg #[.slice A n c, .slice B m d, .bool false]] w fun e w' => e = .returned (.slice A n c) ∧ Below w.heap.size w w' := by
  go_enter Tryz.func242, Tryz.ntmps242
  go_wp2
  go_ret
  exact ⟨rfl, (Below.refl _ _).alloc (Nat.le_refl _) _⟩

set_option maxHeartbeats 400000 in
theorem size_any (g n c : Nat) (A : Option Addr) (w : World) (h : w.cell? ⟨g, 0, none⟩ = some (.slice A n c)) :
    Calls Tryz.prog 94 #[.pointer (some ⟨g, 0, none⟩)] w fun e w' => e = .returned (.int .i64 n) ∧ w = w' := by
  go_enter Tryz.func94, Tryz.ntmps94
  go_wp2
  go_ret
  exact ⟨rfl, rfl⟩

set_option maxRecDepth 100000 in
set_option maxHeartbeats 1600000 in
theorem keys_any (lo g : Nat) (A : Option Addr) (c : Nat) (bs : List Nat) (ts : List Tv) (prop : Value) (tot : Int) (same : Bool) (w : World) (h : VSet w lo g A c bs ts prop tot same) (hn : bs.length ≤ 1000000) :
    Calls Tryz.prog 63 #[ptrTo g] w fun e w' => e = .returned (.tuple #[]) ∧ VSet w' lo g A c bs ts prop tot true ∧ w.grownBy w' (some g) := by
  unfold ptrTo
  have h0 : w.cell? ⟨g, 0, none⟩ = some (.slice A bs.length c) := h.head.cell 0
  have h3 : w.cell? ⟨g, 3, none⟩ = some (.bool same) := h.head.cell 3
  have hf := h.head.free
  have hg := h.head.lt
  have H := Lib.hid h; clear h
  have fin : ∀ wr, Below w.heap.size w wr → Hid (VSet (wr.setCell ⟨g, 3, none⟩ (.bool true)) lo g A c bs ts prop tot true ∧ w.grownBy (wr.setCell ⟨g, 3, none⟩ (.bool true)) (some g)) := fun wr hb => by
    have hv := H.out.keep (KeepV.of_below lo hb (Nat.le_refl _))
    exact ⟨hv.mark, (grownAny_of hb (some g)).trans (grown_put wr g 3 _)⟩
  have FIN := Lib.hid fin; clear fin
  by_cases hz : bs.length = 0
  · have hz' : ((bs.length : Int) == 0) = true := by simpa using hz
    have HZ := Lib.hid hz; clear hz
    go_enter Tryz.func63, Tryz.ntmps63
    go_wp2_with (go_at_call 94; refine (size_any g bs.length c A w h0).mono ?_; rintro e w' ⟨rfl, rfl⟩)
    refine bodyPost_ret (results_none rfl _ _ _) rfl ?_
    exact ⟨rfl, FIN.out w (Below.refl _ _)⟩
  · have hz' : ((bs.length : Int) == 0) = false := by simpa using hz
    go_enter Tryz.func63, Tryz.ntmps63
    go_wp2_with (go_at_call 94; refine (size_any g bs.length c A w h0).mono ?_; rintro e w' ⟨rfl, rfl⟩)
    go_loopw [2, 16] (fun v i wr => ∃ k : Nat, k ≤ bs.length ∧ i = .int .i64 k ∧ Hid (v = if k = 0 then .string ⟨#[]⟩ else .string ⟨#[112, 108, 97, 105, 110]⟩) ∧ Hid (Below w.heap.size w wr)) (fun _ i _ => bs.length - (intOf i).toNat)
    case atStart => exact ⟨0, Nat.zero_le _, rfl, rfl, Below.refl _ _⟩
    case round =>
      obtain ⟨k, hk, rfl, HV, HW⟩ := hrel
      have hg' : g < wr.heap.size := by have := HW.out.size; omega
      have hzz := HW.out.size
      have h0' : wr.cell? ⟨g, 0, none⟩ = some (.slice A bs.length c) := (HW.out.cell (p := ⟨g, 0, none⟩) hg).trans h0
      have h3' : wr.cell? ⟨g, 3, none⟩ = some (.bool same) := (HW.out.cell (p := ⟨g, 3, none⟩) hg).trans h3
      have hf' : wr.frozen? ⟨g, 3, none⟩ = false := (HW.out.frozen (p := ⟨g, 3, none⟩) hg).trans (hf 3)
      by_cases hlt : k < bs.length
      · have hv := H.out.keep (KeepV.of_below lo HW.out (Nat.le_refl _))
        obtain ⟨b, t, hb, ht⟩ := hv.at_ hlt
        obtain ⟨r, rfl, _, hp⟩ := hv.ptr hb
        obtain ⟨_, hbv, hok⟩ := hv.vals k b t hb ht
        obtain ⟨c0, c1, c2, c3⟩ := t.val_cells hbv
        have hbl := hbv.lt
        have c1' : ∀ W, Below wr.heap.size wr W → W.cell? ⟨b, 1, none⟩ = some (.iface 132 (.agg #[.slice t.K t.x.key.size t.d, .slice t.A t.x.adr.size t.c, .bool false])) := fun W hW => (hW.cell (p := ⟨b, 1, none⟩) hbl).trans c1
        have HC1 := Lib.hid c1'
        have HB := Lib.hid hb; have HT := Lib.hid ht; have HBV := Lib.hid hbv; have HOK := Lib.hid hok; have HVV := Lib.hid hv
        clear hb ht hbv hok hv c1'
        have km := fun W => method_type t.K t.A t.x.key.size t.d t.x.adr.size t.c W
        by_cases hk0 : k = 0
        · have e : u2 = .string ⟨#[]⟩ := by have := HV.out; rw [if_pos hk0] at this; exact this
          subst e
          have HK0 := Lib.hid hk0; clear hk0 HV
          go_wp2_with fail
          refine (type_any _ _ _ _ _ _ _).mono ?_
          rintro e w1 ⟨rfl, hb1⟩
          have d1 := HC1.out _ hb1
          go_wp2_with fail
          refine (type_any _ _ _ _ _ _ _).mono ?_
          rintro e w2 ⟨rfl, hb2⟩
          go_wp2
          go_roundw
          case rel => exact ⟨k + 1, by omega, by go_num, (by show _ = _; rw [if_neg (by omega)]), HW.out.trans ((hb1.trans (hb2.mono hb1.size)).mono hzz)⟩
          case measure => simp [intOf]; omega
        · have e : u2 = .string ⟨#[112, 108, 97, 105, 110]⟩ := by have := HV.out; rw [if_neg hk0] at this; exact this
          subst e
          have HK0 := Lib.hid hk0; clear hk0 HV
          go_wp2_with fail
          refine (type_any _ _ _ _ _ _ _).mono ?_
          rintro e w2 ⟨rfl, hb2⟩
          go_wp2
          go_roundw
          case rel => exact ⟨k + 1, by omega, by go_num, (by show _ = _; rw [if_neg (by omega)]), HW.out.trans (hb2.mono hzz)⟩
          case measure => simp [intOf]; omega
      · have HF := Lib.hid (FIN.out wr HW.out)
        clear HV
        go_wp2
        go_end0
        exact ⟨rfl, HF.out.out⟩
end Go.Proofs.YtikikddkhikfkaaGreatDoor

namespace Go.Proofs.YtikikddkhikfkaaGreatDoor
open Go.RowKit

theorem infoTSeat : (Tryz.prog.info? 130).map (fun i => (i.zero, i.size, i.bytes)) = some (some (.agg #[.slice none 0 0, .slice none 0 0, .int .i64 0, .int .i64 0]), 4, 64) := by kernel_rfl

set_option maxRecDepth 100000 in
set_option maxHeartbeats 1600000 in
theorem seats_any (l : List Sd) (A : Option Addr) (n c : Nat) (w : World) (hr : Rd w w.heap.size 4 A n (cellsOf l)) (hn : n ≤ 1000000) :
    Calls Tryz.prog 34 #[.slice A n c] w fun e w' => ∃ (A' : Option Addr) (c' : Nat) (ts : List Tv), e = .returned (.slice A' n c') ∧ Rd w' w'.heap.size 4 A' n (ts.flatMap Tv.seat) ∧ ts.map Tv.x = l ∧ (∀ t ∈ ts, t.ok w') ∧ Below w.heap.size w w' := by
  obtain ⟨i0, hi0, hz0, hz1, hz2⟩ := info_parts infoTSeat
  have HI := Lib.hid hi0; have HZ0 := Lib.hid hz0; have HZ1 := Lib.hid hz1; have HZ2 := Lib.hid hz2
  clear hi0 hz0 hz1 hz2
  have HL := Lib.hid hr.len
  have HR := Lib.hid hr; clear hr
  go_enter Tryz.func34, Tryz.ntmps34
  go_wp2
  go_loopw [3, 8] (fun v i wr => ∃ (k : Nat) (A1 : Option Addr) (c1 : Nat) (ts : List Tv), k ≤ n ∧ i = .int .i64 k ∧ v = .slice A1 k c1 ∧ Hid (ts.map Tv.x = l.take k) ∧ Hid (∀ t ∈ ts, t.ok wr) ∧ Hid (wr.ownsRow w.heap.size 130 4 (.slice A1 k c1) k (ts.flatMap Tv.seat)) ∧ Hid (Below w.heap.size w wr)) (fun _ i _ => n - (intOf i).toNat)
  case atStart => exact ⟨0, none, 0, [], Nat.zero_le _, rfl, rfl, rfl, (by intro t h; cases h), World.ownsRow_nil w w.heap.size _ _, Below.refl _ _⟩
  case round =>
    obtain ⟨k, A1, c1, ts, hk, rfl, rfl, HM, HK, HO, HB⟩ := hrel
    have hz := HB.out.size
    by_cases hlt : k < n
    · have hk' : k < l.length := by have := HL.out; omega
      have hx : l[k]? = some l[k] := List.getElem?_eq_getElem hk'
      obtain ⟨ad, rfl, _, c0, c1', c2, c3⟩ := (HR.out.below HB.out).seat hx
      have hst : l.take (k + 1) = l.take k ++ [l[k]] := List.take_succ_eq_append_getElem hk'
      generalize l[k] = x at *
      have HST := Lib.hid hst; have HXX := Lib.hid hx
      clear hst hx
      obtain ⟨f1, kc⟩ := run_conv (P := Tryz.prog) 9 40 Tryz.underlying9 Tryz.underlying40 Tryz.underlying5 x.adr
      obtain ⟨f2, kd⟩ := run_conv (P := Tryz.prog) 9 40 Tryz.underlying9 Tryz.underlying40 Tryz.underlying5 x.key
      go_wp2_with (at_builtin; refine wpList_app _ rfl (.tmp 12) (.tmp 24) 77 rfl w.heap.size 130 i0 _ 4 64 Tryz.underlying77 HI.out HZ0.out HZ1.out HZ2.out rfl (by decide) (.slice A1 k c1) k (ts.flatMap Tv.seat) rfl ?ho (wr.heap.size + 1 + 1 + 1 + 1) (some ⟨wr.heap.size + 1 + 1 + 1, 0, none⟩) 1 1 (Tv.seat ⟨x, some ⟨wr.heap.size + 1, 0, none⟩, f1 (wr.alloc (.cells #[.string x.adr, .string x.key, .int .i64 x.pow, .int .i64 x.pri] 28)), some ⟨wr.heap.size + 1 + 1, 0, none⟩, f2 (((wr.alloc (.cells #[.string x.adr, .string x.key, .int .i64 x.pow, .int .i64 x.pri] 28)).alloc (bObj x.adr (f1 (wr.alloc (.cells #[.string x.adr, .string x.key, .int .i64 x.pow, .int .i64 x.pri] 28))))).drew)⟩) rfl ?hr (Tv.seat_one _) ?q1 ?q2 ?hb ?_; (case q1 => simp only [maxLen]; omega); (case q2 => omega); (case hr => refine Rd.drew (Rd.drew (Rd.new _ _ _ 4 1 _ rfl ?_)); simp); (case ho => exact ((((HO.out.alloc _).alloc _).alloc _).alloc _)); (case hb => simp; omega); intro A2 c2 w2 hown2 hg2 _; rw [flat_snoc] at hown2)
      go_roundw
      case rel =>
        refine ⟨k + 1, A2, c2, _, by omega, by go_num, rfl, ?_, ?_, hown2, ?_⟩
        · show List.map _ _ = _
          rw [HST.out, ← HM.out]; simp
        · have k2 : KeepB (((wr.alloc (.cells #[.string x.adr, .string x.key, .int .i64 x.pow, .int .i64 x.pri] 28)).alloc (bObj x.adr (f1 (wr.alloc (.cells #[.string x.adr, .string x.key, .int .i64 x.pow, .int .i64 x.pri] 28))))).alloc (bObj x.key (f2 (((wr.alloc (.cells #[.string x.adr, .string x.key, .int .i64 x.pow, .int .i64 x.pri] 28)).alloc (bObj x.adr (f1 (wr.alloc (.cells #[.string x.adr, .string x.key, .int .i64 x.pow, .int .i64 x.pri] 28))))).drew)))) w2 := KeepB.trans (b := World.alloc _ _) (KeepB.alloc _ _) (KeepB.of_grown (w := World.drew (World.drew _)) hg2 (own_block_ne (w := wr) HO.out (by decide) (((((Below.refl wr.heap.size wr).alloc (Nat.le_refl _) _).alloc (by simp) _).alloc (by simp; omega) _).alloc (by simp; omega) _).block))
          intro t ht
          rcases List.mem_append.1 ht with ht | ht
          · exact ((((HK.out t ht).keep (KeepB.alloc _ _)).keep (KeepB.alloc _ _)).keep (KeepB.alloc _ _)).keep k2
          · obtain rfl := List.mem_singleton.1 ht
            exact ⟨((Byt.conv _ _ _ _ (by simp)).keep (KeepB.alloc _ _)).keep k2, (Byt.conv _ _ _ _ (by simp)).keep k2⟩
        · exact ((((HB.out.alloc hz _).alloc (by simp; omega) _).alloc (by simp; omega) _).alloc (by simp; omega) _).drew.drew.grown hg2 (by simp; omega) (own_base HO.out)
      case measure => simp [intOf]; omega
    · obtain rfl : k = n := by omega
      have h1 := HO.out
      have h2 := HM.out
      rw [List.take_of_length_le (by have := HL.out; omega)] at h2
      have H1 := Lib.hid (Rd.of_own h1); clear h1
      have H2 := Lib.hid h2; clear h2
      go_wp2
      go_ret
      exact ⟨A1, c1, ts, rfl, H1.out, H2.out, HK.out, HB.out⟩
end Go.Proofs.YtikikddkhikfkaaGreatDoor

namespace Go.Proofs.YtikikddkhikfkaaGreatDoor
open Go.RowKit

set_option maxHeartbeats 400000 in
theorem cl_same (x : Sd) (w : World) :
    Calls Tryz.prog 42 #[.agg #[.string x.adr, .string x.key, .int .i64 x.pow, .int .i64 x.pri], .agg #[.string x.adr, .string x.key, .int .i64 x.pow, .int .i64 x.pri]] w fun e w' => e = .returned (.bool true) ∧ Below w.heap.size w w' := by
  go_enter Tryz.func42, Tryz.ntmps42
  go_wp2
  go_ret
  exact ⟨rfl, ((Below.refl _ _).alloc (Nat.le_refl _) _).alloc (by simp) _⟩

set_option maxHeartbeats 800000 in
theorem equal_same (l : List Sd) (A B : Option Addr) (n c d : Nat) (w : World) (hr : Rd w w.heap.size 4 A n (cellsOf l)) (hs : Rd w w.heap.size 4 B n (cellsOf l)) (hn : n ≤ 1000000) :
    Calls Tryz.prog 41 #[.slice A n c, .slice B n d, .func (.func 42) #[] #[]] w fun e w' => e = .returned (.bool true) ∧ Below w.heap.size w w' := by
  have HL := Lib.hid hr.len
  have HR := Lib.hid hr; have HS := Lib.hid hs; clear hr hs
  go_enter Tryz.func41, Tryz.ntmps41
  go_wp2
  go_loopw [17] (fun i wr => ∃ k : Nat, k ≤ n ∧ i = .int .i64 k ∧ Hid (Below w.heap.size w wr)) (fun i _ => n - (intOf i).toNat)
  case atStart => exact ⟨0, Nat.zero_le _, rfl, Below.refl _ _⟩
  case round =>
    obtain ⟨k, hk, rfl, HB⟩ := hrel
    have hz := HB.out.size
    by_cases hlt : k < n
    · have hk' : k < l.length := by have := HL.out; omega
      have hx : l[k]? = some l[k] := List.getElem?_eq_getElem hk'
      obtain ⟨ad, rfl, ha, c0, c1, c2, c3⟩ := (HR.out.below HB.out).seat hx
      obtain ⟨bd, rfl, hb, e0, e1, e2, e3⟩ := (HS.out.below HB.out).seat hx
      generalize l[k] = x at *
      clear hx
      have hb2 : (bd.add (k * 4)).block < wr.heap.size := by rw [add_block]; omega
      have E0 := fun o => (World.cell?_alloc_lt wr o (bd.add (k * 4)) hb2).trans e0
      have E1 := fun o => (World.cell?_alloc_lt wr o ⟨(bd.add (k * 4)).block, (bd.add (k * 4)).off + 1, none⟩ hb2).trans e1
      have E2 := fun o => (World.cell?_alloc_lt wr o ⟨(bd.add (k * 4)).block, (bd.add (k * 4)).off + 2, none⟩ hb2).trans e2
      have E3 := fun o => (World.cell?_alloc_lt wr o ⟨(bd.add (k * 4)).block, (bd.add (k * 4)).off + 3, none⟩ hb2).trans e3
      clear e0 e1 e2 e3 ha hb hb2
      go_wp2_with (go_at_call 42; refine (cl_same x _).mono ?_; rintro e w1 ⟨rfl, hb1⟩)
      go_roundw
      case rel => exact ⟨k + 1, by omega, by go_num, HB.out.trans ((((Below.refl _ _).alloc (Nat.le_refl _) _).alloc (by simp) _ |>.trans (hb1.mono (by simp; omega))).mono hz)⟩
      case measure => simp [intOf]; omega
    · obtain rfl : k = n := by omega
      go_wp2
      go_ret
      exact ⟨rfl, HB.out⟩

theorem same_any (l : List Sd) (A B : Option Addr) (n c d : Nat) (w : World) (hr : Rd w w.heap.size 4 A n (cellsOf l)) (hs : Rd w w.heap.size 4 B n (cellsOf l)) (hn : n ≤ 1000000) :
    Calls Tryz.prog 14 #[.slice A n c, .slice B n d] w fun e w' => e = .returned (.bool true) ∧ Below w.heap.size w w' := by
  have HC := Lib.hid (equal_same l A B n c d w hr hs hn)
  clear hr hs
  go_enter Tryz.func14, Tryz.ntmps14
  go_wp2_with (go_at_call 41; refine HC.out.mono ?_; rintro e w1 ⟨rfl, hb1⟩)
  go_ret
  exact ⟨rfl, hb1⟩
end Go.Proofs.YtikikddkhikfkaaGreatDoor
