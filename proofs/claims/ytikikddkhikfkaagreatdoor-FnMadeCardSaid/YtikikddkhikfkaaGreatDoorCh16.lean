/-
  verifyUpdates: the walk. By the session.
-/
import Derived.Test.YtikikddkhikfkaaGreatDoorCh15
import Derived.Test.YtikikddkhikfkaaGreatDoorCh10
import Derived.Laws.EntriesVeiled
set_option linter.all false
namespace Go.Proofs.YtikikddkhikfkaaGreatDoor
open Go.RowKit

def sumD (vals : List Sd) : List Sd → Int
  | [] => 0
  | u :: r => deltaL vals u + sumD vals r
theorem sumD_append (vals l l' : List Sd) : sumD vals (l ++ l') = sumD vals l + sumD vals l' := by
  induction l with
  | nil => simp [sumD]
  | cons x r ih => simp only [List.cons_append, sumD, ih]; omega
theorem sumD_perm (vals : List Sd) {l l' : List Sd} (h : l.Perm l') : sumD vals l = sumD vals l' := by
  induction h with
  | nil => rfl
  | cons x _ ih => simp only [sumD, ih]
  | swap x y l => simp only [sumD]; omega
  | trans _ _ a b => exact a.trans b
theorem deltaL_bd {vals : List Sd} (h : ∀ x ∈ vals, 0 ≤ x.pow ∧ x.pow ≤ 1125899906842624) (u : Sd) (hu : 0 ≤ u.pow ∧ u.pow ≤ 1152921504606846975) : -1125899906842624 ≤ deltaL vals u ∧ deltaL vals u ≤ 1152921504606846975 := by
  unfold deltaL seatAt
  split
  · rename_i v hv
    split at hv
    · cases hv
    · have := h v (List.mem_of_getElem? hv); omega
  · omega
theorem sumD_low {vals : List Sd} (h : ∀ x ∈ vals, 0 ≤ x.pow ∧ x.pow ≤ 1125899906842624) (l : List Sd) (hl : ∀ u ∈ l, 0 ≤ u.pow ∧ u.pow ≤ 1152921504606846975) : -(1125899906842624 * (l.length : Int)) ≤ sumD vals l := by
  induction l with
  | nil => simp [sumD]
  | cons x r ih =>
    have := deltaL_bd h x (hl x List.mem_cons_self)
    have := ih fun u hu => hl u (List.mem_cons_of_mem _ hu)
    simp only [sumD, List.length_cons]
    omega
theorem sumD_pos {vals l : List Sd} (h : ∀ u ∈ l, 0 ≤ deltaL vals u) : 0 ≤ sumD vals l := by
  induction l with
  | nil => exact Int.le_refl _
  | cons x r ih =>
    have := h x List.mem_cons_self
    have := ih fun u hu => h u (List.mem_cons_of_mem _ hu)
    simp only [sumD]; omega
/-- what passes the greatest power passes it to the end -/
theorem sumD_over {vals l : List Sd} (hs : l.Pairwise fun x y => deltaL vals x ≤ deltaL vals y) {k : Nat} {x : Sd} (hx : l[k]? = some x) {P M : Int} (h1 : P + sumD vals (l.take k) ≤ M) (h2 : M < P + sumD vals (l.take k) + deltaL vals x) : M < P + sumD vals l := by
  have hk := List.getElem?_eq_some_iff.1 hx
  have e : l = l.take k ++ (x :: l.drop (k + 1)) := by
    rw [← hk.2, ← List.drop_eq_getElem_cons hk.1, List.take_append_drop]
  have hp : 0 ≤ sumD vals (l.drop (k + 1)) := sumD_pos fun u hu => by
    rw [e] at hs
    have := (List.pairwise_cons.1 (List.pairwise_append.1 hs).2.1).1 u hu
    omega
  have := sumD_append vals (l.take k) (x :: l.drop (k + 1))
  rw [← e] at this
  simp only [sumD] at this
  omega
theorem VSet.low {w : World} {lo g : Nat} {A : Option Addr} {c : Nat} {bs : List Nat} {ts : List Tv} {prop : Value} {tot : Int} {same : Bool} (h : VSet w lo g A c bs ts prop tot same) : VLow w.heap.size g A bs :=
  ⟨h.head.lt, fun a ha => by
    rcases h.row.2 with ⟨e, _⟩ | ⟨g', cap, cur, hv, _, hh, _⟩
    · injection e with e; rw [ha] at e; cases e
    · injection hv with hv; rw [ha] at hv; cases hv; exact lt_of_heap hh, fun b hb => (h.mem_lo hb).2⟩
/-- what the loop of verifyUpdates stands on -/
structure UpdS (w : World) (lo g : Nat) (A : Option Addr) (c : Nat) (bs : List Nat) (ts : List Tv) (prop : Value) (tot : Int) (same : Bool) (b1 b2 b3 lo' : Nat) (A' : Option Addr) (c' : Nat) (bu : List Nat) (tu : List Tv) : Prop where
  set_ : VSet w lo g A c bs ts prop tot same
  row : VRow w lo' A' c' bu tu
  c1 : Blk w b1 75 #[.pointer (some ⟨g, 0, none⟩)]
  c2 : Blk w b2 215 #[.func (.func 132) #[] #[]]
  c3 : Blk w b3 125 #[.slice A' bu.length c']
theorem own_mono {w : World} {base base' e size : Nat} {v : Value} {n : Nat} {xs : List Value} (h : w.ownsRow base e size v n xs) (hb : base' ≤ base) : w.ownsRow base' e size v n xs :=
  ⟨h.1, h.2.imp id fun ⟨g, cap, cur, h1, h2, h3⟩ => ⟨g, cap, cur, h1, Nat.le_trans hb h2, h3⟩⟩
theorem VRow.mono {w : World} {lo lo' : Nat} {A : Option Addr} {c : Nat} {bs : List Nat} {ts : List Tv} (h : VRow w lo A c bs ts) (hl : lo' ≤ lo) : VRow w lo' A c bs ts :=
  ⟨own_mono h.row hl, h.len, h.nodup, fun j b t hb ht => ⟨Nat.le_trans hl (h.vals j b t hb ht).1, (h.vals j b t hb ht).2⟩⟩
theorem VSet.grown {w w' : World} {lo g N r : Nat} {A : Option Addr} {c : Nat} {bs : List Nat} {ts : List Tv} {prop : Value} {tot : Int} {same : Bool} (h : VSet w lo g A c bs ts prop tot same) (hl : VLow N g A bs) (hg : w.grownBy w' (some r)) (hr : N ≤ r) (hN : N ≤ w.heap.size) (kb : KeepB w w') : VSet w' lo g A c bs ts prop tot same :=
  h.keepLow hl kb (fun i hi => by
    obtain ⟨_, _, _, _, hh⟩ := hg
    exact hh i (by omega) (fun e => by cases e; omega))
theorem keepB_grownA {w w' : World} {lo c n : Nat} {A : Option Addr} {xs : List Value} (hg : w.grownBy w' (Value.slice A n c).ownBlock) (h : w.ownsRow lo 126 1 (.slice A n c) n xs) : KeepB w w' :=
  KeepB.of_grown hg (fun g' cs m e hh => by
    rcases h.2 with ⟨e2, _⟩ | ⟨g2, cap, cur, hv, _, hh', _⟩
    · rw [e2] at e; cases e
    · rw [hv] at e
      have e3 : g2 = g' := by injection e
      subst e3
      rw [hh] at hh'
      injection hh' with hh'; injection hh' with _ ht
      exact absurd ht (by decide))
theorem UpdS.grown {w w' : World} {lo g N b1 b2 b3 c c' : Nat} {A A' : Option Addr} {bs bu : List Nat} {ts tu : List Tv} {prop : Value} {tot : Int} {same : Bool} (h : UpdS w lo g A c bs ts prop tot same b1 b2 b3 (N + 1) A' c' bu tu) (hl : VLow N g A bs) (hN : N ≤ w.heap.size) (bu' : List Nat) (tu' : List Tv) (hv : VRow w' (N + 1) A' c' bu' tu') (hg : w.grownBy w' (Value.slice A' bu.length c').ownBlock) (hb : bu'.length = bu.length) : UpdS w' lo g A c bs ts prop tot same b1 b2 b3 (N + 1) A' c' bu' tu' := by
  have kb := keepB_grownA hg h.row.row
  refine ⟨h.set_.keepLow hl kb (fun i hi => ?_), hv, h.c1.grown hg (own_ne_blk h.row.row h.c1 (by decide)), h.c2.grown hg (own_ne_blk h.row.row h.c2 (by decide)), by rw [hb]; exact h.c3.grown hg (own_ne_blk h.row.row h.c3 (by decide))⟩
  obtain ⟨_, _, _, _, hh⟩ := hg
  exact hh i (by omega) (fun e => by have := own_base h.row.row i e.symm; omega)
theorem UpdS.only {w w' : World} {lo g N b1 b2 b3 c c' : Nat} {A A' : Option Addr} {bs bu : List Nat} {ts tu : List Tv} {prop : Value} {tot tot' : Int} {same : Bool} (h : UpdS w lo g A c bs ts prop tot same b1 b2 b3 N A' c' bu tu) (hgN : g < N) (hv : VSet w' lo g A c bs ts prop tot' same) (ho : OnlyL [g] w w') : UpdS w' lo g A c bs ts prop tot' same b1 b2 b3 N A' c' bu tu := by
  have key : ∀ {x : Nat} {ty : TypeId} {cs : Array Value}, Blk w x ty cs → ty ≠ 128 → Blk w' x ty cs := fun hx hty =>
    (ho.block _ hx.lt (by simp; exact Blk.ne hx h.set_.head hty)).trans hx
  exact ⟨hv, h.row.keep ⟨ho.bytes, fun k hk hlt => ho.block k hlt (by simp; omega)⟩, key h.c1 (by decide), key h.c2 (by decide), key h.c3 (by decide)⟩
theorem OnlyL.drewN {bs : List Nat} {a b : World} (h : OnlyL bs a b) (q : Nat) : OnlyL bs a (b.drewN q) := ⟨h.os, h.tape, h.output, h.size, h.block, h.bytes⟩
theorem UpdS.drewN {w : World} {lo g N b1 b2 b3 c c' : Nat} {A A' : Option Addr} {bs bu : List Nat} {ts tu : List Tv} {prop : Value} {tot : Int} {same : Bool} (h : UpdS w lo g A c bs ts prop tot same b1 b2 b3 N A' c' bu tu) (q : Nat) : UpdS (w.drewN q) lo g A c bs ts prop tot same b1 b2 b3 N A' c' bu tu :=
  ⟨keepV_drew h.set_ q, h.row.keep (KeepV.drewN _ w q), h.c1, h.c2, h.c3⟩
set_option maxRecDepth 100000 in
set_option maxHeartbeats 6400000 in
theorem verUpd_any (lo g : Nat) (A : Option Addr) (c : Nat) (bs : List Nat) (ts : List Tv) (prop : Value) (tot : Int) (same : Bool) (w : World) (h : VSet w lo g A c bs ts prop tot same) (hn : bs.length ≤ 1000) (ht : tot = 0 ∨ tot = totL (ts.map Tv.x)) (hp : ∀ t ∈ ts, 0 ≤ t.x.pow ∧ t.x.pow ≤ 1125899906842624)
    (lo' : Nat) (Au : Option Addr) (cu : Nat) (bu : List Nat) (tu : List Tv) (hu : VRow w lo' Au cu bu tu) (hnu : bu.length ≤ 1000) (hA : Au ≠ none) (hpu : ∀ t ∈ tu, 0 ≤ t.x.pow ∧ t.x.pow ≤ 1152921504606846975) (R : Int) (hR : 0 ≤ R ∧ R ≤ 1152921504606846976)
    (T0 : Nat) (v0 : Value) (hG : w.cell? ⟨0, 0, none⟩ = some (.iface T0 v0)) (hg0 : g ≠ 0) (hw0 : 0 < w.heap.size) :
    Calls Tryz.prog 102 #[.slice Au bu.length cu, ptrTo g, .int .i64 R] w fun e w' => VSet w' lo g A c bs ts prop (totL (ts.map Tv.x)) same ∧ OnlyL [g] w w' ∧
      ((totL (ts.map Tv.x) - R + sumD (ts.map Tv.x) (tu.map Tv.x) ≤ 1152921504606846975 ∧ e = .returned (.tuple #[.int .i64 (totL (ts.map Tv.x) + sumD (ts.map Tv.x) (tu.map Tv.x)), .nilIface])) ∨
       (1152921504606846975 < totL (ts.map Tv.x) - R + sumD (ts.map Tv.x) (tu.map Tv.x) ∧ e = .returned (.tuple #[.int .i64 0, .iface T0 v0]))) := by
  have KC := Lib.hid (fun (W : World) (hW : Below w.heap.size w W) => vcopies_any lo' Au cu bu tu W (hu.keep (KeepV.of_below lo' hW (Nat.le_refl _))) (by omega) hA)
  have H := Lib.hid h; have HU := Lib.hid hu; have HP := Lib.hid hp; have HPU := Lib.hid hpu; have HT := Lib.hid ht; have HG := Lib.hid hG
  clear h hu hp hpu ht hA hG
  unfold ptrTo
  go_enter Tryz.func102, Tryz.ntmps102
  go_wp2_with fail
  have hb2 : Below w.heap.size w ((w.alloc (.cells #[.pointer (some ⟨g, 0, none⟩)] 75)).alloc (.cells #[.func (.func 132) #[] #[]] 215)) := ((Below.refl _ _).alloc (Nat.le_refl _) _).alloc (by simp) _
  have HB2 := Lib.hid hb2
  refine (KC.out _ hb2).mono ?_
  rintro e w3 ⟨A', c', bu', hl', rfl, hv3, hb3⟩
  have hlow := H.out.low
  have hbw3 := hb2.trans (hb3.mono hb2.size)
  have hbw4 := hbw3.alloc hbw3.size (.cells #[.slice A' bu'.length c'] 125)
  have hz3 : w.heap.size + 1 + 1 ≤ w3.heap.size := by have := hb3.size; simpa using this
  have hs4 : UpdS (w3.alloc (.cells #[.slice A' bu'.length c'] 125)) lo g A c bs ts prop tot same w.heap.size (w.heap.size + 1) w3.heap.size (w.heap.size + 1) A' c' bu' tu := by
    refine ⟨H.out.keep (KeepV.of_below lo hbw4 (Nat.le_refl _)), (hv3.keep (KeepV.of_below _ ((Below.refl w3.heap.size w3).alloc (Nat.le_refl _) _) (Nat.le_refl _))).mono (by simp), ?_, ?_, Blk.new _ _ _⟩
    · exact ((Blk.new w 75 #[.pointer (some ⟨g, 0, none⟩)]).alloc _ |>.belowS hb3).alloc _
    · have hk := ((Blk.new (w.alloc (.cells #[.pointer (some ⟨g, 0, none⟩)] 75)) 215 #[.func (.func 132) #[] #[]]).belowS hb3).alloc (.cells #[.slice A' bu'.length c'] 125)
      simpa using hk
  have HS4 := Lib.hid hs4; have HB4 := Lib.hid hbw4; have HLOW := Lib.hid hlow; have HL' := Lib.hid hl'; have HZ3 := Lib.hid hz3
  clear hv3 hb3 hbw3 hbw4 hs4 hlow hz3 hb2 hl'
  go_upto_region 3 with fail
  generalize hw3 : w3.heap.size = b3 at *
  generalize w3.alloc (.cells #[.slice A' bu'.length c'] 125) = w4 at *
  clear hw3 HB2
  have hnb : bu'.length ≤ 1000 := by have := HL'.out; omega
  have hlow4 := HLOW.out
  have hS := sliceV_any 134 #[.pointer (some ⟨w.heap.size + 1, 0, none⟩), .pointer (some ⟨b3, 0, none⟩), .pointer (some ⟨w.heap.size, 0, none⟩)] (enters_of Tryz.func134 (by kernel_rfl) rfl) (deltaL (ts.map Tv.x)) w4 HS4.out.row (by omega) (by
    intro r W i j b b' t t' hA' hW hi hj ci cj hb hb' ho ho' ht ht' hbb
    have hr : w.heap.size + 1 ≤ r := (own_base HS4.out.row.row r (by rw [hA']; rfl))
    have kb := keepB_grown hW (by have := HS4.out.row.row; rw [hA'] at this; exact this)
    have hv := HS4.out.set_.grown hlow4 hW (by omega) (by have := HB4.out.size; omega) kb
    have hne : ∀ {ty : TypeId} {x : Nat} {cs : Array Value}, Blk w4 x ty cs → ty ≠ 126 → some x ≠ some r := fun hx hty e => own_ne_blk HS4.out.row.row hx hty (by rw [e, hA']; rfl)
    have k1 := HS4.out.c1.grown hW (hne HS4.out.c1 (by decide))
    have k3 := HS4.out.c3.grown hW (hne HS4.out.c3 (by decide))
    have k2' := HS4.out.c2.grown hW (hne HS4.out.c2 (by decide))
    rw [hA'] at k3
    exact lessD_any lo g A c bs ts prop tot same W hv (by omega) (fun t ht => by have := HP.out t ht; omega) w.heap.size (w.heap.size + 1) b3 r bu'.length c' i j b b' t t' hi hj (by omega) (k1.cell 0) (k2'.cell 0) (k3.cell 0) ci cj hb hb' ho ho' (by have := HPU.out t ht; omega) (by have := HPU.out t' ht'; omega) hbb)
  have HSL := Lib.hid hS; clear hS hlow4
  have q3 : w4.cell? ⟨b3, 0, none⟩ = some (.slice A' bu'.length c') := HS4.out.c3.cell 0
  go_wp2_with fail
  refine HSL.out.mono ?_
  rintro e w5 ⟨rfl, bs5, ts5, hp5, hl5, hl5', hsort, hv5, hg5⟩
  have hs5 := HS4.out.grown HLOW.out (by have := HB4.out.size; omega) bs5 ts5 hv5 hg5 hl5
  have hz5 : w4.heap.size ≤ w5.heap.size := by obtain ⟨_, _, _, h4, _⟩ := hg5; exact h4
  have hpx : (ts5.map Tv.x).Perm (tu.map Tv.x) := by
    have h1 := hp5.map Prod.snd
    rw [List.map_snd_zip (by omega), List.map_snd_zip (by have := HS4.out.row.len; omega)] at h1
    exact h1.map _
  have KT := Lib.hid (totG_any lo g A c bs ts prop tot same w5 hs5.set_ hn HT.out HP.out)
  have HS5 := Lib.hid hs5; have HG5 := Lib.hid hg5; have HPX := Lib.hid hpx; have HSO := Lib.hid hsort; have HL5 := Lib.hid hl5
  have q1 : w5.cell? ⟨w.heap.size, 0, none⟩ = some (.pointer (some ⟨g, 0, none⟩)) := hs5.c1.cell 0
  clear hv5 hg5 hs5 hp5 hl5 hl5' hsort hpx q3
  go_wp2_with fail
  refine KT.out.mono ?_
  rintro e w6 ⟨rfl, hv6, ho6⟩
  have hs6 := HS5.out.only (by have := HLOW.out.head; omega) hv6 ho6
  have hz6 := ho6.size
  have honly : OnlyL [g] w w6 := ⟨ho6.os.trans (by obtain ⟨h1, _⟩ := HG5.out; exact h1.trans HB4.out.os), ho6.tape.trans (by obtain ⟨_, h1, _⟩ := HG5.out; exact h1.trans HB4.out.tape), ho6.output.trans (by obtain ⟨_, _, h1, _⟩ := HG5.out; exact h1.trans HB4.out.output), by have := HB4.out.size; omega, fun k hk hkg => by
    have := HB4.out.size
    rw [ho6.block k (by omega) hkg]
    obtain ⟨_, _, _, _, hh⟩ := HG5.out
    rw [hh k (by omega) (fun e => by have := own_base HS4.out.row.row k e.symm; omega)]
    exact HB4.out.block k hk, ((KeepB.of_below HB4.out).trans (keepB_grownA HG5.out HS4.out.row.row)).trans ho6.bytes⟩
  have hlt : ts.length ≤ 1000 := by have := hs6.set_.len; omega
  have hps : ∀ x ∈ ts.map Tv.x, 0 ≤ x.pow ∧ x.pow ≤ 1125899906842624 := fun x hx => by
    obtain ⟨t, ht, rfl⟩ := List.mem_map.1 hx
    exact HP.out t ht
  have htb : 0 ≤ totL (ts.map Tv.x) ∧ totL (ts.map Tv.x) ≤ 1125899906842624000 := by
    have h1 := sumI_bd (powsOf (ts.map Tv.x)) 0 1125899906842624 (fun x hx => by
      obtain ⟨s, hs, rfl⟩ := List.mem_map.1 hx
      exact hps s hs)
    have h2 : (powsOf (ts.map Tv.x)).length ≤ 1000 := by simp [powsOf]; omega
    unfold totL
    generalize (powsOf (ts.map Tv.x)).length = m at *
    omega
  have hpx5 : ∀ u ∈ ts5.map Tv.x, 0 ≤ u.pow ∧ u.pow ≤ 1152921504606846975 := fun u hu => by
    have := HPX.out.mem_iff.1 hu
    obtain ⟨t, ht, rfl⟩ := List.mem_map.1 this
    exact HPU.out t ht
  have hl5x : (ts5.map Tv.x).length = bs5.length := by rw [List.length_map]; exact hs6.row.len
  have hl5n : bs5.length ≤ 1000 := by have := HL5.out; omega
  have hsp := sumD_perm (ts.map Tv.x) HPX.out
  have q3 : w6.cell? ⟨b3, 0, none⟩ = some (.slice A' bs5.length c') := hs6.c3.cell 0
  have HS6 := Lib.hid hs6; have HON := Lib.hid honly; have HPS := Lib.hid hps; have HP5 := Lib.hid hpx5; have HLX := Lib.hid hl5x; have HSP := Lib.hid hsp
  clear hs6 honly hps hpx5 hl5x hsp hv6 ho6 q1
  generalize hTT : totL (ts.map Tv.x) = TT at *
  go_wp2
  go_loopw [10, 25] (fun v i wr => ∃ k : Nat, k ≤ bs5.length ∧ i = .int .i64 k ∧ v = .int .i64 (TT - R + sumD (ts.map Tv.x) ((ts5.map Tv.x).take k)) ∧ Hid (TT - R + sumD (ts.map Tv.x) ((ts5.map Tv.x).take k) ≤ 1152921504606846975) ∧ Hid (∃ q, wr = w6.drewN q)) (fun _ i _ => bs5.length - (intOf i).toNat)
  case atStart => exact ⟨0, Nat.zero_le _, rfl, by show Value.int .i64 _ = Value.int .i64 (TT - R + 0); rw [Int.add_zero], by show TT - R + 0 ≤ _; omega, ⟨0, rfl⟩⟩
  case round =>
    obtain ⟨k, hk, rfl, rfl, HM, HW⟩ := hrel
    obtain ⟨q, hq⟩ := HW.out
    subst hq
    have hs := HS6.out.drewN q
    have hlow := sumD_low HPS.out ((ts5.map Tv.x).take k) (fun u hu => HP5.out u (List.mem_of_mem_take hu))
    have hlk : ((ts5.map Tv.x).take k).length ≤ 1000 := by rw [List.length_take, HLX.out]; omega
    have hmx := HM.out
    by_cases hlt : k < bs5.length
    · obtain ⟨b, t, hb, ht⟩ := hs.row.at_ hlt
      obtain ⟨r, rfl, _, hp⟩ := hs.row.ptr hb
      obtain ⟨hbv, hok⟩ := hs.row.validator hb ht
      have hxk : (ts5.map Tv.x)[k]? = some t.x := by rw [List.getElem?_map, ht]; rfl
      have hk' := List.getElem?_eq_some_iff.1 hxk
      have hst : sumD (ts.map Tv.x) ((ts5.map Tv.x).take (k + 1)) = sumD (ts.map Tv.x) ((ts5.map Tv.x).take k) + deltaL (ts.map Tv.x) t.x := by
        rw [List.take_succ_eq_append_getElem hk'.1, hk'.2, sumD_append]; simp [sumD]
      have htp := HP5.out t.x (List.mem_of_getElem? hxk)
      have hdb := deltaL_bd HPS.out t.x htp
      have hov := sumD_over (P := TT - R) (M := 1152921504606846975) HSO.out hxk hmx
      have hD := delta_any lo g A c bs ts prop TT same _ hs.set_ (by omega) b t hbv hok (fun t ht => by have := HP.out t ht; omega) (by omega)
      have k1 : (w6.drewN q).cell? ⟨w.heap.size, 0, none⟩ = some (.pointer (some ⟨g, 0, none⟩)) := hs.c1.cell 0
      have k2 : (w6.drewN q).cell? ⟨w.heap.size + 1, 0, none⟩ = some (.func (.func 132) #[] #[]) := hs.c2.cell 0
      unfold ptrTo at hD
      generalize sumD (ts.map Tv.x) ((ts5.map Tv.x).take k) = S at *
      generalize deltaL (ts.map Tv.x) t.x = D at *
      have HD := Lib.hid hD; have HST := Lib.hid hst; have HOV := Lib.hid hov
      clear hD hst hov hb ht hbv hok hxk hk' hs htp
      have kg : ∀ m, (w6.drewN m).cell? ⟨0, 0, none⟩ = some (.iface T0 v0) := fun m => by
        have hb0 := HON.out.block 0 hw0 (by simp; omega)
        have : w6.cell? ⟨0, 0, none⟩ = w.cell? ⟨0, 0, none⟩ := World.cell?_of_block (w := w) hb0
        show w6.cell? ⟨0, 0, none⟩ = _
        rw [this]; exact HG.out
      have KG := Lib.hid kg; clear kg
      by_cases hov : 1152921504606846975 < TT - R + S + D
      · go_wp2_with fail
        refine HD.out.mono ?_
        rintro e w7 ⟨rfl, q2, rfl⟩
        have kg : w6.cell? ⟨0, 0, none⟩ = some (.iface T0 v0) := KG.out 0
        go_wp2
        go_quiet (fail)
        go_wp2
        go_returns
        refine ⟨?_, ?_, .inr ⟨by rw [hTT, ← HSP.out]; exact HOV.out hov, rfl⟩⟩
        · rw [hTT]; exact keepV_drew (keepV_drew HS6.out.set_ (q + q2)) _
        · exact (HON.out.drewN (q + q2)).drewN _
      · go_wp2_with fail
        refine HD.out.mono ?_
        rintro e w7 ⟨rfl, q2, rfl⟩
        go_wp2
        go_roundw
        case rel => exact ⟨k + 1, by omega, by go_num, by rw [HST.out]; congr 1; omega, by show _ ≤ _; rw [HST.out]; omega, ⟨q + q2, rfl⟩⟩
        case measure => simp [intOf]; omega
    · obtain rfl : k = bs5.length := by omega
      have he : sumD (ts.map Tv.x) ((ts5.map Tv.x).take bs5.length) = sumD (ts.map Tv.x) (tu.map Tv.x) := by
        rw [List.take_of_length_le (by rw [HLX.out]; exact Nat.le_refl _), HSP.out]
      rw [he] at hmx hlow
      have HE := Lib.hid he; have HMX := Lib.hid hmx
      rw [he]
      clear he HM hs
      generalize hSS : sumD (ts.map Tv.x) (tu.map Tv.x) = SS at *
      go_wp2
      go_returns
      refine ⟨?_, ?_, .inl ⟨?_, ?_⟩⟩
      · rw [hTT]; exact keepV_drew HS6.out.set_ q
      · exact HON.out.drewN q
      · rw [hTT, hSS]; exact HMX.out
      · have : TT - R + SS + R = TT + SS := by omega
        rw [hTT, hSS, ← this]
        rfl
end Go.Proofs.YtikikddkhikfkaaGreatDoor
