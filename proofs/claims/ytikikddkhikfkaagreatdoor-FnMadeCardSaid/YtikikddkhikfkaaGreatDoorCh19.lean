/-
  updateWithChangeSet: the calls of its second half, each as a step between states. By the session. A set made of new seats, in plain Lean: all priorities are nought ahead of its first turn. No function is walked here. By the session.
-/
import Derived.Test.YtikikddkhikfkaaGreatDoorCh17
import Derived.Test.YtikikddkhikfkaaGreatDoorCh18
set_option linter.all false
namespace Go.Proofs.YtikikddkhikfkaaGreatDoor
open Go.RowKit

theorem VRow.keepB {w w' : World} {lo : Nat} {A : Option Addr} {c : Nat} {bs : List Nat} {ts : List Tv} (h : VRow w lo A c bs ts) (kb : KeepB w w') (k : ∀ i, i < w.heap.size → (some i = (Value.slice A bs.length c).ownBlock ∨ i ∈ bs) → w'.heap[i]? = w.heap[i]?) : VRow w' lo A c bs ts := by
  refine ⟨⟨h.row.1, ?_⟩, h.len, h.nodup, fun j b t hb ht => ?_⟩
  · rcases h.row.2 with h2 | ⟨g', cap, cur, hv, hg, hh, r⟩
    · exact Or.inl h2
    · exact Or.inr ⟨g', cap, cur, hv, hg, (k g' (lt_of_heap hh) (.inl (by rw [hv]; rfl))).trans hh, r⟩
  · obtain ⟨h1, h2, h3⟩ := h.vals j b t hb ht
    exact ⟨h1, (k b h2.lt (.inr (List.mem_of_getElem? hb))).trans h2, h3.keep kb⟩
theorem VRow.zipmem {w : World} {lo : Nat} {A : Option Addr} {c : Nat} {bs : List Nat} {ts : List Tv} (h : VRow w lo A c bs ts) {b : Nat} (hb : b ∈ bs) : ∃ t ∈ ts, lo ≤ b ∧ Blk w b 136 t.val := by
  obtain ⟨j, hj⟩ := List.getElem?_of_mem hb
  obtain ⟨t, ht⟩ : ∃ t, ts[j]? = some t := ⟨_, List.getElem?_eq_getElem (by rw [h.len]; exact (List.getElem?_eq_some_iff.1 hj).1)⟩
  exact ⟨t, List.mem_of_getElem? ht, (h.vals j b t hj ht).1, (h.vals j b t hj ht).2.1⟩
theorem VRow.ownNot {w : World} {lo : Nat} {A : Option Addr} {c : Nat} {bs : List Nat} {ts : List Tv} (h : VRow w lo A c bs ts) {b : Nat} {cs : Array Value} {t : TypeId} (hb : Blk w b t cs) (ht : t ≠ 126) : some b ≠ (Value.slice A bs.length c).ownBlock := own_ne_blk h.row hb ht
theorem VRow.ownLo {w : World} {lo : Nat} {A : Option Addr} {c : Nat} {bs : List Nat} {ts : List Tv} (h : VRow w lo A c bs ts) : ∀ k, (Value.slice A bs.length c).ownBlock = some k → lo ≤ k ∧ k < w.heap.size := fun k hk => by
  refine ⟨own_base h.row k hk, ?_⟩
  rcases h.row.2 with ⟨e, _⟩ | ⟨g', cap, cur, hv, _, hh, _⟩
  · rw [e] at hk; cases hk
  · rw [hv] at hk; cases hk; exact lt_of_heap hh
theorem OnlyL.belowLo {bs : List Nat} {w w' : World} {lo : Nat} (h : OnlyL bs w w') (hl : lo ≤ w.heap.size) (hb : ∀ b ∈ bs, lo ≤ b) : Below lo w w' :=
  ⟨h.os, h.tape, h.output, h.size, fun k hk => h.block k (by omega) (fun hm => by have := hb k hm; omega)⟩
theorem OnlyR.belowLo {g : Nat} {r : Option Nat} {w w' : World} {lo : Nat} (h : OnlyR g r w w') (hl : lo ≤ w.heap.size) (hg : lo ≤ g) (hr : ∀ k, r = some k → lo ≤ k) : Below lo w w' :=
  ⟨h.os, h.tape, h.output, h.size, fun k hk => h.block k (by omega) (by omega) (fun e => by have := hr k e.symm; omega)⟩
theorem grown_belowLo {w w' : World} {lo : Nat} {row : Option Nat} (h : w.grownBy w' row) (hl : lo ≤ w.heap.size) (hr : ∀ k, row = some k → lo ≤ k) : Below lo w w' := (Below.refl lo w).grown h hl hr
theorem zip_back : ∀ (P : List (Nat × Tv)), (P.map Prod.fst).zip (P.map Prod.snd) = P
  | [] => rfl
  | p :: P => by simp [zip_back P]
theorem px_zip (bs : List Nat) (ts : List Tv) (h : ts.length = bs.length) : (bs.zip ts).map px = ts.map Tv.x := by
  have : (bs.zip ts).map px = ((bs.zip ts).map Prod.snd).map Tv.x := by rw [List.map_map]; rfl
  rw [this, List.map_snd_zip (by omega)]
theorem px_snd (P : List (Nat × Tv)) : (P.map Prod.snd).map Tv.x = P.map px := by rw [List.map_map]; rfl
/-- the set behind the sort of its row -/
theorem VSet.sorted {w w' : World} {lo g : Nat} {A : Option Addr} {c : Nat} {bs bs' : List Nat} {ts ts' : List Tv} {prop : Value} {tot : Int} {same : Bool} (h : VSet w lo g A c bs ts prop tot same) (hv : VRow w' lo A c bs' ts') (hl : bs'.length = bs.length) (hg : w.grownBy w' (Value.slice A bs.length c).ownBlock) : VSet w' lo g A c bs' ts' prop tot same := by
  have hhd := h.head.grown hg (own_ne_blk h.row h.head (by decide))
  rw [← hl] at hhd
  exact ⟨hhd, hv.row, hv.len, hv.nodup, hv.vals, h.log⟩
theorem VSet.keysV {w : World} {lo g : Nat} {A : Option Addr} {c : Nat} {bs : List Nat} {ts : List Tv} {prop : Value} {tot : Int} {same : Bool} (h : VSet w lo g A c bs ts prop tot same) : lo ≤ w.heap.size ∧ lo ≤ g := ⟨by have := h.log; have := h.head.lt; omega, h.log⟩
/-- validators of power 0 and others lie apart -/
theorem apart_rows {w : World} {lo lo' : Nat} {A A' : Option Addr} {c c' : Nat} {bu br : List Nat} {tu tr : List Tv} (hu : VRow w lo A c bu tu) (hr : VRow w lo' A' c' br tr) (h1 : ∀ t ∈ tu, t.x.pow ≠ 0) (h2 : ∀ t ∈ tr, t.x.pow = 0) : ∀ b ∈ bu, b ∉ br := fun b hb hb' => by
  obtain ⟨t, ht, _, hbt⟩ := hu.zipmem hb
  obtain ⟨t', ht', _, hbt'⟩ := hr.zipmem hb'
  have e : t.val = t'.val := by
    unfold Blk at hbt hbt'
    rw [hbt] at hbt'
    injection hbt' with e; injection e
  have e2 : t.x.pow = t'.x.pow := by
    unfold Tv.val at e
    injection e with e; injection e with _ e; injection e with _ e; injection e with e _; injection e
  exact h1 t ht (by rw [e2]; exact h2 t' ht')


/-! ### the second half, step by step -/
/-- what stands fixed while changes S (by address; C as they came) are made in the set V -/
structure Fx (w : World) (lo g : Nat) (A : Option Addr) (c : Nat) (bs : List Nat) (V C S : List Sd) : Prop where
  lole : lo ≤ w.heap.size
  log : lo ≤ g
  gw : g < w.heap.size
  low : VLow w.heap.size g A bs
  bsw : ∀ b ∈ bs, b < w.heap.size
  ownw : ∀ k, (Value.slice A bs.length c).ownBlock = some k → lo ≤ k ∧ k < w.heap.size
  nb : bs.length ≤ 400
  nS : S.length ≤ 400
  nV : V.length = bs.length
  pow : ∀ x ∈ V, 1 ≤ x.pow ∧ x.pow ≤ 1125899906842624
  pri : ∀ x ∈ V, -1152921504606846976 < x.pri ∧ x.pri < 1152921504606846976
  nod : (adrs V).Nodup
  perm : S.Perm C
  srt : Srt S
  ok : okCh V C
section
variable {w : World} {lo g : Nat} {A : Option Addr} {c : Nat} {bs : List Nat} {V C S : List Sd}
theorem Fx.okS (f : Fx w lo g A c bs V C S) : okCh V S := okCh_perm f.perm.symm f.ok
theorem Fx.nodC (f : Fx w lo g A c bs V C S) : (adrs C).Nodup := f.ok.good.2
theorem Fx.ups (f : Fx w lo g A c bs V C S) : sumD V (upsL C) = sumD V (upsL S) := sumD_perm V (f.perm.symm.filter _)
theorem totL_nn (l : List Sd) (h : ∀ x ∈ l, 0 ≤ x.pow) : 0 ≤ totL l := sumI_nn _ (fun p hp => by obtain ⟨x, hx, rfl⟩ := List.mem_map.1 hp; exact h x hx)
theorem Fx.T_bd (f : Fx w lo g A c bs V C S) : 0 ≤ totL V + sumD V (upsL S) ∧ totL V + sumD V (upsL S) ≤ 1729382256910270464 := by
  have h1 := f.okS.most
  have h2 := remSum_bd (vals := V) (fun x hx => by have := f.pow x hx; omega) (delsL S)
  have h3 : (delsL S).length ≤ S.length := List.length_filter_le _ _
  have h4 := tot_drop V f.nod (upsL S) (adrs_filter _ _ f.srt.ne)
  have h5 := totL_nn (V.filter (notIn (upsL S))) (fun x hx => by have := f.pow x (List.mem_filter.1 hx).1; omega)
  have h6 := totL_nn (upsL S) (fun x hx => (f.okS.good.1 x (List.mem_filter.1 hx).1).1)
  have h7 := sumD_eq V (upsL S)
  have := f.nS
  omega
theorem Fx.kpri (f : Fx w lo g A c bs V C S) : ∀ x ∈ keptL V C, -2305843009213693952 < x.pri ∧ x.pri < 2305843009213693952 := kept_pri f.pri (by rw [f.ups]; exact f.T_bd)
theorem Fx.kpow (f : Fx w lo g A c bs V C S) : ∀ x ∈ keptL V C, 1 ≤ x.pow := kept_pow (fun x hx => (f.pow x hx).1)
theorem Fx.klen (f : Fx w lo g A c bs V C S) : (keptL V C).length ≤ 800 := by
  have := kept_len V C; have := f.nV; have := f.nb; have := f.nS; have := f.perm.length_eq; omega
theorem Fx.kne (f : Fx w lo g A c bs V C S) : keptL V C ≠ [] := kept_ne f.nod f.ok

/-- the set as it was, with updates U and removals -/
structure S3 (w : World) (lo g : Nat) (A : Option Addr) (c : Nat) (bs : List Nat) (V S : List Sd) (prop : Value) (same : Bool) (Au : Option Addr) (cu : Nat) (bu : List Nat) (Ar : Option Addr) (cr : Nat) (br : List Nat) (U : List Sd) (w' : World) : Prop where
  set : ∃ ts, ts.map Tv.x = V ∧ VSet w' lo g A c bs ts prop (totL V) same
  up : ∃ tu, tu.map Tv.x = U ∧ VRow w' w.heap.size Au cu bu tu
  dn : ∃ tr, tr.map Tv.x = delsL S ∧ VRow w' w.heap.size Ar cr br tr
  bel : Below lo w w'
/-- the updates are merged -/
structure S5 (w : World) (lo g : Nat) (V S : List Sd) (prop : Value) (same : Bool) (Ar : Option Addr) (cr : Nat) (br : List Nat) (w' : World) : Prop where
  set : ∃ (A' : Option Addr) (c' : Nat) (P : List (Nat × Tv)) (VS : List Sd), P.map px = mergeS VS ((upsL S).map (newPri V (totL V + sumD V (upsL S)))) ∧ VS.Perm V ∧ Srt VS ∧ VSet w' lo g A' c' (P.map Prod.fst) (P.map Prod.snd) prop (totL V) same
  dn : ∃ tr, tr.map Tv.x = delsL S ∧ VRow w' w.heap.size Ar cr br tr
  bel : Below lo w w'
/-- the set holds X, in whatever order -/
structure S6 (w : World) (lo g : Nat) (V C : List Sd) (prop : Value) (X : List Sd) (tot : Int) (same : Bool) (w' : World) : Prop where
  set : ∃ (A' : Option Addr) (c' : Nat) (bs' : List Nat) (ts' : List Tv), (ts'.map Tv.x).Perm X ∧ VSet w' lo g A' c' bs' ts' prop tot same
  most : totL (keptL V C) ≤ 1152921504606846975
  bel : Below lo w w'
variable {prop : Value} {same : Bool} {Au Ar : Option Addr} {cu cr : Nat} {bu br : List Nat}
theorem uw_pris (f : Fx w lo g A c bs V C S) (hbu : bu.length ≤ 400) {w3 : World} (s : S3 w lo g A c bs V S prop same Au cu bu Ar cr br (upsL S) w3) :
    Calls Tryz.prog 103 #[.slice Au bu.length cu, ptrTo g, .int .i64 (totL V + sumD V (upsL S))] w3 fun e w4 => e = .returned (.tuple #[]) ∧ S3 w lo g A c bs V S prop same Au cu bu Ar cr br ((upsL S).map (newPri V (totL V + sumD V (upsL S)))) w4 := by
  obtain ⟨ts, rfl, hs⟩ := s.set
  obtain ⟨tu, hu, hvu⟩ := s.up
  obtain ⟨tr, hr, hvr⟩ := s.dn
  have hT := f.T_bd
  refine (pris_any lo g A c bs ts prop _ same w3 hs (by have := f.nb; omega) w.heap.size f.low Au cu bu tu hvu (by omega) _ ⟨hT.1, by omega⟩).mono ?_
  rintro e w4 ⟨rfl, tu', hu', hvu', hs', ho⟩
  have hap := apart_rows hvu hvr (fun t ht => by
      have : t.x ∈ upsL S := by rw [← hu]; exact List.mem_map_of_mem ht
      have := (List.mem_filter.1 this).2
      simp only [Bool.not_eq_true', beq_eq_false_iff_ne] at this; exact this)
    (fun t ht => by
      have : t.x ∈ delsL S := by rw [← hr]; exact List.mem_map_of_mem ht
      have := (List.mem_filter.1 this).2
      simpa using this)
  refine ⟨rfl, ⟨ts, rfl, hs'⟩, ⟨tu', by rw [hu', hu], hvu'⟩, ⟨tr, hr, ?_⟩, s.bel.trans (ho.belowLo (by have := s.bel.size; have := f.lole; omega) (fun b hb => by obtain ⟨t, _, hl, _⟩ := hvu.zipmem hb; have := f.lole; omega))⟩
  refine hvr.keepB ho.bytes fun i hi ho' => ho.block i hi fun hm => ?_
  rcases ho' with ho' | ho'
  · obtain ⟨t, _, _, hb⟩ := hvu.zipmem hm
    exact hvr.ownNot hb (by decide) ho'
  · exact hap i hm ho'
theorem own_someV {w1 : World} {N n c' : Nat} {A' : Option Addr} {xs : List Value} {e : TypeId} (h : w1.ownsRow N e 1 (.slice A' n c') n xs) (hA : A' ≠ none) : ∃ k, (Value.slice A' n c').ownBlock = some k ∧ N ≤ k := by
  rcases h.2 with ⟨e, _⟩ | ⟨g', cap, cur, hv, hg, _, _⟩
  · injection e with e; exact absurd e hA
  · exact ⟨g', by rw [hv]; rfl, hg⟩
theorem uw_app (f : Fx w lo g A c bs V C S) (hbu : bu.length ≤ 400) (hAu : Au ≠ none) {w4 : World} (s : S3 w lo g A c bs V S prop same Au cu bu Ar cr br ((upsL S).map (newPri V (totL V + sumD V (upsL S)))) w4) :
    Calls Tryz.prog 104 #[ptrTo g, .slice Au bu.length cu] w4 fun e w5 => e = .returned (.tuple #[]) ∧ S5 w lo g V S prop same Ar cr br w5 := by
  obtain ⟨ts, rfl, hs⟩ := s.set
  obtain ⟨tu, hu, hvu⟩ := s.up
  obtain ⟨tr, hr, hvr⟩ := s.dn
  obtain ⟨k, hk, hkN⟩ := own_someV hvu.row hAu
  refine (appUpd_any lo g A c bs ts prop _ same w4 hs (by have := f.nb; omega) Au cu bu tu (hvu.mono f.lole) (by omega) (fun b hb hb' => by
      have := f.bsw b hb
      obtain ⟨t, _, hl, _⟩ := hvu.zipmem hb'; omega) (by
      rw [hk]; intro e; have := (f.ownw k e.symm).2; omega)).mono ?_
  rintro e w5 ⟨rfl, A', c', P, bs2, ts2, hp2, hl2, hl2', hsr, rfl, hs5, ho⟩
  have hpx : (ts2.map Tv.x).Perm (ts.map Tv.x) := by
    have h1 := hp2.map px
    rwa [px_zip bs2 ts2 (by omega), px_zip bs ts hs.len] at h1
  refine ⟨rfl, ⟨A', c', _, ts2.map Tv.x, ?_, hpx, srt_of hsr ((hpx.map _).nodup_iff.2 f.nod), hs5⟩, ⟨tr, hr, ?_⟩, s.bel.trans (ho.belowLo (by have := s.bel.size; have := f.lole; omega) f.log (fun k hk => (f.ownw k hk).1))⟩
  · rw [mergeV_px, px_zip bs2 ts2 (by omega), px_zip bu tu hvu.len, hu]
  · refine hvr.keepB ho.bytes fun i hi ho' => ?_
    have hN : w.heap.size ≤ i := by
      rcases ho' with ho' | ho'
      · exact (hvr.ownLo i ho'.symm).1
      · obtain ⟨t, _, hl, _⟩ := hvr.zipmem ho'; exact hl
    exact ho.block i hi (by have := f.gw; omega) (fun e => by have := (f.ownw i e.symm).2; omega)
theorem uw_rem (f : Fx w lo g A c bs V C S) (hbr : br.length ≤ 400) {w5 : World} (s : S5 w lo g V S prop same Ar cr br w5) :
    Calls Tryz.prog 105 #[ptrTo g, .slice Ar br.length cr] w5 fun e w6 => e = .returned (.tuple #[]) ∧ S6 w lo g V C prop (keptL V C) (totL V) same w6 := by
  obtain ⟨A', c', P, VS, hP, hVS, hVs, hs⟩ := s.set
  obtain ⟨tr, hr, hvr⟩ := s.dn
  have hfo := fit_ok (V := V) (S := S) (T := totL V + sumD V (upsL S)) hVS hVs f.srt f.okS.dels
  have hkt := kept_tot (V := V) (S := S) f.nod hVS hVs f.srt (totL V + sumD V (upsL S))
  have hkp := kept_perm f.nod f.nodC (fun u hu => (f.ok.good.1 u hu).1) hVS hVs f.perm f.srt (totL V + sumD V (upsL S)) (by rw [f.ups])
  have hrp := remV_px P (br.zip tr)
  rw [px_zip br tr hvr.len, hr, hP] at hrp
  have hPl : P.length ≤ 800 := by
    have h1 := congrArg List.length hP
    have hsu : Srt (upsL S) := f.srt.filter _
    have h2 := (mergeS_perm VS _ hVs (srt_newPri (V := V) (T := totL V + sumD V (upsL S)) hsu)).length_eq
    have h3 : (upsL S).length ≤ S.length := List.length_filter_le _ _
    have h4 := List.length_filter_le (notIn ((upsL S).map (newPri V (totL V + sumD V (upsL S))))) VS
    have h5 := hVS.length_eq
    rw [List.length_map] at h1
    rw [List.length_append, List.length_map] at h2
    have := f.nV; have := f.nb; have := f.nS
    omega
  have hcall := appRem_any lo g A' c' (P.map Prod.fst) (P.map Prod.snd) prop _ same w5 hs (by simp; omega) w.heap.size Ar cr br tr hvr (by rw [zip_back, hrp.2]; exact hfo.1)
  refine hcall.mono ?_
  rintro e w6 ⟨rfl, A2, c2, P2, hP2, hs6, ho⟩
  rw [zip_back] at hP2
  refine ⟨rfl, ⟨A2, c2, _, _, ?_, hs6⟩, ?_, s.bel.trans (ho.belowLo (by have := s.bel.size; have := f.lole; omega) f.log (fun k hk => by cases hk))⟩
  · rw [px_snd, hP2, hrp.1, hfo.2]; exact hkp
  · rw [← totL_perm hkp, hkt]
    have := f.okS.most; omega
theorem S6.len {X : List Sd} {tot : Int} {w' : World} (f : Fx w lo g A c bs V C S) (hX : X.length = (keptL V C).length) {A' : Option Addr} {c' : Nat} {bs' : List Nat} {ts' : List Tv} (hp : (ts'.map Tv.x).Perm X) (hs : VSet w' lo g A' c' bs' ts' prop tot same) : 0 < bs'.length ∧ bs'.length ≤ 800 ∧ ∀ t ∈ ts', t.x ∈ X := by
  have h1 := hp.length_eq
  rw [List.length_map, hs.len, hX] at h1
  have h2 := f.klen
  have h3 := List.length_pos_iff.2 f.kne
  exact ⟨by omega, by omega, fun t ht => hp.mem_iff.1 (List.mem_map_of_mem ht)⟩
theorem S6.lo_le {X : List Sd} {tot : Int} {w' : World} (f : Fx w lo g A c bs V C S) (s : S6 w lo g V C prop X tot same w') : lo ≤ w'.heap.size := by have := s.bel.size; have := f.lole; omega
theorem uw_keys (f : Fx w lo g A c bs V C S) {tot : Int} {w6 : World} (s : S6 w lo g V C prop (keptL V C) tot same w6) :
    Calls Tryz.prog 63 #[ptrTo g] w6 fun e w7 => e = .returned (.tuple #[]) ∧ S6 w lo g V C prop (keptL V C) tot true w7 := by
  obtain ⟨A', c', bs', ts', hp, hs⟩ := s.set
  obtain ⟨h1, h2, h3⟩ := S6.len f rfl hp hs
  refine (keys_any lo g A' c' bs' ts' prop tot same w6 hs (by omega)).mono ?_
  rintro e w7 ⟨rfl, hs7, hg⟩
  exact ⟨rfl, ⟨A', c', bs', ts', hp, hs7⟩, s.most, s.bel.trans (grown_belowLo hg (S6.lo_le f s) (fun k hk => by cases hk; exact f.log))⟩
theorem uw_tot (f : Fx w lo g A c bs V C S) {tot : Int} {w6 : World} (s : S6 w lo g V C prop (keptL V C) tot same w6) :
    Calls Tryz.prog 106 #[ptrTo g] w6 fun e w7 => e = .returned (.tuple #[]) ∧ S6 w lo g V C prop (keptL V C) (totL (keptL V C)) same w7 := by
  obtain ⟨A', c', bs', ts', hp, hs⟩ := s.set
  obtain ⟨h1, h2, h3⟩ := S6.len f rfl hp hs
  have ht := totL_perm hp
  refine (updTotalW_any lo g A' c' bs' ts' prop tot same w6 hs (by omega) (fun t ht => by have := f.kpow t.x (h3 t ht); omega) (by rw [ht]; exact s.most)).mono ?_
  rintro e w7 ⟨rfl, rfl⟩
  rw [ht]
  exact ⟨rfl, ⟨A', c', bs', ts', hp, hs.setTot _⟩, s.most, s.bel.trans (grown_belowLo (grown_put w6 g 2 _) (S6.lo_le f s) (fun k hk => by cases hk; exact f.log))⟩
theorem Fx.tot_pos (f : Fx w lo g A c bs V C S) : 1 ≤ totL (keptL V C) := by
  have h1 := totL_one (keptL V C) f.kpow
  have h3 := List.length_pos_iff.2 f.kne
  omega
theorem uw_power (f : Fx w lo g A c bs V C S) {w6 : World} (s : S6 w lo g V C prop (keptL V C) (totL (keptL V C)) same w6) :
    Calls Tryz.prog 87 #[ptrTo g] w6 fun e w7 => e = .returned (.int .i64 (totL (keptL V C))) ∧ w6 = w7 := by
  obtain ⟨A', c', bs', ts', hp, hs⟩ := s.set
  exact tot_any lo g A' c' bs' ts' prop _ same w6 hs (by have := f.tot_pos; omega)
theorem uw_resc (f : Fx w lo g A c bs V C S) {w6 : World} (s : S6 w lo g V C prop (keptL V C) (totL (keptL V C)) same w6) :
    Calls Tryz.prog 107 #[ptrTo g, .int .i64 (2 * totL (keptL V C))] w6 fun e w7 => e = .returned (.tuple #[]) ∧ S6 w lo g V C prop (scaleL (2 * totL (keptL V C)) (keptL V C)) (totL (keptL V C)) same w7 := by
  obtain ⟨A', c', bs', ts', hp, hs⟩ := s.set
  obtain ⟨h1, h2, h3⟩ := S6.len f rfl hp hs
  have hm := s.most
  have hsp := setOf_spanW (keptL V C) f.kne f.kpri
  rw [← span_perm hp] at hsp
  refine (rescale_any lo g A' c' bs' ts' prop _ same (2 * totL (keptL V C)) w6 hs (by omega) h1 hsp.1 (by omega) (by omega) (fun t ht => by have := f.kpri t.x (h3 t ht); omega)).mono ?_
  rintro e w7 ⟨rfl, ts7, hm7, hs7, ho⟩
  exact ⟨rfl, ⟨A', c', bs', ts7, by rw [hm7]; exact scaleL_perm _ hp, hs7⟩, s.most, s.bel.trans (hs.below ho)⟩
theorem uw_shift (f : Fx w lo g A c bs V C S) {w6 : World} (s : S6 w lo g V C prop (scaleL (2 * totL (keptL V C)) (keptL V C)) (totL (keptL V C)) same w6) :
    Calls Tryz.prog 108 #[ptrTo g] w6 fun e w7 => e = .returned (.tuple #[]) ∧ S6 w lo g V C prop (shiftL (scaleL (2 * totL (keptL V C)) (keptL V C))) (totL (keptL V C)) same w7 := by
  obtain ⟨A', c', bs', ts', hp, hs⟩ := s.set
  obtain ⟨h1, h2, h3⟩ := S6.len f (length_of_core (scaleL_core _ _)) hp hs
  have hb := scaleL_pri (2 * totL (keptL V C)) (keptL V C) 2305843009213693952 (fun x hx => by have := f.kpri x hx; omega)
  refine (shift_any lo g A' c' bs' ts' prop _ same w6 hs (by omega) h1 (fun t ht => by have := hb t.x (h3 t ht); omega)).mono ?_
  rintro e w7 ⟨rfl, ts7, hm7, hs7, ho⟩
  exact ⟨rfl, ⟨A', c', bs', ts7, by rw [hm7]; exact shiftL_perm hp, hs7⟩, s.most, s.bel.trans (hs.below ho)⟩
theorem uw_sort (f : Fx w lo g A c bs V C S) {w6 : World} (s : S6 w lo g V C prop (shiftL (scaleL (2 * totL (keptL V C)) (keptL V C))) (totL (keptL V C)) same w6) :
    ∃ A' c' n, w6.cell? ⟨g, 0, none⟩ = some (.slice A' n c') ∧
    Calls Tryz.prog 109 #[.iface 184 (.slice A' n c')] w6 fun e w7 => e = .returned (.tuple #[]) ∧ Below lo w w7 ∧ ∃ A' c' bs' ts', ts'.map Tv.x = outL V C ∧ VSet w7 lo g A' c' bs' ts' prop (totL (outL V C)) same := by
  obtain ⟨A', c', bs', ts', hp, hs⟩ := s.set
  obtain ⟨h1, h2, h3⟩ := S6.len f (length_of_core ((shiftL_core _).trans (scaleL_core _ _))) hp hs
  refine ⟨A', c', bs'.length, hs.head.cell 0, (sortP_any w6 hs.vrow (by omega)).mono ?_⟩
  rintro e w7 ⟨rfl, bs2, ts2, hpz, hl, hl', hso, hv, hg⟩
  have hpx : (ts2.map Tv.x).Perm (ts'.map Tv.x) := by
    have h1 := hpz.map px
    rwa [px_zip bs2 ts2 (by omega), px_zip bs' ts' hs.len] at h1
  have he := out_eq f.nod f.nodC (List.Perm.refl (keptL V C)) (hpx.trans hp) hso
  refine ⟨rfl, s.bel.trans (grown_belowLo hg (S6.lo_le f s) (fun k hk => (hs.vrow.ownLo k hk).1)), A', c', bs2, ts2, he, ?_⟩
  rw [outL_tot]
  exact hs.sorted hv hl hg
end
end Go.Proofs.YtikikddkhikfkaaGreatDoor

set_option linter.all false
namespace Go.Proofs.YtikikddkhikfkaaGreatDoor
open Go.RowKit

theorem sumI_all (p : Int) : ∀ l : List Int, (∀ x ∈ l, x = p) → sumI l = p * l.length
  | [] => fun _ => by simp [sumI]
  | x :: r => fun h => by
    rw [sumI_cons, sumI_all p r (fun y hy => h y (List.mem_cons_of_mem _ hy)), h x (List.mem_cons_self ..), List.length_cons]
    rw [Int.natCast_succ, Int.mul_add, Int.mul_one]; omega
theorem avg_all {l : List Sd} {p : Int} (hne : l ≠ []) (h : ∀ x ∈ l, x.pri = p) : avgL l = p := by
  have hl : 0 < l.length := List.length_pos_iff.2 hne
  have h1 := sumI_all p (prisOf l) (fun q hq => by obtain ⟨x, hx, rfl⟩ := List.mem_map.1 hq; exact h x hx)
  have h2 : (prisOf l).length = l.length := by simp [prisOf]
  unfold avgL
  rw [h1, h2]
  exact Int.mul_ediv_cancel _ (by omega)
theorem span_all {l : List Sd} {p : Int} (hne : l ≠ []) (h : ∀ x ∈ l, x.pri = p) (hp : -9223372036854775808 ≤ p ∧ p ≤ 9223372036854775807) : spanOf l = 0 := by
  obtain ⟨x, hx⟩ := List.exists_mem_of_ne_nil l hne
  have hm : p ∈ prisOf l := by rw [← h x hx]; exact List.mem_map_of_mem hx
  have hall : ∀ q ∈ prisOf l, q = p := fun q hq => by obtain ⟨y, hy, rfl⟩ := List.mem_map.1 hq; exact h y hy
  have h1 := mxf_ge (prisOf l) (-9223372036854775808) p (.inl hm)
  have h2 := mnf_le (prisOf l) 9223372036854775807 p (.inl hm)
  have h3 : mxf (-9223372036854775808) (prisOf l) = p := by
    rcases mxf_in (prisOf l) (-9223372036854775808) with h | h
    · omega
    · exact hall _ h
  have h4 : mnf 9223372036854775807 (prisOf l) = p := by
    rcases mnf_in (prisOf l) 9223372036854775807 with h | h
    · omega
    · exact hall _ h
  unfold spanOf; omega
theorem fresh_pri {C : List Sd} {T : Int} : ∀ x ∈ C.filterMap (freshF [] T), x.pri = -(T + T / 8) := fun x hx => by
  obtain ⟨c, _, hc⟩ := List.mem_filterMap.1 hx
  unfold freshF at hc
  split at hc
  · cases hc; rfl
  · cases hc
theorem kept_nil_pri (C : List Sd) : ∃ p, ∀ x ∈ keptL [] C, x.pri = p := ⟨_, fun x hx => by
  unfold keptL at hx
  rw [List.filterMap_nil, List.nil_append] at hx
  exact fresh_pri x hx⟩
theorem out_nil_pri {C : List Sd} (h : okCh [] C) : ∀ x ∈ outL [] C, x.pri = 0 := fun x hx => by
  have hne := kept_ne (V := []) List.nodup_nil h
  have hT : 0 ≤ totL [] + sumD [] (upsL C) ∧ totL [] + sumD [] (upsL C) ≤ 1729382256910270464 := by
    have h1 := h.most
    have h2 := sumD_eq [] (upsL C)
    have h3 : ∀ l : List Sd, remSum [] l = 0 := fun l => by
      induction l with
      | nil => rfl
      | cons u r ih => rw [remSum, ih]; simp [powAt, seatAt, atL, findAt]
    have h4 : 0 ≤ totL (upsL C) := sumI_nn _ (fun p hp => by obtain ⟨y, hy, rfl⟩ := List.mem_map.1 hp; exact (h.good.1 y (List.mem_filter.1 hy).1).1)
    rw [h3] at h1 h2
    have h0 : totL [] = 0 := rfl
    omega
  have hb := kept_pri (V := []) (C := C) (fun v hv => by simp at hv) hT
  obtain ⟨p, hp⟩ := kept_nil_pri C
  obtain ⟨y0, hy0⟩ := List.exists_mem_of_ne_nil _ hne
  have hpb := hb y0 hy0
  rw [hp y0 hy0] at hpb
  have hsp := span_all hne hp (by omega)
  have hsc : scaleL (2 * totL (keptL [] C)) (keptL [] C) = keptL [] C := by
    unfold scaleL
    rw [hsp]
    split
    · rfl
    · rw [if_neg (by omega)]
  have hav := avg_all hne hp
  unfold outL at hx
  rw [hsc] at hx
  have hx2 := (rankedL_perm _).mem_iff.1 hx
  obtain ⟨y, hy, rfl⟩ := List.mem_map.1 hx2
  show clip (y.pri - avgL (keptL [] C)) = 0
  rw [hav, hp y hy, Int.sub_self]
  exact clip_of ⟨by omega, by omega⟩
theorem dels_nil {C : List Sd} (h : okCh [] C) : delsL C = [] := by
  have := (okDel_iff [] (delsL C)).1 h.dels
  cases hd : delsL C with
  | nil => rfl
  | cons d r => obtain ⟨v, hv, _⟩ := this d (by rw [hd]; simp); simp at hv
theorem made_pos {C : List Sd} (h : okCh [] C) : ∀ x ∈ C, 0 < x.pow := fun x hx => by
  have h1 := (h.good.1 x hx).1
  have h2 := dels_nil h
  have h3 : x ∉ delsL C := by rw [h2]; simp
  have h4 : ¬ x.pow = 0 := fun e => h3 (List.mem_filter.2 ⟨hx, by simp [e]⟩)
  omega
theorem out_nil_turn {C : List Sd} (h : okCh [] C) (hl : C.length ≤ 400) : turnableW (outL [] C) := by
  have hne := kept_ne (V := []) List.nodup_nil h
  have hcore := outL_core [] C
  have hnod : (adrs (outL [] C)).Nodup := by
    have h1 : (adrs (keptL [] C)).Nodup := keptL_nodup List.nodup_nil h.good.2
    have h2 := hcore.map fun s : Sd => s.adr.toList
    rw [List.map_map, List.map_map] at h2
    exact (List.Perm.nodup_iff (show (adrs (outL [] C)).Perm (adrs (keptL [] C)) from h2)).2 h1
  refine ⟨fun e => ?_, ?_, ?_, fun x hx => ?_, fun x hx => ?_, ?_⟩
  · have := outL_len [] C
    rw [e] at this
    exact hne (List.length_eq_zero_iff.1 this.symm)
  · have h1 := outL_len [] C; have h2 := kept_len [] C; simp at h2; omega
  · intro i j x y hx hy hij he
    have hi := List.getElem?_eq_some_iff.1 hx
    have hj := List.getElem?_eq_some_iff.1 hy
    have hi' : (adrs (outL [] C))[i]? = some x.adr.toList := by unfold adrs; rw [List.getElem?_map, hx]; rfl
    have hj' : (adrs (outL [] C))[j]? = some y.adr.toList := by unfold adrs; rw [List.getElem?_map, hy]; rfl
    rw [← he] at hj'
    have h1 := List.getElem?_eq_some_iff.1 hi'
    have h2 := List.getElem?_eq_some_iff.1 hj'
    exact hij ((List.getElem_inj hnod).1 (h1.2.trans h2.2.symm))
  · rw [out_nil_pri h x hx]; omega
  · obtain ⟨y, hy, e⟩ := List.mem_map.1 (hcore.mem_iff.1 (List.mem_map_of_mem (f := core) hx))
    have := kept_pow (V := []) (C := C) (fun v hv => by simp at hv) y hy
    have e2 : y.pow = x.pow := (congrArg Sd.pow e : (core y).pow = (core x).pow)
    omega
  · rw [outL_tot, kept_total (V := []) List.nodup_nil h]
    have := h.most
    omega
end Go.Proofs.YtikikddkhikfkaaGreatDoor
