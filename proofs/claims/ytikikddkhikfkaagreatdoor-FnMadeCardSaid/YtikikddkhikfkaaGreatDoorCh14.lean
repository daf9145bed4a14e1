/-
  applyUpdates: the walk (under way). By the session. applyRemovals: the walk. By the session.
-/
import Derived.Test.YtikikddkhikfkaaGreatDoorCh12
import Derived.Test.YtikikddkhikfkaaGreatDoorCh11
import Derived.Test.YtikikddkhikfkaaGreatDoorCh13
import Derived.Test.YtikikddkhikfkaaGreatDoorCh9
set_option linter.all false
namespace Go.Proofs.YtikikddkhikfkaaGreatDoor
open Go.RowKit

/-- the set's validators and the updates, both by address, in one list: of one address the update -/
def mergeV : List (Nat × Tv) → List (Nat × Tv) → List (Nat × Tv)
  | [], us => us
  | e :: es, [] => e :: es
  | e :: es, u :: us => if adrB e.2.x u.2.x then e :: mergeV es (u :: us) else if e.2.x.adr.toList == u.2.x.adr.toList then u :: mergeV es us else u :: mergeV (e :: es) us
  termination_by es us => es.length + us.length
theorem mergeV_nil (E : List (Nat × Tv)) : mergeV E [] = E := by cases E <;> simp [mergeV]
theorem mergeV_length (E U : List (Nat × Tv)) : (mergeV E U).length ≤ E.length + U.length := by
  induction E, U using mergeV.induct with
  | case1 us => simp [mergeV]
  | case2 e es => simp [mergeV]
  | case3 e es u us h ih => rw [mergeV, if_pos h]; simp only [List.length_cons] at *; omega
  | case4 e es u us h h2 ih => rw [mergeV, if_neg h, if_pos h2]; simp only [List.length_cons] at *; omega
  | case5 e es u us h h2 ih => rw [mergeV, if_neg h, if_neg h2]; simp only [List.length_cons] at *; omega
/-- the rest of a row behind its first -/
theorem Rd.tail {w : World} {B m c : Nat} {X : Option Addr} {x : Value} {r : List Value} (h : Rd w B 1 X (m + 1) (x :: r)) (hc : m + 1 ≤ c) :
    ∃ a, X = some a ∧ w.cell? a = some x ∧ a.block < B ∧ Rd w B 1 (if c = 1 then some a else some ⟨a.block, a.off + 1, none⟩) m r := by
  obtain ⟨a, rfl, hb, h0⟩ := h.2 0 x rfl
  have e0 : a.add 0 = a := by unfold Addr.add; rw [if_pos rfl]
  have e1 : a.add 1 = ⟨a.block, a.off + 1, none⟩ := by unfold Addr.add; rw [if_neg (by omega)]
  rw [e0] at h0
  refine ⟨a, rfl, h0, hb, ?_, fun j u hu => ?_⟩
  · have := h.1; simp only [List.length_cons] at this; omega
  · have hm : 0 < r.length := by have := (List.getElem?_eq_some_iff.1 hu).1; omega
    have hml := h.1
    simp only [List.length_cons] at hml
    rw [if_neg (by omega)]
    obtain ⟨a', e', hb', hc'⟩ := h.2 (j + 1) u (by simpa using hu)
    obtain rfl := Option.some.inj e'
    refine ⟨_, rfl, hb, ?_⟩
    rw [← e1, Go.Deep.add_add, Nat.add_comm 1 j]; exact hc'
/-- only the set's head, its row, and what is new have turned -/
structure OnlyR (g : Nat) (r : Option Nat) (w w' : World) : Prop where
  os : w'.os = w.os
  tape : w'.tape = w.tape
  output : w'.output = w.output
  size : w.heap.size ≤ w'.heap.size
  block : ∀ k, k < w.heap.size → k ≠ g → some k ≠ r → w'.heap[k]? = w.heap[k]?
  bytes : KeepB w w'
theorem keepB_grownR {w w' : World} {lo c n : Nat} {A : Option Addr} {xs : List Value} (hg : w.grownBy w' (Value.slice A n c).ownBlock) (h : w.ownsRow lo 126 1 (.slice A n c) n xs) : KeepB w w' :=
  KeepB.of_grown hg (fun g' cs m e hh => by
    rcases h.2 with ⟨e2, _⟩ | ⟨g2, cap, cur, hv, _, hh', _⟩
    · rw [e2] at e; cases e
    · rw [hv] at e
      have e3 : g2 = g' := by injection e
      subst e3
      rw [hh] at hh'
      injection hh' with hh'; injection hh' with _ ht
      exact absurd ht (by decide))
def lenOf : Value → Nat
  | .slice _ n _ => n
  | _ => 0
theorem mergeV_perm (E U : List (Nat × Tv)) : ∃ l, (mergeV E U ++ l).Perm (E ++ U) := by
  induction E, U using mergeV.induct with
  | case1 us => exact ⟨[], by simp [mergeV]⟩
  | case2 e es => exact ⟨[], by simp [mergeV]⟩
  | case3 e es u us h ih =>
    obtain ⟨l, hl⟩ := ih
    rw [mergeV, if_pos h]
    exact ⟨l, by simpa using hl.cons e⟩
  | case4 e es u us h h2 ih =>
    obtain ⟨l, hl⟩ := ih
    rw [mergeV, if_neg h, if_pos h2]
    refine ⟨e :: l, ?_⟩
    have h1 : (u :: mergeV es us ++ e :: l).Perm (u :: e :: (mergeV es us ++ l)) := by
      simp only [List.cons_append]
      exact List.Perm.cons u List.perm_middle
    have h3 : (e :: es ++ u :: us).Perm (e :: u :: (es ++ us)) := by
      simp only [List.cons_append]
      exact List.Perm.cons e List.perm_middle
    exact h1.trans (((hl.cons e).cons u).trans ((List.Perm.swap e u _).trans h3.symm))
  | case5 e es u us h h2 ih =>
    obtain ⟨l, hl⟩ := ih
    rw [mergeV, if_neg h, if_neg h2]
    refine ⟨l, ?_⟩
    have h3 : (e :: es ++ u :: us).Perm (u :: (e :: es ++ us)) := List.perm_middle
    exact (by simpa using hl.cons u : (u :: mergeV (e :: es) us ++ l).Perm (u :: (e :: es ++ us))).trans h3.symm
theorem own_cut {w : World} {base e n m c : Nat} {a : Addr} {xs : List Value} (h : w.ownsRow base e 1 (.slice (some a) n c) n xs) (hm : m ≤ n) : w.ownsRow base e 1 (.slice (some a) m c) m (xs.take m) := by
  refine ⟨by rw [List.length_take, h.1]; omega, ?_⟩
  rcases h.2 with ⟨e1, _⟩ | ⟨g, cap, cur, hv, h1, h2, h3, h4, h5, h6⟩
  · cases e1
  · injection hv with hv1 _ hv3
    subst hv3
    refine .inr ⟨g, c, cur, by rw [hv1], h1, h2, by omega, h4, h5, ?_⟩
    rw [← h6, List.take_take]
    congr 1; omega
theorem own_monoE {w : World} {base base' e size : Nat} {v : Value} {n : Nat} {xs : List Value} (h : w.ownsRow base e size v n xs) (hb : base' ≤ base) : w.ownsRow base' e size v n xs :=
  ⟨h.1, h.2.imp id fun ⟨g, cap, cur, h1, h2, h3⟩ => ⟨g, cap, cur, h1, Nat.le_trans hb h2, h3⟩⟩
theorem own_capE {w : World} {base e size n c : Nat} {A : Option Addr} {xs : List Value} (h : w.ownsRow base e size (.slice A n c) n xs) : n ≤ c := by
  rcases h.2 with ⟨e1, h0⟩ | ⟨g, cap, cur, hv, _, _, h3, _⟩
  · omega
  · injection hv with _ _ hv3; omega
theorem app_fin {w2 wr : World} {lo g N c cu base m n0 : Nat} {A Au : Option Addr} {bs2 bu : List Nat} {ts2 tu : List Tv} {prop : Value} {tot : Int} {same : Bool} {old : List Value}
    (hv2 : VRow w2 lo A c bs2 ts2) (hu2 : VRow w2 lo Au cu bu tu) (hdj : ∀ b ∈ bs2, b ∉ bu) (hb : Below w2.heap.size w2 wr) (hhd : Blk wr g 128 #[.slice A n0 c, prop, .int .i64 tot, .bool same]) (hlog : lo ≤ g) (hlo : lo ≤ base)
    (P : List (Nat × Tv)) (hP : P = mergeV (bs2.zip ts2) (bu.zip tu)) (hPN : P.length ≤ N) (ho : wr.ownsRow base 126 1 (.slice (some ⟨m, 0, none⟩) N N) N (overL (ptrs P) old)) :
    VSet (wr.setCell ⟨g, 0, none⟩ (.slice (some ⟨m, 0, none⟩) P.length N)) lo g (some ⟨m, 0, none⟩) N (P.map Prod.fst) (P.map Prod.snd) prop tot same := by
  obtain ⟨l, hl⟩ := mergeV_perm (bs2.zip ts2) (bu.zip tu)
  rw [← hP] at hl
  have hmem : ∀ p ∈ P, p ∈ bs2.zip ts2 ∨ p ∈ bu.zip tu := fun p hp => List.mem_append.1 (hl.mem_iff.1 (List.mem_append_left _ hp))
  have hval : ∀ p ∈ P, lo ≤ p.1 ∧ Blk w2 p.1 136 p.2.val ∧ p.2.ok w2 := fun p hp => by
    rcases hmem p hp with h | h
    · obtain ⟨j, hj⟩ := List.getElem?_of_mem h
      rw [List.getElem?_zip_eq_some] at hj
      exact hv2.vals j _ _ hj.1 hj.2
    · obtain ⟨j, hj⟩ := List.getElem?_of_mem h
      rw [List.getElem?_zip_eq_some] at hj
      exact hu2.vals j _ _ hj.1 hj.2
  have hne : some g ≠ (Value.slice (some ⟨m, 0, none⟩) N N).ownBlock := own_ne_blk ho hhd (by decide)
  refine ⟨?_, ?_, by simp, ?_, fun j b t hb' ht => ?_, hlog⟩
  · have := hhd.put 0 (.slice (some ⟨m, 0, none⟩) P.length N)
    simpa using this
  · have h1 := own_cut (own_monoE (own_far ho (p := ⟨g, 0, none⟩) hne (.slice (some ⟨m, 0, none⟩) P.length N)) hlo) hPN
    have h2 : (overL (ptrs P) old).take P.length = (P.map Prod.fst).map ptrTo := by
      unfold overL
      rw [List.take_left' (by simp [ptrs]), ptrs_eq]
    rw [h2] at h1
    rw [List.length_map]; exact h1
  · have h1 : ((P ++ l).map Prod.fst).Nodup := by
      refine (hl.map Prod.fst).nodup_iff.2 ?_
      rw [List.map_append, List.map_fst_zip (by have := hv2.len; omega), List.map_fst_zip (by have := hu2.len; omega), List.nodup_append]
      exact ⟨hv2.nodup, hu2.nodup, fun a ha b hb e => hdj a ha (by rw [e]; exact hb)⟩
    rw [List.map_append] at h1
    exact (List.nodup_append.1 h1).1
  · rw [List.getElem?_map] at hb' ht
    cases hq : P[j]? with
    | none => rw [hq] at hb'; cases hb'
    | some q =>
      rw [hq] at hb' ht
      cases hb'; cases ht
      obtain ⟨h1, h2, h3⟩ := hval q (List.mem_of_getElem? hq)
      have hw := h2.belowS hb
      have hqg : q.1 ≠ g := Blk.ne hw hhd (by decide)
      exact ⟨h1, hw.far (p := ⟨g, 0, none⟩) hqg _, (h3.keep (KeepB.of_below hb)).keep (KeepB.setCell (p := ⟨g, 0, none⟩) hhd (by decide) _)⟩
set_option maxRecDepth 100000 in
set_option maxHeartbeats 6400000 in
theorem appUpd_any (lo g : Nat) (A : Option Addr) (c : Nat) (bs : List Nat) (ts : List Tv) (prop : Value) (tot : Int) (same : Bool) (w : World) (h : VSet w lo g A c bs ts prop tot same) (hn : bs.length ≤ 1000) (Au : Option Addr) (cu : Nat) (bu : List Nat) (tu : List Tv) (hu : VRow w lo Au cu bu tu) (hnu : bu.length ≤ 1000) (hdj : ∀ b ∈ bs, b ∉ bu) (hAA : (Value.slice Au bu.length cu).ownBlock ≠ (Value.slice A bs.length c).ownBlock) :
    Calls Tryz.prog 104 #[ptrTo g, .slice Au bu.length cu] w fun e w' => e = .returned (.tuple #[]) ∧ ∃ (A' : Option Addr) (c' : Nat) (P : List (Nat × Tv)) (bs2 : List Nat) (ts2 : List Tv), (bs2.zip ts2).Perm (bs.zip ts) ∧ bs2.length = bs.length ∧ ts2.length = bs.length ∧ ((ts2.map Tv.x).Pairwise fun x y => adrB y x = false) ∧
      P = mergeV (bs2.zip ts2) (bu.zip tu) ∧ VSet w' lo g A' c' (P.map Prod.fst) (P.map Prod.snd) prop tot same ∧ OnlyR g (Value.slice A bs.length c).ownBlock w w' := by
  obtain ⟨i0, hi0, hz0, hz1, hz2⟩ := info_parts infoPVal
  have HI := Lib.hid hi0; have HZ0 := Lib.hid hz0; have HZ1 := Lib.hid hz1; have HZ2 := Lib.hid hz2
  clear hi0 hz0 hz1 hz2
  have h0 : w.cell? ⟨g, 0, none⟩ = some (.slice A bs.length c) := h.head.cell 0
  have KS := Lib.hid (sortA_any w h.vrow (by omega))
  have H := Lib.hid h; have HU := Lib.hid hu; have HDJ := Lib.hid hdj; have HAA := Lib.hid hAA
  clear h hu hdj hAA
  unfold ptrTo
  go_enter Tryz.func104, Tryz.ntmps104
  go_wp2_with fail
  refine KS.out.mono ?_
  rintro e w2 ⟨rfl, bs2, ts2, hp2, hl2, hl2', hs2, hv2, hg2⟩
  have hz2 : w.heap.size ≤ w2.heap.size := by obtain ⟨_, _, _, h4, _⟩ := hg2; exact h4
  have hu2 : VRow w2 lo Au cu bu tu := HU.out.grownO H.out.row hg2 HAA.out
  have HG2 := Lib.hid hg2
  have hhd := H.out.head.grown hg2 (own_ne_blk H.out.row H.out.head (by decide))
  have HHD := Lib.hid hhd; clear hhd
  have HV2 := Lib.hid hv2; have HU2 := Lib.hid hu2; have HP2 := Lib.hid hp2; have HS2 := Lib.hid hs2; have HL2 := Lib.hid hl2
  clear hu2 hp2 hs2 hv2 hg2
  go_wp2_with (refine wpList_make_full _ rfl (.tmp 20) (.tmp 20) 125 rfl w.heap.size 126 i0 _ 1 Tryz.underlying125 HI.out HZ0.out HZ1.out .i64 .i64 (bs.length + bu.length) (bs.length + bu.length) (bs.length + bu.length) rfl rfl rfl rfl ?b2 ?b3 ?b4 ?_; (case b2 => rw [HZ2.out]; omega); (case b3 => simp only [maxLen]; omega); (case b4 => exact hz2); intro w3 ho3 hg3; have HO3 := Lib.hid ho3; have HG3 := Lib.hid hg3; clear ho3 hg3)
  generalize (madeCells (Value.pointer none).cells ((bs.length + bu.length) * 1)).toList = old at *
  have hold : old.length = bs.length + bu.length := by have := HO3.out.1; simpa using this
  obtain ⟨N, hN⟩ : ∃ N, N = bs.length + bu.length := ⟨_, rfl⟩
  rw [← hN] at hold HO3 ⊢
  have hN2 : N ≤ 2000 := by omega
  have HNN := Lib.hid hN; clear hN
  obtain ⟨E0, hE0⟩ : ∃ E0, E0 = bs2.zip ts2 := ⟨_, rfl⟩
  obtain ⟨U0, hU0⟩ : ∃ U0, U0 = bu.zip tu := ⟨_, rfl⟩
  have hEl : E0.length = bs.length := by rw [hE0, List.length_zip, hl2, hl2', Nat.min_self]
  have hUl : U0.length = bu.length := by rw [hU0, List.length_zip, HU.out.len, Nat.min_self]
  have hrE : Rd w2 w2.heap.size 1 A E0.length (ptrs E0) := by
    have h1 := Rd.of_own HV2.out.row
    rw [hl2] at h1
    rw [hEl, ptrs_eq, hE0, List.map_fst_zip (by omega)]; exact h1
  have hrU : Rd w2 w2.heap.size 1 Au U0.length (ptrs U0) := by
    have h1 := Rd.of_own HU2.out.row
    rw [hUl, ptrs_eq, hU0, List.map_fst_zip (by have := HU.out.len; omega)]; exact h1
  have hval : ∀ p, p ∈ E0 ∨ p ∈ U0 → Blk w2 p.1 136 p.2.val ∧ p.2.ok w2 := fun p hp => by
    rcases hp with hp | hp
    · obtain ⟨j, hj⟩ := List.getElem?_of_mem hp
      rw [hE0, List.getElem?_zip_eq_some] at hj
      exact HV2.out.validator hj.1 hj.2
    · obtain ⟨j, hj⟩ := List.getElem?_of_mem hp
      rw [hU0, List.getElem?_zip_eq_some] at hj
      exact HU2.out.validator hj.1 hj.2
  have hb3 : Below w2.heap.size w2 w3 := (Below.refl w2.heap.size w2).grown HG3.out (Nat.le_refl _) (by simp)
  have HVAL := Lib.hid hval; have HB3 := Lib.hid hb3; have HRE := Lib.hid hrE; have HRU := Lib.hid hrU; have HOLD := Lib.hid hold; have HEL := Lib.hid hEl; have HUL := Lib.hid hUl
  have hcE : E0.length ≤ c := by have := own_capE HV2.out.row; omega
  have hcU : U0.length ≤ cu := by have := own_capE HU2.out.row; omega
  have HE0 := Lib.hid hE0; have HU0 := Lib.hid hU0; have HLE := Lib.hid (And.intro hl2 hl2')
  clear hval hb3 hrE hrU hold hE0 hU0 hl2 hl2'
  rw [← hEl, ← hUl]
  clear hEl hUl
  go_loopw [1, 4, 6] (fun v1 v4 v6 wr => ∃ (E U M : List (Nat × Tv)) (X Y : Option Addr) (cx cy : Nat), v4 = .slice X E.length cx ∧ v1 = .slice Y U.length cy ∧ v6 = .int .i64 M.length ∧ E.length ≤ cx ∧ U.length ≤ cy ∧ M.length + E.length + U.length ≤ N ∧ Hid (M ++ mergeV E U = mergeV E0 U0) ∧
      Hid (∀ p, (p ∈ E → p ∈ E0) ∧ (p ∈ U → p ∈ U0)) ∧ Hid (Rd w2 w2.heap.size 1 X E.length (ptrs E)) ∧ Hid (Rd w2 w2.heap.size 1 Y U.length (ptrs U)) ∧ Hid (wr.ownsRow w.heap.size 126 1 (.slice (some ⟨w2.heap.size, 0, none⟩) N N) N (overL (ptrs M) old)) ∧ Hid (Below w2.heap.size w2 wr)) (fun v1 v4 _ _ => (lenOf v1) + (lenOf v4))
  case atStart => exact ⟨E0, U0, [], A, Au, c, cu, rfl, rfl, rfl, hcE, hcU, by simp; have := HEL.out; have := HUL.out; have := HNN.out; omega, rfl, (fun p => ⟨id, id⟩), HRE.out, HRU.out, by show World.ownsRow _ _ _ _ _ _ _; simpa [overL, ptrs] using HO3.out, HB3.out⟩
  case round =>
    obtain ⟨E, U, M, X, Y, cx, cy, rfl, rfl, rfl, hcx, hcy, hMN, HMG, HMEM, HRX, HRY, HOM, HBL⟩ := hrel
    have hml : (ptrs M).length = M.length := by simp [ptrs]
    by_cases hex : E = [] ∨ U = []
    · have hmu : mergeV E U = E ++ U := by
        rcases hex with rfl | rfl
        · simp [mergeV]
        · simp [mergeV_nil]
      have hmg := HMG.out
      rw [hmu] at hmg
      have hg12 : E.length = 0 ∨ U.length = 0 := by
        rcases hex with rfl | rfl
        · exact .inl rfl
        · exact .inr rfl
      have HMG2 := Lib.hid hmg
      clear hmu hmg hex HMG
      generalize hl1 : E.length = n1 at *
      generalize hl2 : U.length = n2 at *
      have hl1' := Lib.hid hl1; have hl2' := Lib.hid hl2
      have hAB : (¬ 0 < n1) ∨ (0 < n1 ∧ ¬ 0 < n2) := by omega
      clear hg12
      rcases hAB with hA0 | ⟨hA0, hB0⟩
      all_goals
        obtain ⟨w9, rfl⟩ : ∃ x : World, x = wr := ⟨_, rfl⟩
        go_wp2
        go_loopw [6, 7] (fun v6 v7 wq => ∃ (j k6 : Nat), j ≤ n1 ∧ v7 = .int .i64 j ∧ v6 = .int .i64 k6 ∧ Hid (k6 = (M).length + j) ∧ Hid (wq.ownsRow w.heap.size 126 1 (.slice (some ⟨w2.heap.size, 0, none⟩) N N) N (overL (ptrs ((M) ++ (E).take j)) old)) ∧ Hid (Below w2.heap.size w2 wq)) (fun _ v7 _ => n1 - (intOf v7).toNat)
        case atStart => exact ⟨0, _, Nat.zero_le _, rfl, rfl, rfl, by show World.ownsRow _ _ _ _ _ _ _; rw [List.take_zero, List.append_nil]; exact HOM.out, HBL.out⟩
        case round =>
          obtain ⟨j, k6, hj, rfl, rfl, HK6, HOJ, HBJ⟩ := hrel
          have hk6 := HK6.out
          by_cases hjl : j < n1
          · (try (exfalso; omega))
            all_goals
              obtain ⟨⟨x1, t1⟩, hx1⟩ : ∃ p, (E)[j]? = some p := ⟨_, List.getElem?_eq_getElem (by omega)⟩
              obtain ⟨ax, hXe, bx, cx0⟩ := HRX.out.2 j (.pointer (some ⟨x1, 0, none⟩)) (by simp [ptrs, hx1])
              have c1 : wr.cell? (ax.add j) = some (.pointer (some ⟨x1, 0, none⟩)) := (HBJ.out.cell (by rw [show (ax.add j).block = ax.block from by unfold Addr.add; split <;> rfl]; exact bx)).trans cx0
              have hfz : ∀ i, wr.frozen? ⟨w2.heap.size, i, none⟩ = false := own_free HOJ.out
              have hjx := List.getElem?_eq_some_iff.1 hx1
              have hst : ((M) ++ (E).take (j + 1)) = ((M) ++ (E).take j) ++ [(x1, t1)] := by (rw [List.take_succ_eq_append_getElem hjx.1, hjx.2]; simp only [List.append_assoc])
              have hlp : (ptrs ((M) ++ (E).take j)).length = k6 := by (have hq := HK6.out; (try simp only [List.length_append] at hq); simp [ptrs]; omega)
              have hkN : k6 < N := by
                have hq := HK6.out
                (try simp only [List.length_append] at hq)
                omega
              have hov := overL_set (ptrs ((M) ++ (E).take j)) old (.pointer (some ⟨x1, 0, none⟩)) (by rw [hlp, HOLD.out]; exact hkN)
              rw [hlp] at hov
              obtain ⟨ov, hovv⟩ : ∃ ov, wr.cell? ⟨w2.heap.size, k6, none⟩ = some ov := by
                have := HOJ.out.cellAt k6 (by omega)
                exact ⟨_, this.trans (List.getElem?_eq_getElem (by have := HOJ.out.1; omega))⟩
              have hs6 := (HOJ.out.stored k6 (.pointer (some ⟨x1, 0, none⟩))).1
              rw [hov, ← ptrs_snoc _ (x1, t1), ← hst] at hs6
              have HS6 := Lib.hid hs6; have hb6 := HBJ.out.setCell (p := ⟨w2.heap.size, k6, none⟩) (Nat.le_refl _) (.pointer (some ⟨x1, 0, none⟩))
              have HB6 := Lib.hid hb6
              clear hs6 hb6 hov hst hlp hjx cx0 bx hx1 hk6
              subst hXe
              go_wp2
              go_roundw
              case rel => exact ⟨j + 1, k6 + 1, by omega, by go_num, by go_num, by have := HK6.out; show _ = _; omega, HS6.out, HB6.out⟩
              case measure => simp [intOf]; omega
          · obtain rfl : n1 = j := by omega
            have hte : E.take n1 = E := List.take_of_length_le (by have := hl1'.out; omega)
            have hoj := HOJ.out
            rw [hte] at hoj
            have HOE := Lib.hid hoj
            have hk6' : k6 = (M ++ E).length := by have := HK6.out; have := hl1'.out; simp; omega
            subst hk6'
            clear hoj hte HOJ HK6 hk6
            obtain ⟨w10, rfl⟩ : ∃ x : World, x = wr := ⟨_, rfl⟩
            go_wp2
            go_loopw [6, 8] (fun v6 v7 wq => ∃ (j k6 : Nat), j ≤ n2 ∧ v7 = .int .i64 j ∧ v6 = .int .i64 k6 ∧ Hid (k6 = (M ++ E).length + j) ∧ Hid (wq.ownsRow w.heap.size 126 1 (.slice (some ⟨w2.heap.size, 0, none⟩) N N) N (overL (ptrs ((M ++ E) ++ (U).take j)) old)) ∧ Hid (Below w2.heap.size w2 wq)) (fun _ v7 _ => n2 - (intOf v7).toNat)
            case atStart => exact ⟨0, _, Nat.zero_le _, rfl, rfl, rfl, by show World.ownsRow _ _ _ _ _ _ _; rw [List.take_zero, List.append_nil]; exact HOE.out, HBJ.out⟩
            case round =>
              obtain ⟨j, k6, hj, rfl, rfl, HK6, HOJ, HBJ⟩ := hrel
              have hk6 := HK6.out
              by_cases hjl : j < n2
              · (try (exfalso; omega))
                all_goals
                  obtain ⟨⟨x1, t1⟩, hx1⟩ : ∃ p, (U)[j]? = some p := ⟨_, List.getElem?_eq_getElem (by omega)⟩
                  obtain ⟨ax, hXe, bx, cx0⟩ := HRY.out.2 j (.pointer (some ⟨x1, 0, none⟩)) (by simp [ptrs, hx1])
                  have c1 : wr.cell? (ax.add j) = some (.pointer (some ⟨x1, 0, none⟩)) := (HBJ.out.cell (by rw [show (ax.add j).block = ax.block from by unfold Addr.add; split <;> rfl]; exact bx)).trans cx0
                  have hfz : ∀ i, wr.frozen? ⟨w2.heap.size, i, none⟩ = false := own_free HOJ.out
                  have hjx := List.getElem?_eq_some_iff.1 hx1
                  have hst : ((M ++ E) ++ (U).take (j + 1)) = ((M ++ E) ++ (U).take j) ++ [(x1, t1)] := by (rw [List.take_succ_eq_append_getElem hjx.1, hjx.2]; simp only [List.append_assoc])
                  have hlp : (ptrs ((M ++ E) ++ (U).take j)).length = k6 := by (have hq := HK6.out; (try simp only [List.length_append] at hq); simp [ptrs]; omega)
                  have hkN : k6 < N := by
                    have hq := HK6.out
                    (try simp only [List.length_append] at hq)
                    omega
                  have hov := overL_set (ptrs ((M ++ E) ++ (U).take j)) old (.pointer (some ⟨x1, 0, none⟩)) (by rw [hlp, HOLD.out]; exact hkN)
                  rw [hlp] at hov
                  obtain ⟨ov, hovv⟩ : ∃ ov, wr.cell? ⟨w2.heap.size, k6, none⟩ = some ov := by
                    have := HOJ.out.cellAt k6 (by omega)
                    exact ⟨_, this.trans (List.getElem?_eq_getElem (by have := HOJ.out.1; omega))⟩
                  have hs6 := (HOJ.out.stored k6 (.pointer (some ⟨x1, 0, none⟩))).1
                  rw [hov, ← ptrs_snoc _ (x1, t1), ← hst] at hs6
                  have HS6 := Lib.hid hs6; have hb6 := HBJ.out.setCell (p := ⟨w2.heap.size, k6, none⟩) (Nat.le_refl _) (.pointer (some ⟨x1, 0, none⟩))
                  have HB6 := Lib.hid hb6
                  clear hs6 hb6 hov hst hlp hjx cx0 bx hx1 hk6
                  subst hXe
                  go_wp2
                  go_roundw
                  case rel => exact ⟨j + 1, k6 + 1, by omega, by go_num, by go_num, by have := HK6.out; show _ = _; omega, HS6.out, HB6.out⟩
                  case measure => simp [intOf]; omega
              · obtain rfl : n2 = j := by omega
                have hhd := HHD.out.belowS HBJ.out
                have q0 : wr.cell? ⟨g, 0, none⟩ = some (.slice A bs.length c) := hhd.cell 0
                have f0 : wr.frozen? ⟨g, 0, none⟩ = false := hhd.free 0
                have hkN : k6 ≤ N := by (have hq := HK6.out; (try simp only [List.length_append] at hq); omega)
                go_wp2
                go_end0
                have hK : k6 = (mergeV E0 U0).length := by have hq := HK6.out; rw [← HMG2.out]; simp only [List.length_append] at hq ⊢; have := hl1'.out; have := hl2'.out; omega
                have hoF := HOJ.out
                rw [List.take_of_length_le (by have := hl2'.out; omega), List.append_assoc, HMG2.out] at hoF
                have hbs : ∀ b ∈ bs2, b ∉ bu := fun b hb => HDJ.out b (by
                  have h1 := HP2.out.map Prod.fst
                  rw [List.map_fst_zip (by have := HLE.out; omega), List.map_fst_zip (by have := H.out.len; omega)] at h1
                  exact h1.mem_iff.1 hb)
                have hlo : lo ≤ w.heap.size := by have := H.out.log; have := H.out.head.lt; omega
                have hPe : mergeV E0 U0 = mergeV (bs2.zip ts2) (bu.zip tu) := by rw [HE0.out, HU0.out]
                have hfin := app_fin HV2.out HU2.out hbs HBJ.out hhd H.out.log hlo (mergeV E0 U0) hPe (by omega) hoF
                rw [← hK] at hfin
                have hk7 : k6 = M.length + n1 + n2 := by have hq := HK6.out; simp only [List.length_append] at hq; have := hl1'.out; omega
                rw [hk7] at hfin
                refine ⟨rfl, _, _, mergeV E0 U0, bs2, ts2, HP2.out, HLE.out.1, HLE.out.2, HS2.out, hPe, hfin, ?_⟩
                obtain ⟨o1, o2, o3, o4, o5⟩ := HG2.out
                refine ⟨HBJ.out.os.trans o1, HBJ.out.tape.trans o2, HBJ.out.output.trans o3, by have := HBJ.out.size; simp [World.setCell]; omega, fun k hk hkg hkr => ?_, ((keepB_grownR HG2.out H.out.row).trans (KeepB.of_below HBJ.out)).trans (KeepB.setCell (p := ⟨g, 0, none⟩) hhd (by decide) _)⟩
                rw [Below.heap_setCell wr ⟨g, 0, none⟩ _ k hkg, HBJ.out.block k (by omega)]
                exact o5 k hk hkr
    have hEne : E ≠ [] := fun e => hex (.inl e)
    have hUne : U ≠ [] := fun e => hex (.inr e)
    clear hex
    cases E with
    | nil => exact absurd rfl hEne
    | cons e es =>
      cases U with
      | nil => exact absurd rfl hUne
      | cons u us =>
        obtain ⟨e1, t⟩ := e
        obtain ⟨u1, t'⟩ := u
        obtain ⟨ax, rfl, cx0, bx, htx⟩ := Rd.tail (r := ptrs es) HRX.out hcx
        obtain ⟨ay, rfl, cy0, by_, hty⟩ := Rd.tail (r := ptrs us) HRY.out hcy
        have hE1 := (HMEM.out (e1, t)).1 (by simp)
        have hU1 := (HMEM.out (u1, t')).2 (by simp)
        obtain ⟨hv1, hk1⟩ := HVAL.out _ (.inl hE1)
        obtain ⟨hv2, hk2⟩ := HVAL.out _ (.inr hU1)
        have hw1 := hv1.belowS HBL.out; have hw2 := hv2.belowS HBL.out
        have ho1 := hk1.keep (KeepB.of_below HBL.out); have ho2 := hk2.keep (KeepB.of_below HBL.out)
        have d0 : wr.cell? ⟨e1, 0, none⟩ = some (.slice t.A t.x.adr.size t.c) := hw1.cell 0
        have d1 : wr.cell? ⟨u1, 0, none⟩ = some (.slice t'.A t'.x.adr.size t'.c) := hw2.cell 0
        have c1 : wr.cell? ax = some (.pointer (some ⟨e1, 0, none⟩)) := (HBL.out.cell bx).trans cx0
        have c2 : wr.cell? ay = some (.pointer (some ⟨u1, 0, none⟩)) := (HBL.out.cell by_).trans cy0
        have KC := fun q => bcompare_any t.x.adr t'.x.adr t.A t'.A t.c t'.c (wr.drewN q) ho1.1 ho2.1
        have hmg := HMG.out
        have hst := HOM.out.stored M.length (.pointer (some ⟨e1, 0, none⟩))
        have hlm : M.length < N := by simp only [List.length_cons] at hMN; omega
        have hfz : ∀ i, wr.frozen? ⟨w2.heap.size, i, none⟩ = false := own_free HOM.out
        have hov : ∀ x : Nat, (overL (ptrs M) old).set M.length (.pointer (some ⟨x, 0, none⟩)) = overL (ptrs M ++ [.pointer (some ⟨x, 0, none⟩)]) old := fun x => by
          have := overL_set (ptrs M) old (.pointer (some ⟨x, 0, none⟩)) (by rw [hml, HOLD.out]; exact hlm)
          rwa [hml] at this
        obtain ⟨ov, hovv⟩ : ∃ ov, wr.cell? ⟨w2.heap.size, M.length, none⟩ = some ov := by
          have := HOM.out.cellAt M.length (by omega)
          exact ⟨_, this.trans (List.getElem?_eq_getElem (by have := HOM.out.1; omega))⟩
        simp only [List.length_cons] at *
        by_cases hab : adrB t.x t'.x = true
        · have hcb : Lib.compareBytes t.x.adr.data.toList t'.x.adr.data.toList < 0 := by
            have := (less_iff _ _).1 hab
            rwa [toList_data, toList_data] at this
          rw [mergeV, if_pos hab] at hmg
          have HMG2 := Lib.hid hmg
          have HW := Lib.hid hov
          clear hmg hov hab hst hw1 hw2 ho1 ho2 hv1 hv2 hk1 hk2 hE1 hU1 HMG
          go_wp2
          go_quiet ((exact quietL (KC _)))
          go_wp2
          exact ⟨⟨es, (u1, t') :: us, M ++ [(e1, t)], _, some ay, cx - 1, cy, rfl, by simp only [List.length_cons], by simp, by omega, by simp only [List.length_cons]; omega, by simp; omega, by show _ = _; rw [← HMG2.out]; simp, (fun p => ⟨fun hp => (HMEM.out p).1 (List.mem_cons_of_mem _ hp), (HMEM.out p).2⟩), htx, HRY.out, by have h1 := ((own_drewN HOM.out nq).stored M.length (.pointer (some ⟨e1, 0, none⟩))).1; rw [HW.out] at h1; show World.ownsRow _ _ _ _ _ _ _; rw [ptrs_snoc]; exact h1, (below_drewN HBL.out nq).setCell (p := ⟨w2.heap.size, M.length, none⟩) (Nat.le_refl _) _⟩, by simp [lenOf]⟩
        · have hcb : ¬ Lib.compareBytes t.x.adr.data.toList t'.x.adr.data.toList < 0 := fun hc => hab ((less_iff _ _).2 (by rw [toList_data, toList_data]; exact hc))
          cases hsm : t.x.adr.toList == t'.x.adr.toList with
          | true =>
            rw [mergeV, if_neg hab, if_pos hsm] at hmg
            have HMG2 := Lib.hid hmg; have HV1 := Lib.hid hv1; have HV2' := Lib.hid hv2; have HK1 := Lib.hid hk1; have HK2 := Lib.hid hk2; have HX0 := Lib.hid cx0; have HY0 := Lib.hid cy0; have HSM := Lib.hid hsm
            have HW := Lib.hid hov
            clear hmg hov hab hst hw1 hw2 ho1 ho2 hv1 hv2 hk1 hk2 hE1 hU1 HMG cx0 cy0 hsm
            go_wp2
            go_quiet ((exact quietL (KC _)))
            go_wp2
            have hb7 : Below w2.heap.size w2 ((wr.drewN nq).setCell ⟨w2.heap.size, M.length, none⟩ (.pointer (some ⟨u1, 0, none⟩))) := (below_drewN HBL.out nq).setCell (p := ⟨w2.heap.size, M.length, none⟩) (Nat.le_refl _) _
            have ho7 : World.ownsRow ((wr.drewN nq).setCell ⟨w2.heap.size, M.length, none⟩ (.pointer (some ⟨u1, 0, none⟩))) w.heap.size 126 1 (.slice (some ⟨w2.heap.size, 0, none⟩) N N) N (overL (ptrs (M ++ [(u1, t')])) old) := by have h1 := ((own_drewN HOM.out nq).stored M.length (.pointer (some ⟨u1, 0, none⟩))).1; rw [HW.out] at h1; show World.ownsRow _ _ _ _ _ _ _; rw [ptrs_snoc]; exact h1
            have HB7 := Lib.hid hb7; have HO7 := Lib.hid ho7
            clear hb7 ho7 c1 c2 d0 d1 hovv hfz KC
            generalize (wr.drewN nq).setCell ⟨w2.heap.size, M.length, none⟩ (.pointer (some ⟨u1, 0, none⟩)) = w7 at *
            have c1 : w7.cell? ax = some (.pointer (some ⟨e1, 0, none⟩)) := (HB7.out.cell bx).trans HX0.out
            have c2 : w7.cell? ay = some (.pointer (some ⟨u1, 0, none⟩)) := (HB7.out.cell by_).trans HY0.out
            have d0 : w7.cell? ⟨e1, 0, none⟩ = some (.slice t.A t.x.adr.size t.c) := (HV1.out.belowS HB7.out).cell 0
            have d1 : w7.cell? ⟨u1, 0, none⟩ = some (.slice t'.A t'.x.adr.size t'.c) := (HV2'.out.belowS HB7.out).cell 0
            have KQ := fun q => bequal_any t.x.adr t'.x.adr t.A t'.A t.c t'.c (w7.drewN q) ((HK1.out.keep (KeepB.of_below HB7.out)).drewN q).1 ((HK2.out.keep (KeepB.of_below HB7.out)).drewN q).1
            rw [HSM.out] at KQ
            go_quiet ((exact quietL (KQ _)))
            go_wp2
            exact ⟨⟨es, us, M ++ [(u1, t')], _, _, cx - 1, cy - 1, rfl, rfl, by simp, by omega, by omega, by simp; omega, by show _ = _; rw [← HMG2.out]; simp, (fun p => ⟨fun hp => (HMEM.out p).1 (List.mem_cons_of_mem _ hp), fun hp => (HMEM.out p).2 (List.mem_cons_of_mem _ hp)⟩), htx, hty, own_drewN HO7.out _, below_drewN HB7.out _⟩, by simp [lenOf]; omega⟩
          | false =>
            rw [mergeV, if_neg hab, if_neg (by rw [hsm]; simp)] at hmg
            have HMG2 := Lib.hid hmg; have HV1 := Lib.hid hv1; have HV2' := Lib.hid hv2; have HK1 := Lib.hid hk1; have HK2 := Lib.hid hk2; have HX0 := Lib.hid cx0; have HY0 := Lib.hid cy0; have HSM := Lib.hid hsm
            have HW := Lib.hid hov
            clear hmg hov hab hst hw1 hw2 ho1 ho2 hv1 hv2 hk1 hk2 hE1 hU1 HMG cx0 cy0 hsm
            go_wp2
            go_quiet ((exact quietL (KC _)))
            go_wp2
            have hb7 : Below w2.heap.size w2 ((wr.drewN nq).setCell ⟨w2.heap.size, M.length, none⟩ (.pointer (some ⟨u1, 0, none⟩))) := (below_drewN HBL.out nq).setCell (p := ⟨w2.heap.size, M.length, none⟩) (Nat.le_refl _) _
            have ho7 : World.ownsRow ((wr.drewN nq).setCell ⟨w2.heap.size, M.length, none⟩ (.pointer (some ⟨u1, 0, none⟩))) w.heap.size 126 1 (.slice (some ⟨w2.heap.size, 0, none⟩) N N) N (overL (ptrs (M ++ [(u1, t')])) old) := by have h1 := ((own_drewN HOM.out nq).stored M.length (.pointer (some ⟨u1, 0, none⟩))).1; rw [HW.out] at h1; show World.ownsRow _ _ _ _ _ _ _; rw [ptrs_snoc]; exact h1
            have HB7 := Lib.hid hb7; have HO7 := Lib.hid ho7
            clear hb7 ho7 c1 c2 d0 d1 hovv hfz KC
            generalize (wr.drewN nq).setCell ⟨w2.heap.size, M.length, none⟩ (.pointer (some ⟨u1, 0, none⟩)) = w7 at *
            have c1 : w7.cell? ax = some (.pointer (some ⟨e1, 0, none⟩)) := (HB7.out.cell bx).trans HX0.out
            have c2 : w7.cell? ay = some (.pointer (some ⟨u1, 0, none⟩)) := (HB7.out.cell by_).trans HY0.out
            have d0 : w7.cell? ⟨e1, 0, none⟩ = some (.slice t.A t.x.adr.size t.c) := (HV1.out.belowS HB7.out).cell 0
            have d1 : w7.cell? ⟨u1, 0, none⟩ = some (.slice t'.A t'.x.adr.size t'.c) := (HV2'.out.belowS HB7.out).cell 0
            have KQ := fun q => bequal_any t.x.adr t'.x.adr t.A t'.A t.c t'.c (w7.drewN q) ((HK1.out.keep (KeepB.of_below HB7.out)).drewN q).1 ((HK2.out.keep (KeepB.of_below HB7.out)).drewN q).1
            rw [HSM.out] at KQ
            go_quiet ((exact quietL (KQ _)))
            go_wp2
            exact ⟨⟨(e1, t) :: es, us, M ++ [(u1, t')], some ax, _, cx, cy - 1, by simp only [List.length_cons], rfl, by simp, by simp only [List.length_cons]; omega, by omega, by simp; omega, by show _ = _; rw [← HMG2.out]; simp, (fun p => ⟨(HMEM.out p).1, fun hp => (HMEM.out p).2 (List.mem_cons_of_mem _ hp)⟩), HRX.out, hty, own_drewN HO7.out _, below_drewN HB7.out _⟩, by simp [lenOf]⟩
end Go.Proofs.YtikikddkhikfkaaGreatDoor

set_option linter.all false
namespace Go.Proofs.YtikikddkhikfkaaGreatDoor
open Go.RowKit

def sameA (e d : Nat × Tv) : Bool := e.2.x.adr.toList == d.2.x.adr.toList
/-- a list without those of the addresses of another one, both by address -/
def remV : List (Nat × Tv) → List (Nat × Tv) → List (Nat × Tv)
  | [], _ => []
  | e :: es, [] => e :: es
  | e :: es, d :: ds => if sameA e d then remV es ds else e :: remV es (d :: ds)
/-- is everyone of the second list met in the first one's order? -/
def fitV : List (Nat × Tv) → List (Nat × Tv) → Bool
  | _, [] => true
  | [], _ :: _ => false
  | e :: es, d :: ds => if sameA e d then fitV es ds else fitV es (d :: ds)
theorem remV_nil (E : List (Nat × Tv)) : remV E [] = E := by cases E <;> simp [remV]
theorem fitV_le : ∀ (E D : List (Nat × Tv)), fitV E D = true → D.length ≤ E.length ∧ (remV E D).length = E.length - D.length
  | E, [] => fun _ => by rw [remV_nil]; simp
  | [], _ :: _ => fun h => by simp [fitV] at h
  | e :: es, d :: ds => fun h => by
    rw [fitV] at h
    rw [remV]
    by_cases hs : sameA e d = true
    · rw [if_pos hs] at h ⊢
      have := fitV_le es ds h
      simp only [List.length_cons]; omega
    · rw [if_neg hs] at h ⊢
      have := fitV_le es (d :: ds) h
      simp only [List.length_cons] at *; omega
theorem remV_sub : ∀ (E D : List (Nat × Tv)), (remV E D).Sublist E
  | [], D => by simp [remV]
  | e :: es, [] => by rw [remV_nil]; exact List.Sublist.refl _
  | e :: es, d :: ds => by
    rw [remV]
    split
    · exact (remV_sub es ds).cons e
    · exact (remV_sub es (d :: ds)).cons_cons e
theorem rem_fin {w2 wr : World} {lo g N c base m n0 : Nat} {A : Option Addr} {bs : List Nat} {ts : List Tv} {prop : Value} {tot : Int} {same : Bool} {old : List Value}
    (hv2 : VRow w2 lo A c bs ts) (hb : Below w2.heap.size w2 wr) (hhd : Blk wr g 128 #[.slice A n0 c, prop, .int .i64 tot, .bool same]) (hlog : lo ≤ g) (hlo : lo ≤ base)
    (P D : List (Nat × Tv)) (hP : P = remV (bs.zip ts) D) (hPN : P.length ≤ N) (ho : wr.ownsRow base 126 1 (.slice (some ⟨m, 0, none⟩) N N) N (overL (ptrs P) old)) :
    VSet (wr.setCell ⟨g, 0, none⟩ (.slice (some ⟨m, 0, none⟩) P.length N)) lo g (some ⟨m, 0, none⟩) N (P.map Prod.fst) (P.map Prod.snd) prop tot same := by
  have hsub : P.Sublist (bs.zip ts) := by rw [hP]; exact remV_sub _ _
  have hval : ∀ p ∈ P, lo ≤ p.1 ∧ Blk w2 p.1 136 p.2.val ∧ p.2.ok w2 := fun p hp => by
    obtain ⟨j, hj⟩ := List.getElem?_of_mem (hsub.subset hp)
    rw [List.getElem?_zip_eq_some] at hj
    exact hv2.vals j _ _ hj.1 hj.2
  have hne : some g ≠ (Value.slice (some ⟨m, 0, none⟩) N N).ownBlock := own_ne_blk ho hhd (by decide)
  refine ⟨?_, ?_, by simp, ?_, fun j b t hb' ht => ?_, hlog⟩
  · have := hhd.put 0 (.slice (some ⟨m, 0, none⟩) P.length N)
    simpa using this
  · have h1 := own_cut (own_monoE (own_far ho (p := ⟨g, 0, none⟩) hne (.slice (some ⟨m, 0, none⟩) P.length N)) hlo) hPN
    have h2 : (overL (ptrs P) old).take P.length = (P.map Prod.fst).map ptrTo := by
      unfold overL
      rw [List.take_left' (by simp [ptrs]), ptrs_eq]
    rw [h2] at h1
    rw [List.length_map]; exact h1
  · have h1 := hsub.map Prod.fst
    rw [List.map_fst_zip (by have := hv2.len; omega)] at h1
    exact h1.nodup hv2.nodup
  · rw [List.getElem?_map] at hb' ht
    cases hq : P[j]? with
    | none => rw [hq] at hb'; cases hb'
    | some q =>
      rw [hq] at hb' ht
      cases hb'; cases ht
      obtain ⟨h1, h2, h3⟩ := hval q (List.mem_of_getElem? hq)
      have hw := h2.belowS hb
      have hqg : q.1 ≠ g := Blk.ne hw hhd (by decide)
      exact ⟨h1, hw.far (p := ⟨g, 0, none⟩) hqg _, (h3.keep (KeepB.of_below hb)).keep (KeepB.setCell (p := ⟨g, 0, none⟩) hhd (by decide) _)⟩
set_option maxRecDepth 100000 in
set_option maxHeartbeats 6400000 in
theorem appRem_any (lo g : Nat) (A : Option Addr) (c : Nat) (bs : List Nat) (ts : List Tv) (prop : Value) (tot : Int) (same : Bool) (w2 : World) (h : VSet w2 lo g A c bs ts prop tot same) (hn : bs.length ≤ 2000) (lo' : Nat) (Au : Option Addr) (cu : Nat) (bu : List Nat) (tu : List Tv) (hu : VRow w2 lo' Au cu bu tu) (hfit : fitV (bs.zip ts) (bu.zip tu) = true) :
    Calls Tryz.prog 105 #[ptrTo g, .slice Au bu.length cu] w2 fun e w' => e = .returned (.tuple #[]) ∧ ∃ (A' : Option Addr) (c' : Nat) (P : List (Nat × Tv)), P = remV (bs.zip ts) (bu.zip tu) ∧ VSet w' lo g A' c' (P.map Prod.fst) (P.map Prod.snd) prop tot same ∧ OnlyR g none w2 w' := by
  obtain ⟨i0, hi0, hz0, hz1, hz2⟩ := info_parts infoPVal
  have HI := Lib.hid hi0; have HZ0 := Lib.hid hz0; have HZ1 := Lib.hid hz1; have HZ2 := Lib.hid hz2
  clear hi0 hz0 hz1 hz2
  have h0 : w2.cell? ⟨g, 0, none⟩ = some (.slice A bs.length c) := h.head.cell 0
  have hle := (fitV_le _ _ hfit).1
  obtain ⟨E0, hE0⟩ : ∃ E0, E0 = bs.zip ts := ⟨_, rfl⟩
  obtain ⟨U0, hU0⟩ : ∃ U0, U0 = bu.zip tu := ⟨_, rfl⟩
  have hEl : E0.length = bs.length := by rw [hE0, List.length_zip, h.len, Nat.min_self]
  have hUl : U0.length = bu.length := by rw [hU0, List.length_zip, hu.len, Nat.min_self]
  have hrE : Rd w2 w2.heap.size 1 A E0.length (ptrs E0) := by
    have h1 := Rd.of_own h.row
    rw [hEl, ptrs_eq, hE0, List.map_fst_zip (by have := h.len; omega)]; exact h1
  have hrU : Rd w2 w2.heap.size 1 Au U0.length (ptrs U0) := by
    have h1 := Rd.of_own hu.row
    rw [hUl, ptrs_eq, hU0, List.map_fst_zip (by have := hu.len; omega)]; exact h1
  have hval : ∀ p, p ∈ E0 ∨ p ∈ U0 → Blk w2 p.1 136 p.2.val ∧ p.2.ok w2 := fun p hp => by
    rcases hp with hp | hp
    · obtain ⟨j, hj⟩ := List.getElem?_of_mem hp
      rw [hE0, List.getElem?_zip_eq_some] at hj
      exact (h.vals j _ _ hj.1 hj.2).2
    · obtain ⟨j, hj⟩ := List.getElem?_of_mem hp
      rw [hU0, List.getElem?_zip_eq_some] at hj
      exact hu.validator hj.1 hj.2
  have hcE : E0.length ≤ c := by have := own_capE h.row; omega
  have hcU : U0.length ≤ cu := by have := own_capE hu.row; omega
  rw [← hE0, ← hU0] at hfit hle
  rw [hEl, hUl] at hle
  obtain ⟨N, hN⟩ : ∃ N : Nat, (bs.length : Int) - (bu.length : Int) = (N : Int) := ⟨bs.length - bu.length, by omega⟩
  have hbz : bs.length ≤ 2000 ∧ bu.length ≤ 2000 := by omega
  have H := Lib.hid h; have HFIT := Lib.hid hfit; have HVAL := Lib.hid hval; have HRE := Lib.hid hrE; have HRU := Lib.hid hrU; have HE0 := Lib.hid hE0; have HU0 := Lib.hid hU0; have HEL := Lib.hid hEl; have HUL := Lib.hid hUl
  clear h hu hfit hval hrE hrU hE0 hU0
  unfold ptrTo
  go_enter Tryz.func105, Tryz.ntmps105
  go_wp2_with (refine wpList_make_full _ rfl (.tmp 16) (.tmp 16) 125 rfl w2.heap.size 126 i0 _ 1 Tryz.underlying125 HI.out HZ0.out HZ1.out .i64 .i64 N N N rfl rfl rfl rfl ?b2 ?b3 (Nat.le_refl _) ?_; (case b2 => rw [HZ2.out]; omega); (case b3 => simp only [maxLen]; omega); intro w3 ho3 hg3; have HO3 := Lib.hid ho3; have HG3 := Lib.hid hg3; clear ho3 hg3)
  generalize (madeCells (Value.pointer none).cells (N * 1)).toList = old at *
  have hold : old.length = N := by have := HO3.out.1; simpa using this
  have HOLD := Lib.hid hold; clear hold
  have hb3 : Below w2.heap.size w2 w3 := (Below.refl w2.heap.size w2).grown HG3.out (Nat.le_refl _) (by simp)
  have HB3 := Lib.hid hb3; clear hb3
  have hNE : N + U0.length = E0.length := by omega
  have hN2 : N ≤ 2000 := by omega
  rw [← hEl, ← hUl]
  have HNN := Lib.hid hN
  clear hEl hUl hN hle
  go_loopw [1, 4, 6] (fun v1 v4 v6 wr => ∃ (E U M : List (Nat × Tv)) (X Y : Option Addr) (cx cy : Nat), v4 = .slice X E.length cx ∧ v1 = .slice Y U.length cy ∧ v6 = .int .i64 M.length ∧ E.length ≤ cx ∧ U.length ≤ cy ∧ M.length + E.length = N + U.length ∧ Hid (M ++ remV E U = remV E0 U0) ∧ Hid (fitV E U = true) ∧
      Hid (∀ p, (p ∈ E → p ∈ E0) ∧ (p ∈ U → p ∈ U0)) ∧ Hid (Rd w2 w2.heap.size 1 X E.length (ptrs E)) ∧ Hid (Rd w2 w2.heap.size 1 Y U.length (ptrs U)) ∧ Hid (wr.ownsRow w2.heap.size 126 1 (.slice (some ⟨w2.heap.size, 0, none⟩) N N) N (overL (ptrs M) old)) ∧ Hid (Below w2.heap.size w2 wr)) (fun _ v4 _ _ => lenOf v4)
  case atStart => exact ⟨E0, U0, [], A, Au, c, cu, rfl, rfl, rfl, hcE, hcU, by simp; omega, rfl, HFIT.out, (fun p => ⟨id, id⟩), HRE.out, HRU.out, by show World.ownsRow _ _ _ _ _ _ _; simpa [overL, ptrs] using HO3.out, HB3.out⟩
  case round =>
    obtain ⟨E, U, M, X, Y, cx, cy, rfl, rfl, rfl, hcx, hcy, hMN, HMG, HFT, HMEM, HRX, HRY, HOM, HBL⟩ := hrel
    have hml : (ptrs M).length = M.length := by simp [ptrs]
    cases U with
    | nil =>
      have hmg := HMG.out
      rw [remV_nil] at hmg
      have HMG2 := Lib.hid hmg
      clear hmg HMG HFT
      simp only [List.length_nil] at hMN hcy ⊢
      generalize hl1 : E.length = n1 at *
      have hl1' := Lib.hid hl1
      obtain ⟨w9, rfl⟩ : ∃ x : World, x = wr := ⟨_, rfl⟩
      go_wp2
      go_loopw [6, 7] (fun v6 v7 wq => ∃ (j k6 : Nat), j ≤ n1 ∧ v7 = .int .i64 j ∧ v6 = .int .i64 k6 ∧ Hid (k6 = (M).length + j) ∧ Hid (wq.ownsRow w2.heap.size 126 1 (.slice (some ⟨w2.heap.size, 0, none⟩) N N) N (overL (ptrs ((M) ++ (E).take j)) old)) ∧ Hid (Below w2.heap.size w2 wq)) (fun _ v7 _ => n1 - (intOf v7).toNat)
      case atStart => exact ⟨0, _, Nat.zero_le _, rfl, rfl, rfl, by show World.ownsRow _ _ _ _ _ _ _; rw [List.take_zero, List.append_nil]; exact HOM.out, HBL.out⟩
      case round =>
        obtain ⟨j, k6, hj, rfl, rfl, HK6, HOJ, HBJ⟩ := hrel
        have hk6 := HK6.out
        by_cases hjl : j < n1
        · obtain ⟨⟨x1, t1⟩, hx1⟩ : ∃ p, (E)[j]? = some p := ⟨_, List.getElem?_eq_getElem (by omega)⟩
          obtain ⟨ax, hXe, bx, cx0⟩ := HRX.out.2 j (.pointer (some ⟨x1, 0, none⟩)) (by simp [ptrs, hx1])
          have c1 : wr.cell? (ax.add j) = some (.pointer (some ⟨x1, 0, none⟩)) := (HBJ.out.cell (by rw [show (ax.add j).block = ax.block from by unfold Addr.add; split <;> rfl]; exact bx)).trans cx0
          have hfz : ∀ i, wr.frozen? ⟨w2.heap.size, i, none⟩ = false := own_free HOJ.out
          have hjx := List.getElem?_eq_some_iff.1 hx1
          have hst : ((M) ++ (E).take (j + 1)) = ((M) ++ (E).take j) ++ [(x1, t1)] := by (rw [List.take_succ_eq_append_getElem hjx.1, hjx.2]; simp only [List.append_assoc])
          have hlp : (ptrs ((M) ++ (E).take j)).length = k6 := by (have hq := HK6.out; (try simp only [List.length_append] at hq); simp [ptrs]; omega)
          have hkN : k6 < N := by
            have hq := HK6.out
            (try simp only [List.length_append] at hq)
            omega
          have hov := overL_set (ptrs ((M) ++ (E).take j)) old (.pointer (some ⟨x1, 0, none⟩)) (by rw [hlp, HOLD.out]; exact hkN)
          rw [hlp] at hov
          obtain ⟨ov, hovv⟩ : ∃ ov, wr.cell? ⟨w2.heap.size, k6, none⟩ = some ov := by
            have := HOJ.out.cellAt k6 (by omega)
            exact ⟨_, this.trans (List.getElem?_eq_getElem (by have := HOJ.out.1; omega))⟩
          have hs6 := (HOJ.out.stored k6 (.pointer (some ⟨x1, 0, none⟩))).1
          rw [hov, ← ptrs_snoc _ (x1, t1), ← hst] at hs6
          have HS6 := Lib.hid hs6; have hb6 := HBJ.out.setCell (p := ⟨w2.heap.size, k6, none⟩) (Nat.le_refl _) (.pointer (some ⟨x1, 0, none⟩))
          have HB6 := Lib.hid hb6
          clear hs6 hb6 hov hst hlp hjx cx0 bx hx1 hk6
          subst hXe
          go_wp2
          go_roundw
          case rel => exact ⟨j + 1, k6 + 1, by omega, by go_num, by go_num, by have := HK6.out; show _ = _; omega, HS6.out, HB6.out⟩
          case measure => simp [intOf]; omega
        · obtain rfl : n1 = j := by omega
          have hhd := H.out.head.belowS HBJ.out
          have q0 : wr.cell? ⟨g, 0, none⟩ = some (.slice A bs.length c) := hhd.cell 0
          have f0 : wr.frozen? ⟨g, 0, none⟩ = false := hhd.free 0
          have hkN : k6 ≤ N := by (have hq := HK6.out; omega)
          go_wp2
          go_end0
          have hK : k6 = (remV E0 U0).length := by have hq := HK6.out; rw [← HMG2.out]; simp only [List.length_append] at hq ⊢; have := hl1'.out; omega
          have hoF := HOJ.out
          rw [List.take_of_length_le (by have := hl1'.out; omega), HMG2.out] at hoF
          have hlo : lo ≤ w2.heap.size := by have := H.out.log; have := H.out.head.lt; omega
          have hPe : remV E0 U0 = remV (bs.zip ts) (bu.zip tu) := by rw [HE0.out, HU0.out]
          have hfin := rem_fin H.out.vrow HBJ.out hhd H.out.log hlo (remV E0 U0) (bu.zip tu) (by rw [HE0.out, HU0.out]) (by omega) hoF
          rw [← hK] at hfin
          have hk7 : k6 = N := by have hq := HK6.out; omega
          rw [hk7] at hfin
          refine ⟨rfl, _, _, remV E0 U0, hPe, hfin, ?_⟩
          refine ⟨HBJ.out.os, HBJ.out.tape, HBJ.out.output, by have := HBJ.out.size; simp [World.setCell]; omega, fun k hk hkg hkr => ?_, (KeepB.of_below HBJ.out).trans (KeepB.setCell (p := ⟨g, 0, none⟩) hhd (by decide) _)⟩
          rw [Below.heap_setCell wr ⟨g, 0, none⟩ _ k hkg, HBJ.out.block k (by omega)]
    | cons u us =>
      cases E with
      | nil => have := HFT.out; simp [fitV] at this
      | cons e es =>
        obtain ⟨e1, t⟩ := e
        obtain ⟨u1, t'⟩ := u
        have hft := HFT.out
        rw [fitV] at hft
        obtain ⟨ax, rfl, cx0, bx, htx⟩ := Rd.tail (r := ptrs es) HRX.out hcx
        obtain ⟨ay, rfl, cy0, by_, hty⟩ := Rd.tail (r := ptrs us) HRY.out hcy
        have hE1 := (HMEM.out (e1, t)).1 (by simp)
        have hU1 := (HMEM.out (u1, t')).2 (by simp)
        obtain ⟨hv1, hk1⟩ := HVAL.out _ (.inl hE1)
        obtain ⟨hv2, hk2⟩ := HVAL.out _ (.inr hU1)
        have hw1 := hv1.belowS HBL.out; have hw2 := hv2.belowS HBL.out
        have ho1 := hk1.keep (KeepB.of_below HBL.out); have ho2 := hk2.keep (KeepB.of_below HBL.out)
        have d0 : wr.cell? ⟨e1, 0, none⟩ = some (.slice t.A t.x.adr.size t.c) := hw1.cell 0
        have d1 : wr.cell? ⟨u1, 0, none⟩ = some (.slice t'.A t'.x.adr.size t'.c) := hw2.cell 0
        have c1 : wr.cell? ax = some (.pointer (some ⟨e1, 0, none⟩)) := (HBL.out.cell bx).trans cx0
        have c2 : wr.cell? ay = some (.pointer (some ⟨u1, 0, none⟩)) := (HBL.out.cell by_).trans cy0
        have KQ := fun q => bequal_any t.x.adr t'.x.adr t.A t'.A t.c t'.c (wr.drewN q) ho1.1 ho2.1
        have hmg := HMG.out
        rw [remV] at hmg
        simp only [List.length_cons] at *
        cases hsm : t.x.adr.toList == t'.x.adr.toList with
        | true =>
          rw [if_pos (show sameA (e1, t) (u1, t') = true from hsm)] at hmg hft
          have HMG2 := Lib.hid hmg; have HFT2 := Lib.hid hft
          rw [hsm] at KQ
          clear hmg hft hsm hw1 hw2 ho1 ho2 hv1 hv2 hk1 hk2 hE1 hU1 HMG HFT
          go_wp2
          go_quiet ((exact quietL (KQ _)))
          go_wp2
          exact ⟨⟨es, us, M, _, _, cx - 1, cy - 1, rfl, rfl, rfl, by omega, by omega, by omega, HMG2.out, HFT2.out, (fun p => ⟨fun hp => (HMEM.out p).1 (List.mem_cons_of_mem _ hp), fun hp => (HMEM.out p).2 (List.mem_cons_of_mem _ hp)⟩), htx, hty, own_drewN HOM.out nq, below_drewN HBL.out nq⟩, by simp [lenOf]⟩
        | false =>
          rw [if_neg (show ¬ sameA (e1, t) (u1, t') = true from by show ¬ (t.x.adr.toList == t'.x.adr.toList) = true; rw [hsm]; simp)] at hmg hft
          have hfl := (fitV_le _ _ hft).1
          simp only [List.length_cons] at hfl
          have hst := HOM.out.stored M.length (.pointer (some ⟨e1, 0, none⟩))
          have hlm : M.length < N := by omega
          have hfz : ∀ i, wr.frozen? ⟨w2.heap.size, i, none⟩ = false := own_free HOM.out
          have hov : (overL (ptrs M) old).set M.length (.pointer (some ⟨e1, 0, none⟩)) = overL (ptrs M ++ [.pointer (some ⟨e1, 0, none⟩)]) old := by
            have := overL_set (ptrs M) old (.pointer (some ⟨e1, 0, none⟩)) (by rw [hml, HOLD.out]; exact hlm)
            rwa [hml] at this
          obtain ⟨ov, hovv⟩ : ∃ ov, wr.cell? ⟨w2.heap.size, M.length, none⟩ = some ov := by
            have := HOM.out.cellAt M.length (by omega)
            exact ⟨_, this.trans (List.getElem?_eq_getElem (by have := HOM.out.1; omega))⟩
          have HMG2 := Lib.hid hmg; have HFT2 := Lib.hid hft
          have HW := Lib.hid hov
          rw [hsm] at KQ
          rw [if_neg (by omega)] at htx
          clear hmg hft hsm hov hst hw1 hw2 ho1 ho2 hv1 hv2 hk1 hk2 hE1 hU1 HMG HFT
          go_wp2
          go_quiet ((exact quietL (KQ _)))
          go_wp2
          exact ⟨⟨es, (u1, t') :: us, M ++ [(e1, t)], _, some ay, cx - 1, cy, rfl, by simp only [List.length_cons], by simp, by omega, by simp only [List.length_cons]; omega, by simp; omega, by show _ = _; rw [← HMG2.out]; simp, HFT2.out, (fun p => ⟨fun hp => (HMEM.out p).1 (List.mem_cons_of_mem _ hp), (HMEM.out p).2⟩), htx, HRY.out, by have h1 := ((own_drewN HOM.out nq).stored M.length (.pointer (some ⟨e1, 0, none⟩))).1; rw [HW.out] at h1; show World.ownsRow _ _ _ _ _ _ _; rw [ptrs_snoc]; exact h1, (below_drewN HBL.out nq).setCell (p := ⟨w2.heap.size, M.length, none⟩) (Nat.le_refl _) _⟩, by simp [lenOf]⟩
end Go.Proofs.YtikikddkhikfkaaGreatDoor
