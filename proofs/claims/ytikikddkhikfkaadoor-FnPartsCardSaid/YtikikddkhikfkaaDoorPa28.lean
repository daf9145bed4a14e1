/-
  The trails of a tree of sums: trailsFromByteSlicesInternal, trailsFromByteSlices: walks. By the session.
-/
import Derived.Test.YtikikddkhikfkaaDoorPa27
import Derived.Test.YtikikddkhikfkaaDoorPa14
import Derived.Test.YtikikddkhikfkaaDoorPa12
import Derived.Test.YtikikddkhikfkaaDoorPa5
set_option linter.all false
namespace Go.Proofs.YtikikddkhikfkaaDoor
open Go.RowKit

theorem infoPN : (Tryd.prog.info? 191).map (fun i => (i.zero, i.size, i.bytes)) = some (some (.pointer none), 1, 8) := by kernel_rfl
theorem grown_new {w w1 w2 : World} {g row : Option Nat} (h : w.grownBy w1 g) (h2 : w1.grownBy w2 row) (hr : ∀ k, row = some k → w.heap.size ≤ k) : w.grownBy w2 g :=
  ⟨h2.os.trans h.os, h2.tape.trans h.tape, h2.output.trans h.output, Nat.le_trans h.size h2.size, fun k hk hne => (h2.block k (Nat.lt_of_lt_of_le hk h.size) (by intro e; have := hr k e.symm; omega)).trans (h.block k hk hne)⟩
/-- what a call on the trails leaves -/
structure TrailsAt (w w' : World) (gd : Nat) (l : List (List UInt8)) (A : Option Addr) (c r : Nat) (bs : List Nat) (RA : Option Addr) (rc : Nat) : Prop where
  row : w'.ownsRow w.heap.size 191 1 (.slice A l.length c) l.length (bs.map ptrTo)
  lo : w.heap.size ≤ r
  root : Blk w' r 195 (nodeC RA (rootL l) rc none none none)
  sum : Own8 w' w.heap.size RA 32 rc (rootL l)
  ways : ∀ i p, bs[i]? = some p → Trail w' w.heap.size w.heap.size w'.heap.size r l i p
  dg : DgAny w' gd
  grown : w.grownBy w' (some gd)
def TrailsQ (w : World) (gd : Nat) (l : List (List UInt8)) (e : Ending) (w' : World) : Prop :=
  ∃ A c r bs RA rc, e = .returned (.tuple #[.slice A l.length c, .pointer (some ⟨r, 0, none⟩)]) ∧ TrailsAt w w' gd l A c r bs RA rc
theorem TrailsAt.len {w w' : World} {gd c r rc : Nat} {l : List (List UInt8)} {A RA : Option Addr} {bs : List Nat} (h : TrailsAt w w' gd l A c r bs RA rc) : bs.length = l.length := by
  have := h.row.1; rw [List.length_map] at this; omega
theorem DgAny.far {w : World} {gd r : Nat} (h : DgAny w gd) (hne : gd ≠ r) (o : Nat) (u : Value) : DgAny (w.setCell ⟨r, o, none⟩ u) gd := by
  obtain ⟨h0, x, nx, len, hx, hb⟩ := h
  exact ⟨h0, x, nx, len, hx, hb.far (p := ⟨r, o, none⟩) hne u⟩
/-- the world behind the four stores -/
def big (w3 : World) (A3 : Option Addr) (c3 r1 r2 : Nat) : World :=
  ((((w3.alloc (.cells #[.slice A3 32 c3, .pointer none, .pointer none, .pointer none] 195)).setCell ⟨r1, 1, none⟩ (.pointer (some ⟨w3.heap.size, 0, none⟩))).setCell ⟨r1, 3, none⟩ (.pointer (some ⟨r2, 0, none⟩))).setCell ⟨r2, 1, none⟩ (.pointer (some ⟨w3.heap.size, 0, none⟩))).setCell ⟨r2, 2, none⟩ (.pointer (some ⟨r1, 0, none⟩))
theorem trail_big {w w1 w2 w3 : World} {gd k r1 r2 c1 c2 rc1 rc2 c3 : Nat} {l : List (List UInt8)} {A1 A2 RA1 RA2 A3 : Option Addr} {bs1 bs2 : List Nat} (hl : 2 ≤ l.length) (hk : k = splitN l.length)
    (H1 : TrailsAt w w1 gd (l.take k) A1 c1 r1 bs1 RA1 rc1) (H2 : TrailsAt w1 w2 gd (l.drop k) A2 c2 r2 bs2 RA2 rc2) (hd3 : DgAny w3 gd) (hg3 : w2.grownBy w3 (some gd)) (ho3 : Own8 w3 w2.heap.size A3 32 c3 (rootL l)) (hgl : gd < w.heap.size) :
    (big w3 A3 c3 r1 r2).ownsRow w.heap.size 191 1 (.slice A1 (l.take k).length c1) (l.take k).length (bs1.map ptrTo) ∧
    (big w3 A3 c3 r1 r2).ownsRow w1.heap.size 191 1 (.slice A2 (l.drop k).length c2) (l.drop k).length (bs2.map ptrTo) ∧
    (∀ i p, (bs1 ++ bs2)[i]? = some p → Trail (big w3 A3 c3 r1 r2) w.heap.size w.heap.size (big w3 A3 c3 r1 r2).heap.size w3.heap.size l i p) ∧
    Blk (big w3 A3 c3 r1 r2) w3.heap.size 195 (nodeC A3 (rootL l) c3 none none none) ∧ Own8 (big w3 A3 c3 r1 r2) w.heap.size A3 32 c3 (rootL l) ∧ DgAny (big w3 A3 c3 r1 r2) gd ∧ w.grownBy (big w3 A3 c3 r1 r2) (some gd) ∧ w.heap.size ≤ w3.heap.size := by
  have s1 := H1.grown.size
  have s2 := H2.grown.size
  have s3 := hg3.size
  have q1 := H1.root.lt
  have q2 := H2.root.lt
  have l1 := H1.lo
  have l2 := H2.lo
  have hne : r1 ≠ r2 := by omega
  have k12 := KeepN.dg H2.grown H1.dg
  have k23 := KeepN.dg hg3 H2.dg
  have bl : Below w3.heap.size w3 (w3.alloc (.cells #[.slice A3 32 c3, .pointer none, .pointer none, .pointer none] 195)) := (Below.refl _ _).alloc (Nat.le_refl _) _
  have k3 := KeepN.below bl
  obtain ⟨V, hV⟩ : ∃ V, V = w3.alloc (.cells #[.slice A3 32 c3, .pointer none, .pointer none, .pointer none] 195) := ⟨_, rfl⟩
  have hnew : Blk V w3.heap.size 195 (nodeC A3 (rootL l) c3 none none none) := by
    have e : nodeC A3 (rootL l) c3 none none none = #[.slice A3 32 c3, .pointer none, .pointer none, .pointer none] := by unfold nodeC ptrO; rw [rootL_length]
    rw [e, hV]; exact Blk.new _ _ _
  rw [← hV] at bl k3
  have hVs : V.heap.size = w3.heap.size + 1 := by rw [hV]; simp
  have kV := (k12.trans k23).trans k3
  have b1 := kV.node _ _ H1.root
  have b2 := (k23.trans k3).node _ _ H2.root
  have o1 := H1.sum.keepN kV.byte
  have o2 := H2.sum.keepN (k23.trans k3).byte
  have o3 := ho3.keepN k3.byte
  have t1 : ∀ i p, bs1[i]? = some p → Trail V w.heap.size w.heap.size w1.heap.size r1 (l.take k) i p := fun i p h => (H1.ways i p h).keepN kV
  have t2 : ∀ i p, bs2[i]? = some p → Trail V w1.heap.size w1.heap.size w2.heap.size r2 (l.drop k) i p := fun i p h => (H2.ways i p h).keepN (k23.trans k3)
  have hb1 : bs1.length = k := by
    have h1 := H1.len
    have h2 := splitN_lt (n := l.length) (by omega)
    rw [List.length_take] at h1; omega
  have tj := trail_join hl hk hb1 t1 t2 b1 o1 b2 o2 l1 q1 l2 q2 s3
  have e : big w3 A3 c3 r1 r2 = ((((V.setCell ⟨r1, 1, none⟩ (ptrO (some w3.heap.size))).setCell ⟨r1, 3, none⟩ (ptrO (some r2))).setCell ⟨r2, 1, none⟩ (ptrO (some w3.heap.size))).setCell ⟨r2, 2, none⟩ (ptrO (some r1))) := by rw [hV]; rfl
  rw [e]
  have hsz : (((((V.setCell ⟨r1, 1, none⟩ (ptrO (some w3.heap.size))).setCell ⟨r1, 3, none⟩ (ptrO (some r2))).setCell ⟨r2, 1, none⟩ (ptrO (some w3.heap.size))).setCell ⟨r2, 2, none⟩ (ptrO (some r1)))).heap.size = w3.heap.size + 1 := by rw [← hVs]; simp [World.setCell]
  have far4 : ∀ j t cs, j ≠ r1 → j ≠ r2 → Blk V j t cs → Blk ((((V.setCell ⟨r1, 1, none⟩ (ptrO (some w3.heap.size))).setCell ⟨r1, 3, none⟩ (ptrO (some r2))).setCell ⟨r2, 1, none⟩ (ptrO (some w3.heap.size))).setCell ⟨r2, 2, none⟩ (ptrO (some r1))) j t cs := fun j t cs e1 e2 h =>
    (((h.far (p := ⟨r1, 1, none⟩) e1 _).far (p := ⟨r1, 3, none⟩) e1 _).far (p := ⟨r2, 1, none⟩) e2 _).far (p := ⟨r2, 2, none⟩) e2 _
  have own4 : ∀ base v n xs, V.ownsRow base 191 1 v n xs → ((((V.setCell ⟨r1, 1, none⟩ (ptrO (some w3.heap.size))).setCell ⟨r1, 3, none⟩ (ptrO (some r2))).setCell ⟨r2, 1, none⟩ (ptrO (some w3.heap.size))).setCell ⟨r2, 2, none⟩ (ptrO (some r1))).ownsRow base 191 1 v n xs := fun base v n xs h => by
    have g1 := (own_ne_blk h b1 (by decide)).symm
    have g2 := (own_ne_blk h b2 (by decide)).symm
    exact own_far (own_far (own_far (own_far h (p := ⟨r1, 1, none⟩) g1.symm _) (p := ⟨r1, 3, none⟩) g1.symm _) (p := ⟨r2, 1, none⟩) g2.symm _) (p := ⟨r2, 2, none⟩) g2.symm _
  have hr1 : V.ownsRow w.heap.size 191 1 (.slice A1 (l.take k).length c1) (l.take k).length (bs1.map ptrTo) := by
    have h1 := H1.row.kept (H2.grown.trans hg3) (.inr (by intro e; have := (H1.row.lt gd e).1; omega))
    rw [hV]; exact h1.alloc _
  have hr2 : V.ownsRow w1.heap.size 191 1 (.slice A2 (l.drop k).length c2) (l.drop k).length (bs2.map ptrTo) := by
    have h1 := H2.row.kept hg3 (.inr (by intro e; have := (H2.row.lt gd e).1; omega))
    rw [hV]; exact h1.alloc _
  have hdV : DgAny V gd := hd3.belowS bl
  refine ⟨own4 _ _ _ _ hr1, own4 _ _ _ _ hr2, ?_, far4 _ _ _ (by omega) (by omega) hnew, ?_, ?_, ?_, by omega⟩
  · rw [hsz]; exact tj
  · have := o3.more (B' := w.heap.size) (by omega)
    exact this.keepN fun j cs hb => far4 j _ cs (Blk.ne hb b1 (by decide)) (Blk.ne hb b2 (by decide)) hb
  · exact (((hdV.far (by omega) _ _).far (by omega) _ _).far (by omega) _ _).far (by omega) _ _
  · have g3 := ((H1.grown.trans H2.grown).trans hg3).trans (grownAny_of bl (some gd))
    have p1 : ∀ (q : Nat), w.heap.size ≤ q → ∀ j, some q = some j → w.heap.size ≤ j := fun q hq j e => by injection e with e; omega
    exact grown_new (grown_new (grown_new (grown_new g3 (grown_put _ r1 1 _) (p1 _ l1)) (grown_put _ r1 3 _) (p1 _ l1)) (grown_put _ r2 1 _) (p1 _ (by omega))) (grown_put _ r2 2 _) (p1 _ (by omega))
/-- behind the append -/
theorem trail_end {w W w9 : World} {gd k n r c1 c3 c9 : Nat} {l : List (List UInt8)} {A1 A3 A9 : Option Addr} {bs1 bs2 : List Nat} (h1 : W.ownsRow w.heap.size 191 1 (.slice A1 k c1) k (bs1.map ptrTo))
    (tw : ∀ i p, (bs1 ++ bs2)[i]? = some p → Trail W w.heap.size w.heap.size W.heap.size r l i p) (hb : Blk W r 195 (nodeC A3 (rootL l) c3 none none none)) (ho : Own8 W w.heap.size A3 32 c3 (rootL l)) (hd : DgAny W gd) (hg : w.grownBy W (some gd)) (hr : w.heap.size ≤ r)
    (hown : w9.ownsRow w.heap.size 191 1 (.slice A9 n c9) n (bs1.map ptrTo ++ bs2.map ptrTo)) (hn : n = l.length) (hg9 : W.grownBy w9 (Value.slice A1 k c1).ownBlock) (hgl : gd < w.heap.size) : TrailsAt w w9 gd l A9 c9 r (bs1 ++ bs2) A3 c3 := by
  subst hn
  have kp := KeepN.row hg9 h1 (by decide) (by decide)
  refine ⟨by rw [List.map_append]; exact hown, hr, kp.node _ _ hb, ho.keepN kp.byte, fun i p hp => ?_, ?_, grown_new hg hg9 (fun j e => (h1.lt j e).1)⟩
  · obtain ⟨g1, g2, g3⟩ := tw i p hp
    exact ⟨g1, g2.keep kp, (g3.keepN kp).wide hg9.size⟩
  · obtain ⟨h0, x, nx, len, hx, hbk⟩ := hd
    exact ⟨h0, x, nx, len, hx, hbk.grown hg9 (fun e => by have := (h1.lt gd e.symm).1; omega)⟩
set_option maxRecDepth 100000 in
set_option maxHeartbeats 6400000 in
theorem trails_any (gd B : Nat) (hB : B ≤ gd) (hgK : some gd ≠ some 3) (n : Nat) : ∀ (l : List Sb), n = l.length → 1 ≤ n → n ≤ 1000000 → (∀ x ∈ l, x.s.length ≤ 35184372088832) → ∀ (A : Option Addr) (c : Nat) (w : World), RdB w B A n l → n ≤ c → DgAny w gd → Kw w →
    Calls Tryd.prog 119 #[.iface 182 (.pointer (some ⟨gd, 0, none⟩)), .slice A n c] w (TrailsQ w gd (l.map Sb.s)) := by
  induction n using Nat.strongRecOn with
  | ind n ih =>
    intro l hn hn1 hk40 hbig A c w hr hc hd hK
    have IH := Lib.hid ih
    clear ih
    have HR := Lib.hid hr; have HD := Lib.hid hd; have HK := Lib.hid hK; have HBG := Lib.hid hbig
    have hgl := hd.lt
    have HN := Lib.hid (And.intro hn (And.intro hk40 (And.intro hc hgl)))
    clear hr hd hK hbig hgl hn hc
    by_cases h1 : n = 1
    · subst h1
      obtain ⟨x, hx⟩ : ∃ x, l = [x] := by
        have h2 := HN.out.1
        match l, h2 with
        | [x], _ => exact ⟨x, rfl⟩
      obtain ⟨ad, hA, hadB, hc0⟩ := HR.out.1.2 0 x.cell (by rw [hx]; rfl)
      subst hA
      have e0 : ad.add 0 = ad := by unfold Addr.add; simp
      rw [e0] at hc0
      unfold Sb.cell at hc0
      obtain ⟨hxr, hxc, hxb⟩ := HR.out.2 x (by rw [hx]; exact List.mem_cons_self ..)
      have HX := Lib.hid hx; have HXR := Lib.hid hxr.sized; have HXC := Lib.hid hxc; have HXB := Lib.hid hxb
      clear hx hxr hxc hxb hn1
      go_enter Tryd.func119, Tryd.ntmps119
      go_wp2_with fail
      refine (leafOptO_any gd x.a x.s.length x.c x.s w HD.out HK.out hgK HXR.out HXC.out (HBG.out x (by rw [HX.out]; exact List.mem_cons_self ..)) (by intro ad e e2; injection e2 with e2; have := HXB.out ad e; omega)).mono ?_
      rintro e w1 ⟨A1, c1, rfl, hf1, hd1, hg1⟩
      have HF := Lib.hid hf1; have HD1 := Lib.hid hd1; have HG1 := Lib.hid hg1
      clear hf1 hd1 hg1
      go_wp2_with fail
      go_ret2
      have e1 : nodeC A1 (leafL x.s) c1 none none none = #[.slice A1 32 c1, .pointer none, .pointer none, .pointer none] := by unfold nodeC ptrO; rw [leafL_length]
      have eL : l.map Sb.s = [x.s] := by rw [HX.out]; rfl
      have hroot : rootL (l.map Sb.s) = leafL x.s := by rw [eL, rootL_one]
      have hq1 : Below w1.heap.size w1 (w1.alloc (.cells #[.slice A1 32 c1, .pointer none, .pointer none, .pointer none] 195)) := (Below.refl _ _).alloc (Nat.le_refl _) _
      have hq2 : Below w1.heap.size w1 ((w1.alloc (.cells #[.slice A1 32 c1, .pointer none, .pointer none, .pointer none] 195)).alloc (.cells #[.pointer (some ⟨w1.heap.size, 0, none⟩)] 191)) := hq1.alloc hq1.size _
      have hnode : Blk ((w1.alloc (.cells #[.slice A1 32 c1, .pointer none, .pointer none, .pointer none] 195)).alloc (.cells #[.pointer (some ⟨w1.heap.size, 0, none⟩)] 191)) w1.heap.size 195 (nodeC A1 (leafL x.s) c1 none none none) := by rw [e1]; exact (Blk.new _ _ _).alloc _
      have hsum := (HF.out.below hq2 (Nat.le_refl _))
      have hs1 := HG1.out.size
      refine ⟨some ⟨w1.heap.size + 1, 0, none⟩, 1, w1.heap.size, [w1.heap.size], A1, c1, ?_, ?_, hs1, by rw [hroot]; exact hnode, by rw [hroot]; exact hsum, fun i p hp => ?_, HD1.out.belowS hq2, HG1.out.trans (grownAny_of hq2 _)⟩
      · rw [eL]; rfl
      · rw [eL]
        refine ⟨rfl, .inr ⟨w1.heap.size + 1, 1, #[.pointer (some ⟨w1.heap.size, 0, none⟩)], rfl, by omega, ?_, Nat.le_refl _, by decide, rfl, rfl⟩⟩
        have h9 := heap_alloc_new (w1.alloc (.cells #[.slice A1 32 c1, .pointer none, .pointer none, .pointer none] 195)) (.cells #[.pointer (some ⟨w1.heap.size, 0, none⟩)] 191)
        simpa using h9
      · match i, hp with
        | 0, hp =>
          simp only [List.getElem?_cons_zero, Option.some.injEq] at hp
          subst hp
          refine ⟨hs1, ?_, ?_⟩
          · rw [eL]; exact ⟨A1, c1, none, none, none, hnode, hsum⟩
          · rw [auntsL_one (by rw [eL]; exact Nat.le_refl _)]; rfl
        | i + 1, hp => simp at hp
    · have hk1 := splitN_lt (n := n) (by omega)
      have hk2 := splitN_pos n
      have hroot := rootL_more (l := l.map Sb.s) (by rw [List.length_map, ← HN.out.1]; omega)
      rw [List.length_map, ← HN.out.1] at hroot
      have HSP := Lib.hid (split_any n)
      obtain ⟨k, hk⟩ : ∃ k, k = splitN n := ⟨_, rfl⟩
      rw [← hk] at HSP hk1 hk2 hroot
      have hkc : (k : Int) ≤ (c : Int) := by have := HN.out; omega
      have hkn : (k : Int) ≤ (n : Int) := by omega
      have hck : ¬ c = k := by have := HN.out; omega
      have HKN := Lib.hid (And.intro hk1 (And.intro hk2 hk)); have HRT := Lib.hid hroot
      clear hk hk1 hk2 hroot
      obtain ⟨p0, hp0, hpz0, hpz1, hpz2⟩ := info_parts infoPN
      have HI := Lib.hid hp0; have HZ0 := Lib.hid hpz0; have HZ1 := Lib.hid hpz1; have HZ2 := Lib.hid hpz2
      clear hp0 hpz0 hpz1 hpz2
      go_enter Tryd.func119, Tryd.ntmps119
      go_wp2_with fail
      refine (HSP.out w (by omega) (by have := HN.out; omega)).mono ?_
      rintro e w0 ⟨rfl, rfl⟩
      go_wp2_with fail
      refine (IH.out k HKN.out.1 (l.take k) (by rw [List.length_take]; have := HN.out.1; have := HKN.out; omega) HKN.out.2.1 (by have := HKN.out; omega) (fun x hx => HBG.out x (List.mem_of_mem_take hx)) A c w0 (HR.out.take (by have := HKN.out; omega)) (by have := HKN.out; have := HN.out; omega) HD.out HK.out).mono ?_
      rintro e w1 ⟨A1, c1, r1, bs1, RA1, rc1, rfl, hT1⟩
      have hl1 : ((l.take k).map Sb.s).length = k := by rw [List.length_map, List.length_take]; have := HN.out.1; have := HKN.out; omega
      rw [hl1]
      have HT1 := Lib.hid hT1
      have HK1 := Lib.hid (HK.out.grown hT1.grown hgK)
      have HR1 := Lib.hid (HR.out.grown hT1.grown hB (by have := HN.out; omega))
      clear hT1
      go_wp2_with fail
      refine (IH.out (n - k) (by have := HKN.out; omega) (l.drop k) (by rw [List.length_drop]; have := HN.out.1; omega) (by have := HKN.out; omega) (by omega) (fun x hx => HBG.out x (List.mem_of_mem_drop hx)) _ (c - k) w1 (HR1.out.drop (by have := HKN.out; omega) _ (fun _ => rfl)) (by have := HN.out; omega) HT1.out.dg HK1.out).mono ?_
      rintro e w2 ⟨A2, c2, r2, bs2, RA2, rc2, rfl, hT2⟩
      have hl2 : ((l.drop k).map Sb.s).length = n - k := by rw [List.length_map, List.length_drop]; have := HN.out.1; omega
      rw [hl2]
      have HT2 := Lib.hid hT2
      have HK2 := Lib.hid (HK1.out.grown hT2.grown hgK)
      have kn2 := KeepN.dg hT2.grown HT1.out.dg
      have o1 := HT1.out.sum.keepN kn2.byte
      have b1 := (kn2.node _ _ HT1.out.root).cell 0
      have b2 := hT2.root.cell 0
      unfold nodeC at b1 b2
      rw [rootL_length] at b1 b2
      have HO1 := Lib.hid o1; have HO2 := Lib.hid hT2.sum
      have HS2 : Hid (w2.drew.cell? ⟨r1, 0, none⟩ = some (.slice RA1 32 rc1) ∧ w2.drew.cell? ⟨r2, 0, none⟩ = some (.slice RA2 32 rc2)) := Lib.hid ⟨b1, b2⟩
      have HQ1 := Lib.hid (kn2.node _ _ HT1.out.root)
      clear hT2 kn2 o1 b1 b2
      go_wp2_with fail
      rename_i KK hKK
      refine wp_region_L (fun w' : World => w'.cell? ⟨r1, 0, none⟩ = some (.slice RA1 32 rc1) ∧ w'.cell? ⟨r2, 0, none⟩ = some (.slice RA2 32 rc2)) 10 (by kernel_rfl) ?_
      refine wpAnyL_take 0 (v := .iface 182 (.pointer (some ⟨gd, 0, none⟩))) rfl (by kernel_rfl) (fun _ _ _ h => h) (yields_on (by kernel_rfl) (fun w' hw' => by go_simp)) HS2.out ?_
      simp only [Act.put, List.setIfInBounds_toArray, List.set_cons_zero, List.set_cons_succ]
      refine wpAnyL_take 1 (v := .pointer (some ⟨r1, 0, none⟩)) rfl (by kernel_rfl) (fun _ _ _ h => h) (yields_on (by kernel_rfl) (fun w' hw' => by go_simp)) HS2.out ?_
      simp only [Act.put, List.setIfInBounds_toArray, List.set_cons_zero, List.set_cons_succ]
      refine wpAnyL_take 2 (v := .pointer (some ⟨r1, 0, none⟩)) rfl (by kernel_rfl) (fun _ _ _ h => h) (yields_on (by kernel_rfl) (fun w' hw' => by go_simp)) HS2.out ?_
      simp only [Act.put, List.setIfInBounds_toArray, List.set_cons_zero, List.set_cons_succ]
      refine wpAnyL_take 3 (v := .pointer (some ⟨r1, 0, none⟩)) rfl (by kernel_rfl) (fun _ _ _ h => h) (yields_on (by kernel_rfl) (fun w' hw' => by go_simp)) HS2.out ?_
      simp only [Act.put, List.setIfInBounds_toArray, List.set_cons_zero, List.set_cons_succ]
      refine wpAnyL_take 4 (v := .slice RA1 32 rc1) rfl (by kernel_rfl) (fun _ _ _ h => h) (yields_on (by kernel_rfl) (fun w' hw' => by have r := hw'.1; go_simp)) HS2.out ?_
      simp only [Act.put, List.setIfInBounds_toArray, List.set_cons_zero, List.set_cons_succ]
      refine wpAnyL_take 5 (v := .pointer (some ⟨r2, 0, none⟩)) rfl (by kernel_rfl) (fun _ _ _ h => h) (yields_on (by kernel_rfl) (fun w' hw' => by go_simp)) HS2.out ?_
      simp only [Act.put, List.setIfInBounds_toArray, List.set_cons_zero, List.set_cons_succ]
      refine wpAnyL_take 6 (v := .pointer (some ⟨r2, 0, none⟩)) rfl (by kernel_rfl) (fun _ _ _ h => h) (yields_on (by kernel_rfl) (fun w' hw' => by go_simp)) HS2.out ?_
      simp only [Act.put, List.setIfInBounds_toArray, List.set_cons_zero, List.set_cons_succ]
      refine wpAnyL_take 7 (v := .pointer (some ⟨r2, 0, none⟩)) rfl (by kernel_rfl) (fun _ _ _ h => h) (yields_on (by kernel_rfl) (fun w' hw' => by go_simp)) HS2.out ?_
      simp only [Act.put, List.setIfInBounds_toArray, List.set_cons_zero, List.set_cons_succ]
      refine wpAnyL_take 8 (v := .slice RA2 32 rc2) rfl (by kernel_rfl) (fun _ _ _ h => h) (yields_on (by kernel_rfl) (fun w' hw' => by have r := hw'.2; go_simp)) HS2.out ?_
      simp only [Act.put, List.setIfInBounds_toArray, List.set_cons_zero, List.set_cons_succ]
      refine wpAnyL_one 9 rfl (by kernel_rfl) rfl ?_
      go_simp
      refine (innerOptO_any gd RA1 RA2 32 rc1 32 rc2 _ _ w2.drew (HT2.out.dg.belowS (Below.refl _ _).drew) (HK2.out.belowS (Below.refl _ _).drew) hgK HO1.out.rd.drew HO1.out.cap (by decide) (by intro ad e e2; injection e2 with e2; have := (HO1.out.at_ ad.block (by rw [e]; rfl)).1; have := HN.out; omega) HO2.out.rd.drew HO2.out.cap (by decide) (by intro ad e e2; injection e2 with e2; have := (HO2.out.at_ ad.block (by rw [e]; rfl)).1; have := HT1.out.grown.size; have := HN.out; omega)).mono ?_
      rintro e w3 ⟨A3, c3, rfl, ho3, hd3, hg3⟩
      have hg3' : w2.grownBy w3 (some gd) := undrew hg3
      have ho3' : Own8 w3 w2.heap.size A3 32 c3 (rootL (l.map Sb.s)) := by rw [HRT.out, List.map_take, List.map_drop] at *; exact ho3
      have HO3 := Lib.hid ho3'; have HD3 := Lib.hid hd3; have HG3 := Lib.hid hg3'
      have c1r := HO1.out.keepN (KeepN.dg hg3' HT2.out.dg).byte
      have k23 := KeepN.dg hg3' HT2.out.dg
      have HB1 := Lib.hid (k23.node _ _ HQ1.out); have HB2 := Lib.hid (k23.node _ _ HT2.out.root)
      have hS3 : w3.cell? ⟨r1, 0, none⟩ = some (.slice RA1 32 rc1) ∧ w3.cell? ⟨r2, 0, none⟩ = some (.slice RA2 32 rc2) := by
        have g1 := HB1.out.cell 0
        have g2 := HB2.out.cell 0
        unfold nodeC at g1 g2
        rw [rootL_length] at g1 g2
        exact ⟨g1, g2⟩
      have HS3 := Lib.hid hS3
      have f1 : ∀ o j, (w3.alloc o).frozen? ⟨r1, j, none⟩ = false := fun o j => (HB1.out.alloc o).free j
      have f2 : ∀ o j, (w3.alloc o).frozen? ⟨r2, j, none⟩ = false := fun o j => (HB2.out.alloc o).free j
      have c11 : ∀ o, (w3.alloc o).cell? ⟨r1, 1, none⟩ = some (.pointer none) := fun o => (HB1.out.alloc o).cell 1
      have c13 : ∀ o, (w3.alloc o).cell? ⟨r1, 3, none⟩ = some (.pointer none) := fun o => (HB1.out.alloc o).cell 3
      have c21 : ∀ o, (w3.alloc o).cell? ⟨r2, 1, none⟩ = some (.pointer none) := fun o => (HB2.out.alloc o).cell 1
      have c22 : ∀ o, (w3.alloc o).cell? ⟨r2, 2, none⟩ = some (.pointer none) := fun o => (HB2.out.alloc o).cell 2
      have hne : ¬ r1 = r2 := by have := HT1.out.root.lt; have := HT2.out.lo; omega
      have hne' : ¬ r2 = r1 := fun e => hne e.symm
      have TB := Lib.hid (trail_big (w := w0) (k := k) (l := l.map Sb.s) (by rw [List.length_map, ← HN.out.1]; omega) (by rw [List.length_map, ← HN.out.1]; exact HKN.out.2.2) (by rw [← List.map_take]; exact HT1.out) (by rw [← List.map_drop]; exact HT2.out) hd3 hg3' ho3' HN.out.2.2.2)
      clear ho3 hd3 hg3 hg3' ho3' hS3 c1r k23
      refine ⟨HS3.out, ?_⟩
      refine wpAnyL_one 10 rfl (by kernel_rfl) rfl ?_
      go_simp
      refine wpAnyL_done (by kernel_rfl) ?_ _
      rw [← List.map_take, ← List.map_drop, hl1, hl2] at TB
      refine hKK _ _ ?_
      clear hKK
      go_wp2_with (at_builtin; refine wpList_app _ rfl (.tmp 64) (.tmp 65) 190 rfl w0.heap.size 191 p0 _ 1 8 Tryd.underlying190 HI.out HZ0.out HZ1.out HZ2.out rfl (by decide) (.slice A1 k c1) k (bs1.map ptrTo) rfl TB.out.1 _ A2 (n - k) c2 (bs2.map ptrTo) rfl (Rd.of_own TB.out.2.1) ?q0 ?q1 ?q2 ?q3 ?_; (case q0 => intro u hu; obtain ⟨x, _, rfl⟩ := List.mem_map.1 hu; rfl); (case q1 => simp only [maxLen]; omega); (case q2 => omega); (case q3 => exact TB.out.2.2.2.2.2.2.1.size); intro A9 c9 w9 hown9 hg9 _)
      go_ret2
      have hkk : k + (n - k) = n := by have := HKN.out; omega
      have htr := trail_end (n := k + (n - k)) TB.out.1 TB.out.2.2.1 TB.out.2.2.2.1 TB.out.2.2.2.2.1 TB.out.2.2.2.2.2.1 TB.out.2.2.2.2.2.2.1 TB.out.2.2.2.2.2.2.2 hown9 (by rw [List.length_map, ← HN.out.1]; exact hkk) hg9 HN.out.2.2.2
      refine ⟨A9, c9, w3.heap.size, bs1 ++ bs2, A3, c3, ?_, htr⟩
      show Ending.returned (.tuple #[.slice A9 (k + (n - k)) c9, .pointer (some ⟨w3.heap.size, 0, none⟩)]) = _
      rw [hkk, List.length_map, ← HN.out.1]
set_option maxRecDepth 100000 in
set_option maxHeartbeats 3200000 in
theorem trails0_any (A : Option Addr) (c n : Nat) (l : List Sb) (w : World) (hr : RdB w w.heap.size A n l) (hc : n ≤ c) (hn1 : 1 ≤ n) (hn : n ≤ 1000000) (hbig : ∀ x ∈ l, x.s.length ≤ 35184372088832) (hK : Kw w) :
    Calls Tryd.prog 105 #[.slice A n c] w fun e w' => ∃ (A' : Option Addr) (c' r : Nat) (bs : List Nat) (RA : Option Addr) (rc gd : Nat) (w1 : World), w.heap.size ≤ w1.heap.size ∧ e = .returned (.tuple #[.slice A' n c', .pointer (some ⟨r, 0, none⟩)]) ∧ TrailsAt w1 w' gd (l.map Sb.s) A' c' r bs RA rc ∧ Below w.heap.size w w' := by
  have HR := Lib.hid hr; have HN := Lib.hid (And.intro hc (And.intro hn (And.intro hn1 hbig))); have HK := Lib.hid hK
  clear hr hc hn hbig hK hn1
  go_enter Tryd.func105, Tryd.ntmps105
  go_wp2_with fail
  refine (cmNew_any w).mono ?_
  rintro e w1 ⟨rfl, hd1, hb1⟩
  have HD1 := Lib.hid hd1; have HB1 := Lib.hid hb1
  clear hd1 hb1
  go_wp2_with fail
  refine (trails_any w.heap.size w.heap.size (Nat.le_refl _) (by intro e; injection e with e; have := HK.out.2; omega) n l HR.out.len HN.out.2.2.1 HN.out.2.1 HN.out.2.2.2 A c w1 (HR.out.below HB1.out) HN.out.1 HD1.out.any (HK.out.belowS HB1.out)).mono ?_
  rintro e w2 ⟨A2, c2, r, bs, RA, rc, rfl, hT⟩
  rw [List.length_map, ← HR.out.len]
  have HT := Lib.hid hT; have HB2 := Lib.hid (HB1.out.grown hT.grown HB1.out.size (by intro k e; cases e; exact Nat.le_refl _))
  clear hT
  go_wp2_with fail
  go_ret2
  exact ⟨A2, c2, r, bs, RA, rc, w.heap.size, w1, HB1.out.size, rfl, HT.out, HB2.out⟩
end Go.Proofs.YtikikddkhikfkaaDoor
