/-
  The specification's tree of sums: LeafSum, InnerSum, Split, Root: walks. By the session.
-/
import Derived.Test.YtikikddkhikfkaaDoorPa19
import Derived.Test.YtikikddkhikfkaaDoorPa14
set_option linter.all false
namespace Go.Proofs.YtikikddkhikfkaaDoor
open Go.RowKit

theorem own_new1 (w : World) (b : UInt8) : Own8 (w.alloc (.cells (bc [b]).toArray 5)) w.heap.size (some ⟨w.heap.size, 0, none⟩) 1 1 [b] :=
  ⟨rfl, .inr ⟨w.heap.size, 1, (bc [b]).toArray, rfl, Nat.le_refl _, heap_alloc_new _ _, Nat.le_refl _, by decide, rfl, rfl⟩⟩
/-- bytes that a call has made -/
def MadeQ (w : World) (s : List UInt8) (e : Ending) (w' : World) : Prop := ∃ A' m c', e = .returned (.slice A' m c') ∧ Own8 w' w.heap.size A' m c' s ∧ Below w.heap.size w w'
set_option maxRecDepth 100000 in
set_option maxHeartbeats 1600000 in
theorem leafSum_any (A : Option Addr) (n c : Nat) (p : List UInt8) (w : World) (hr : Rd w w.heap.size 1 A n (bc p)) (hn : n ≤ 30000000000) :
    Calls Tryd.prog 25 #[.slice A n c] w (MadeQ w (leafL p)) := by
  have HR := Lib.hid hr; have HN := Lib.hid hn
  have hb0 : Below w.heap.size w (w.alloc (.cells (bc [0]).toArray 5)) := (Below.refl _ _).alloc (Nat.le_refl _) _
  have HB0 := Lib.hid hb0; have HO0 := Lib.hid (own_new1 w 0)
  have HR0 := Lib.hid (hr.below hb0)
  clear hr hn hb0
  go_enter Tryd.func25, Tryd.ntmps25
  go_wp2_with (at_builtin; refine app8w _ rfl (.tmp 3) (.tmp 4) rfl w.heap.size 1 1 (some ⟨w.heap.size, 0, none⟩) [0] rfl HO0.out w.heap.size n c A p rfl HR0.out (by have := HN.out; omega) HB0.out.size ?_; intro A2 c2 w2 hown2 hg2; have HO2 := Lib.hid hown2; have HB2 := Lib.hid (HB0.out.grown hg2.1 HB0.out.size (by intro k e; cases e; exact Nat.le_refl _)); clear hown2 hg2)
  refine (sum_any A2 (1 + n) c2 ([0] ++ p) w2 HO2.out.rd (by have := HN.out; omega)).mono ?_
  rintro e w3 ⟨A3, m3, c3, rfl, ho3, hb3⟩
  have HO3 := Lib.hid (ho3.more HB2.out.size); have HB3 := Lib.hid (HB2.out.trans (hb3.mono HB2.out.size))
  clear ho3 hb3
  go_wp2_with fail
  go_ret
  exact ⟨A3, m3, c3, rfl, HO3.out, HB3.out⟩
set_option maxRecDepth 100000 in
set_option maxHeartbeats 1600000 in
theorem innerSum_any (A : Option Addr) (n c : Nat) (p : List UInt8) (A' : Option Addr) (n' c' : Nat) (p' : List UInt8) (w : World) (hr : Rd w w.heap.size 1 A n (bc p)) (hn : n ≤ 1000000) (hr' : Rd w w.heap.size 1 A' n' (bc p')) (hn' : n' ≤ 1000000) :
    Calls Tryd.prog 63 #[.slice A n c, .slice A' n' c'] w (MadeQ w (innerL p p')) := by
  have HN := Lib.hid (And.intro hn hn')
  have hb0 : Below w.heap.size w (w.alloc (.cells (bc [1]).toArray 5)) := (Below.refl _ _).alloc (Nat.le_refl _) _
  have HB0 := Lib.hid hb0; have HO0 := Lib.hid (own_new1 w 1)
  have HR0 := Lib.hid (hr.below hb0); have HR0' := Lib.hid hr'
  clear hr hn hr' hn' hb0
  go_enter Tryd.func63, Tryd.ntmps63
  go_wp2_with (at_builtin; first
    | (refine app8w _ rfl (.tmp 5) (.tmp 6) rfl w.heap.size 1 1 (some ⟨w.heap.size, 0, none⟩) [1] rfl HO0.out w.heap.size n c A p rfl HR0.out (by have := HN.out; omega) HB0.out.size ?_; intro A2 c2 w2 hown2 hg2; have HO2 := Lib.hid hown2; have HB2 := Lib.hid (HB0.out.grown hg2.1 HB0.out.size (by intro k e; cases e; exact Nat.le_refl _)); clear hown2 hg2)
    | (refine app8w _ rfl (.tmp 7) (.tmp 8) rfl w.heap.size (1 + n) c2 A2 ([1] ++ p) rfl HO2.out w.heap.size n' c' A' p' rfl (HR0'.out.below HB2.out) (by have := HN.out; omega) HB2.out.size ?_; intro A4 c4 w4 hown4 hg4; have HO4 := Lib.hid hown4; have HB4 := Lib.hid (HB2.out.grown hg4.1 HB2.out.size (fun k e => (HO2.out.at_ k e).1)); clear hown4 hg4))
  refine (sum_any A4 (1 + n + n') c4 ([1] ++ p ++ p') w4 HO4.out.rd (by have := HN.out; omega)).mono ?_
  rintro e w3 ⟨A3, m3, c3, rfl, ho3, hb3⟩
  have HO3 := Lib.hid (ho3.more HB4.out.size); have HB3 := Lib.hid (HB4.out.trans (hb3.mono HB4.out.size))
  clear ho3 hb3
  go_wp2_with fail
  go_ret
  exact ⟨A3, m3, c3, rfl, HO3.out, HB3.out⟩
set_option maxRecDepth 100000 in
set_option maxHeartbeats 1600000 in
theorem ssplit_any (n : Nat) (w : World) (h2 : 2 ≤ n) (hn : n ≤ 1099511627776) : Calls Tryd.prog 62 #[.int .i64 (n : Int)] w fun e w' => e = .returned (.int .i64 (splitN n : Int)) ∧ w' = w := by
  have HN := Lib.hid (And.intro h2 hn)
  clear h2 hn
  go_enter Tryd.func62, Tryd.ntmps62
  go_wp2_with fail
  go_loopw [3] (fun k wr => ∃ (j q : Nat), k = .int .i64 (q : Int) ∧ Hid (q = 2 ^ j ∧ q < n) ∧ wr = w) (fun k _ => n - (intOf k).toNat)
  case atStart => exact ⟨0, 1, rfl, Lib.hid ⟨rfl, by have := HN.out; omega⟩, rfl⟩
  case round =>
    obtain ⟨j, q, rfl, hq, rfl⟩ := hrel
    have HQ := hq
    obtain ⟨q2, hq2⟩ : ∃ q2, q2 = q * 2 := ⟨_, rfl⟩
    have e1 : (q : Int) * 2 = (q2 : Int) := by omega
    have e2 : IntKind.i64.wrap (q2 : Int) = (q2 : Int) := by have := HN.out; have := HQ.out.2; rw [IntKind.wrap_i64]; omega
    have hq0 : 0 < q := by rw [HQ.out.1]; exact Nat.one_le_two_pow
    have HQ2 := Lib.hid hq2; have HQ0 := Lib.hid hq0
    clear hq hq2 hq0
    by_cases hlt : q2 < n
    · go_wp2_with fail
      refine ⟨⟨j + 1, q2, rfl, Lib.hid ⟨by rw [HQ2.out, HQ.out.1, Nat.pow_succ], hlt⟩, trivial⟩, ?_⟩
      have := HQ2.out; have := HQ0.out; have := HQ.out.2
      simp [intOf]; omega
    · go_wp2_with fail
      go_ret
      refine ⟨ret_int ?_, rfl⟩
      have h1 := HQ.out; have h2 := HN.out; have h3 := HQ2.out
      have h5 : q = splitN n := HQ.out.1.trans (splitN_eq (n := n) (a := j) h2.1 (by rw [← HQ.out.1]; exact HQ.out.2) (by rw [← HQ.out.1]; omega))
      rw [← h5]
theorem MadeQ.more {w w1 : World} {s : List UInt8} {e : Ending} {w' : World} (h : MadeQ w1 s e w') (hb : Below w.heap.size w w1) : MadeQ w s e w' := by
  obtain ⟨A, m, c, he, ho, hb1⟩ := h
  exact ⟨A, m, c, he, ho.more hb.size, hb.trans (hb1.mono hb.size)⟩
set_option maxRecDepth 100000 in
set_option maxHeartbeats 6400000 in
theorem sroot_any (n : Nat) : ∀ (l : List Sb), n = l.length → n ≤ 1099511627776 → (∀ x ∈ l, x.s.length ≤ 30000000000) → ∀ (A : Option Addr) (c : Nat) (w : World), RdB w w.heap.size A n l → n ≤ c →
    Calls Tryd.prog 22 #[.slice A n c] w (MadeQ w (rootL (l.map Sb.s))) := by
  induction n using Nat.strongRecOn with
  | ind n ih =>
    intro l hn hk40 hbig A c w hr hc
    have IH := Lib.hid ih
    clear ih
    have HR := Lib.hid hr; have HBG := Lib.hid hbig
    have HN := Lib.hid (And.intro hn (And.intro hk40 hc))
    clear hr hbig hn hc
    by_cases h0 : n = 0
    · subst h0
      have hl : l = [] := List.eq_nil_of_length_eq_zero HN.out.1.symm
      have HL := Lib.hid hl
      clear hl
      go_enter Tryd.func22, Tryd.ntmps22
      go_wp2_with fail
      refine (sum_any none 0 0 [] w (Rd.nil _ _ _ _) (by decide)).mono ?_
      rintro e w1 ⟨A1, m1, c1, rfl, ho1, hb1⟩
      have HO := Lib.hid ho1; have HB1 := Lib.hid hb1
      clear ho1 hb1
      go_wp2_with fail
      go_ret
      refine ⟨A1, m1, c1, rfl, ?_, HB1.out⟩
      rw [HL.out, List.map_nil, rootL_nil]
      exact HO.out
    · by_cases h1 : n = 1
      · subst h1
        obtain ⟨x, hx⟩ : ∃ x, l = [x] := by
          have h2 := HN.out.1
          match l, h2 with
          | [x], _ => exact ⟨x, rfl⟩
        obtain ⟨ad, hA, hadB, hc0⟩ := HR.out.1.2 0 x.cell (by rw [hx]; rfl)
        subst hA
        have e0 : ad.add 0 = ad := by unfold Addr.add; simp
        rw [e0] at hc0
        unfold Sb.cell at hc0
        obtain ⟨hxr, hxc, hxb⟩ := HR.out.2 x (by rw [hx]; exact List.mem_cons_self ..)
        have HX := Lib.hid hx; have HXR := Lib.hid hxr.sized
        clear hx hxr hxc hxb h0
        go_enter Tryd.func22, Tryd.ntmps22
        go_wp2_with fail
        refine (leafSum_any x.a x.s.length x.c x.s w HXR.out (HBG.out x (by rw [HX.out]; exact List.mem_cons_self ..))).mono ?_
        rintro e w1 ⟨A1, m1, c1, rfl, ho1, hb1⟩
        have HO := Lib.hid ho1; have HB1 := Lib.hid hb1
        clear ho1 hb1
        go_wp2_with fail
        go_ret
        refine ⟨A1, m1, c1, rfl, ?_, HB1.out⟩
        rw [HX.out]
        show Own8 _ _ _ _ _ (rootL [x.s])
        rw [rootL_one]
        exact HO.out
      · have hk1 := splitN_lt (n := n) (by omega)
        have hk2 := splitN_pos n
        have hroot := rootL_more (l := l.map Sb.s) (by rw [List.length_map, ← HN.out.1]; omega)
        rw [List.length_map, ← HN.out.1, ← List.map_take, ← List.map_drop] at hroot
        have HSP := Lib.hid (ssplit_any n)
        obtain ⟨k, hk⟩ : ∃ k, k = splitN n := ⟨_, rfl⟩
        rw [← hk] at HSP hk1 hk2 hroot
        have hkc : (k : Int) ≤ (c : Int) := by have := HN.out; omega
        have hkn : (k : Int) ≤ (n : Int) := by omega
        have hck : ¬ c = k := by have := HN.out; omega
        have HKN := Lib.hid (And.intro hk1 hk2); have HRT := Lib.hid hroot
        have hcl : ∀ W, Below w.heap.size w W → Calls Tryd.prog 22 #[.slice A k c] W (MadeQ W (rootL ((l.take k).map Sb.s))) := fun W hW =>
          IH.out k HKN.out.1 (l.take k) (by rw [List.length_take]; have := HN.out.1; have := HKN.out; omega) (by have := HKN.out; omega) (fun x hx => HBG.out x (List.mem_of_mem_take hx)) A c W (((HR.out.take (by have := HKN.out; omega)).below hW).sized hW.size) (by have := HKN.out; have := HN.out; omega)
        have hcr : ∀ W, Below w.heap.size w W → Calls Tryd.prog 22 #[.slice (A.map fun x => x.add k) (n - k) (c - k)] W (MadeQ W (rootL ((l.drop k).map Sb.s))) := fun W hW =>
          IH.out (n - k) (by have := HKN.out; omega) (l.drop k) (by rw [List.length_drop]; have := HN.out.1; omega) (by omega) (fun x hx => HBG.out x (List.mem_of_mem_drop hx)) _ (c - k) W (((HR.out.drop (by have := HKN.out; omega) _ (fun _ => rfl)).below hW).sized hW.size) (by have := HN.out; omega)
        have HCL := Lib.hid hcl; have HCR := Lib.hid hcr
        have hB0 : Below w.heap.size w w.drew := (Below.refl _ _).drew
        have HB0 := Lib.hid hB0
        clear hk hk1 hk2 hroot hcl hcr hB0
        go_enter Tryd.func22, Tryd.ntmps22
        go_wp2_with fail
        refine (HSP.out w (by omega) HN.out.2.1).mono ?_
        rintro e w0 ⟨rfl, rfl⟩
        go_wp2_with fail
        go_region_with (first
          | (go_at_call_of 22 (Value.slice A k c); refine (HCL.out _ ?qb).mono ?_; (case qb => first | exact HBR.out | exact HB0.out); rintro e wl ⟨A1, m1, c1, rfl, ho1, hb1⟩; have HO1 := Lib.hid ho1; have HB1 := Lib.hid hb1; have HBL := Lib.hid ((by first | exact HBR.out | exact HB0.out : Below _ _ _).trans (hb1.mono (by first | exact HBR.out.size | exact HB0.out.size))); clear ho1 hb1)
          | (go_at_call_of 22 (Value.slice (A.map fun x => x.add k) (n - k) (c - k)); refine (HCR.out _ ?qb).mono ?_; (case qb => first | exact HBL.out | exact HB0.out); rintro e wr ⟨A2, m2, c2, rfl, ho2, hb2⟩; have HO2 := Lib.hid ho2; have HB2 := Lib.hid hb2; have HBR := Lib.hid ((by first | exact HBL.out | exact HB0.out : Below _ _ _).trans (hb2.mono (by first | exact HBL.out.size | exact HB0.out.size))); clear ho2 hb2)
          | (go_at_call 63; refine (innerSum_any A1 m1 c1 (rootL ((l.take k).map Sb.s)) A2 m2 c2 (rootL ((l.drop k).map Sb.s)) _ ?qx ?qm ?qy ?qn).mono ?_; (case qx => first | exact HO1.out.rd | exact (HO1.out.below HB2.out (Nat.le_refl _)).rd); (case qy => first | exact HO2.out.rd | exact (HO2.out.below HB1.out (Nat.le_refl _)).rd); (case qm => rw [HO1.out.len, rootL_length]; decide); (case qn => rw [HO2.out.len, rootL_length]; decide); rintro e w5 ⟨A5, m5, c5, rfl, ho5, hb5⟩))
        all_goals
          have hbb : Below w0.heap.size w0 w5 := by first | exact HBR.out.trans (hb5.mono HBR.out.size) | exact HBL.out.trans (hb5.mono HBL.out.size)
          have HO5 := Lib.hid ho5; have HBB := Lib.hid hbb
          clear ho5 hb5 hbb
          go_wp2_with fail
          go_ret
          refine ⟨A5, m5, c5, rfl, ?_, HBB.out⟩
          rw [HRT.out]
          exact HO5.out.more (by first | exact HBR.out.size | exact HBL.out.size)
end Go.Proofs.YtikikddkhikfkaaDoor
