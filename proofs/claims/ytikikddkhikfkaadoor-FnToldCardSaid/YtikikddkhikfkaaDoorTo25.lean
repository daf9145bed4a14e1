/-
  The specification's sum of a set: SeatSum: the walk. By the session.
-/
import Derived.Test.YtikikddkhikfkaaDoorTo22
import Derived.Test.YtikikddkhikfkaaDoorTo24
import Derived.Test.YtikikddkhikfkaaDoorTo10
set_option linter.all false
namespace Go.Proofs.YtikikddkhikfkaaDoor
open Go.RowKit

theorem own_grown {w w' : World} {base e size n : Nat} {v : Value} {xs : List Value} {r : Option Nat} (h : w.ownsRow base e size v n xs) (hg : w.grownBy w' r) (hr : ∀ g, v.ownBlock = some g → r ≠ some g) : w'.ownsRow base e size v n xs := by
  refine ⟨h.1, ?_⟩
  rcases h.2 with h2 | ⟨g, cap, cur, hv, hb, hh, h3⟩
  · exact .inl h2
  · refine .inr ⟨g, cap, cur, hv, hb, ?_, h3⟩
    exact (hg.block g (lt_of_heap hh) (fun e => hr g (by rw [hv]; rfl) e.symm)).trans hh
/-- rows of cells of different types lie in different blocks -/
theorem own_ne_own {w : World} {b1 b2 e1 e2 s1 s2 n1 n2 : Nat} {v1 v2 : Value} {x1 x2 : List Value} (h1 : w.ownsRow b1 e1 s1 v1 n1 x1) (h2 : w.ownsRow b2 e2 s2 v2 n2 x2) (hne : e1 ≠ e2) : ∀ g, v1.ownBlock = some g → v2.ownBlock ≠ some g := by
  intro g hg hg2
  rcases h1.2 with ⟨rfl, _⟩ | ⟨g1, cap1, cur1, rfl, _, hh1, _⟩
  · cases hg
  · rcases h2.2 with ⟨rfl, _⟩ | ⟨g2, cap2, cur2, rfl, _, hh2, _⟩
    · cases hg2
    · cases hg; cases hg2
      rw [hh1] at hh2
      injection hh2 with hh2
      injection hh2 with _ ht
      exact hne ht
/-- bytes in a row of their own -/
def SbO (lo : Nat) (w : World) (x : Sb) : Prop := Own8 w lo x.a x.s.length x.c x.s
theorem rdB_own {lo n : Nat} {w : World} {A : Option Addr} {c : Nat} {l : List Sb} (h : w.ownsRow lo 22 1 (.slice A n c) n (l.map Sb.cell)) (hl : ∀ x ∈ l, SbO lo w x) : RdB w w.heap.size A n l :=
  ⟨Rd.of_own h, fun x hx => ⟨(hl x hx).rd, (hl x hx).cap, fun ad e => ((hl x hx).at_ ad.block (by rw [e]; rfl)).2⟩⟩
theorem SbO.of_own {lo B m c : Nat} {w : World} {A : Option Addr} {s : List UInt8} (h : Own8 w B A m c s) (hB : lo ≤ B) : SbO lo w ⟨A, c, s⟩ ∧ (⟨A, c, s⟩ : Sb).cell = .slice A m c := by
  have hl := h.len
  refine ⟨?_, by show Value.slice A s.length c = _; rw [hl]⟩
  have h1 := h.more hB
  rw [hl] at h1
  exact h1
theorem SbO.below {lo : Nat} {w w' : World} {x : Sb} (h : SbO lo w x) (hb : Below w.heap.size w w') : SbO lo w' x := Own8.below h hb (Nat.le_refl _)
theorem SbO.grown {lo n c : Nat} {w w' : World} {A : Option Addr} {xs : List Value} {x : Sb} (h : SbO lo w x) (hg : w.grownBy w' (Value.slice A n c).ownBlock) (hr : w.ownsRow lo 22 1 (.slice A n c) n xs) : SbO lo w' x :=
  own_grown h hg (own_ne_own h hr (by decide))
set_option maxRecDepth 100000 in
set_option maxHeartbeats 3200000 in
theorem seatSum_any (l : List Sd) (A : Option Addr) (n c : Nat) (w : World) (hr : Rd w w.heap.size 4 A n (cellsOf l)) (hn : n ≤ 1000000) (hk : ∀ x ∈ l, x.key.size ≤ 10000000000 ∧ in64' x.pow) :
    Calls Tryd.prog 17 #[.slice A n c] w (MadeQ w (rootL (l.map seatB))) := by
  obtain ⟨i0, hi0, hz0, hz1, hz2⟩ := info_parts infoBs
  have HI := Lib.hid hi0; have HZ0 := Lib.hid hz0; have HZ1 := Lib.hid hz1; have HZ2 := Lib.hid hz2
  clear hi0 hz0 hz1 hz2
  have HL := Lib.hid hr.len
  have HR := Lib.hid hr; have HKB := Lib.hid hk
  clear hr hk
  go_enter Tryd.func17, Tryd.ntmps17
  go_wp2_with fail
  go_loopw [3, 8] (fun v i wr => ∃ (k : Nat) (A1 : Option Addr) (c1 : Nat) (ls : List Sb), k ≤ n ∧ i = .int .i64 k ∧ v = .slice A1 k c1 ∧ Hid (ls.map Sb.s = (l.take k).map seatB) ∧ Hid (wr.ownsRow w.heap.size 22 1 (.slice A1 k c1) k (ls.map Sb.cell)) ∧ Hid (∀ x ∈ ls, SbO w.heap.size wr x) ∧ Hid (Below w.heap.size w wr)) (fun _ i _ => n - (intOf i).toNat)
  case atStart => exact ⟨0, none, 0, [], Nat.zero_le _, rfl, rfl, Lib.hid rfl, Lib.hid (World.ownsRow_nil _ _ _ _), (fun x hx => by cases hx), Below.refl _ _⟩
  case round =>
    obtain ⟨k, A1, c1, ls, hk, rfl, rfl, HLS, HO, HIN, HB⟩ := hrel
    by_cases hlt : k < n
    · have hk' : k < l.length := by have := HL.out; omega
      have hx : l[k]? = some l[k] := List.getElem?_eq_getElem hk'
      have hrr := HR.out.below HB.out
      obtain ⟨ad, rfl, hadb, c0, c1', c2, c3⟩ := hrr.seat hx
      have HTK := Lib.hid (show (l.take (k + 1)).map seatB = (l.take k).map seatB ++ [seatB l[k]] by
        rw [List.take_succ_eq_append_getElem hk', List.map_append]; rfl)
      have HBX := Lib.hid (HKB.out l[k] (List.getElem_mem hk'))
      generalize l[k] = x at *
      obtain ⟨f, kc⟩ := run_conv (P := Tryd.prog) 9 22 Tryd.underlying9 Tryd.underlying22 Tryd.underlying5 x.key
      have hsx : Blk (wr.alloc (.cells #[.string x.adr, .string x.key, .int .i64 x.pow, .int .i64 x.pri] 59)).drew wr.heap.size 59 #[.string x.adr, .string x.key, .int .i64 x.pow, .int .i64 x.pri] := (Blk.new wr _ _).drew
      have HSX := Lib.hid hsx
      have HB0 := Lib.hid (((Below.refl wr.heap.size wr).alloc (Nat.le_refl _) (.cells #[.string x.adr, .string x.key, .int .i64 x.pow, .int .i64 x.pri] 59)).drew)
      clear hsx hrr hx
      go_wp2_with fail
      refine wp_region_L (fun w' => Blk w' wr.heap.size 59 #[.string x.adr, .string x.key, .int .i64 x.pow, .int .i64 x.pri]) 13 (by kernel_rfl) ?_
      refine wpAnyL_take 0 (v := .slice A1 k c1) rfl (by kernel_rfl) (fun _ _ _ h => h) (yields_in rfl (fun w' hw' => by go_simp)) HSX.out ?_
      simp only [Act.put, List.setIfInBounds_toArray, List.set_cons_zero, List.set_cons_succ]
      refine wpAnyL_take 1 (v := .pointer (some ⟨wr.heap.size, 1, none⟩)) rfl (by kernel_rfl) (fun _ _ _ h => h) (yields_in rfl (fun w' hw' => by go_simp)) HSX.out ?_
      simp only [Act.put, List.setIfInBounds_toArray, List.set_cons_zero, List.set_cons_succ]
      refine wpAnyL_take 2 (v := .string x.key) rfl (by kernel_rfl) (fun _ _ _ h => h) (yields_in rfl (fun w' hw' => by have c1 : w'.cell? ⟨wr.heap.size, 1, none⟩ = some (.string x.key) := hw'.cell 1; go_simp)) HSX.out ?_
      simp only [Act.put, List.setIfInBounds_toArray, List.set_cons_zero, List.set_cons_succ]
      refine wpAnyL_take 6 (v := .pointer (some ⟨wr.heap.size, 2, none⟩)) rfl (by kernel_rfl) (fun _ _ _ h => h) (yields_in rfl (fun w' hw' => by go_simp)) HSX.out ?_
      simp only [Act.put, List.setIfInBounds_toArray, List.set_cons_zero, List.set_cons_succ]
      refine wpAnyL_take 7 (v := .int .i64 x.pow) rfl (by kernel_rfl) (fun _ _ _ h => h) (yields_in rfl (fun w' hw' => by have c1 : w'.cell? ⟨wr.heap.size, 2, none⟩ = some (.int .i64 x.pow) := hw'.cell 2; go_simp)) HSX.out ?_
      simp only [Act.put, List.setIfInBounds_toArray, List.set_cons_zero, List.set_cons_succ]
      generalize (wr.alloc _).drew = W0 at *
      refine wpAnyL_one 3 rfl (by kernel_rfl) rfl ?_
      go_simp
      have hbc : Below W0.heap.size W0 (W0.alloc (bObj x.key (f W0))).drew := ((Below.refl _ _).alloc (Nat.le_refl _) _).drew
      have hs1 := HSX.out.belowS hbc
      have hb1 := HB0.out.trans (hbc.mono HB0.out.size)
      have hr1 : Rd (W0.alloc (bObj x.key (f W0))).drew (W0.alloc (bObj x.key (f W0))).drew.heap.size 1 (some ⟨W0.heap.size, 0, none⟩) x.key.size (bc x.key.data.toList) := (Rd.conv W0 x.key (f W0) _ rfl).drew.more (by simp)
      generalize (W0.alloc (bObj x.key (f W0))).drew = W1 at *
      generalize f W0 = cp at *
      have HS1 := Lib.hid hs1; have HB1 := Lib.hid hb1; have HR1 := Lib.hid hr1
      clear hbc hs1 hb1 hr1 kc
      refine ⟨HS1.out, ?_⟩
      refine wpAnyL_one 4 rfl (by kernel_rfl) rfl ?_
      go_simp
      refine (within_any 1 _ x.key.size cp x.key.data.toList W1 (by decide) HR1.out (by have := HBX.out.1; omega)).mono ?_
      rintro e W2 ⟨A2, m2, c2, rfl, ho2, hb2⟩
      have HS2 := Lib.hid (HS1.out.belowS hb2); have HB2 := Lib.hid (HB1.out.trans (hb2.mono HB1.out.size)); have HO2 := Lib.hid ho2
      clear ho2 hb2
      refine ⟨HS2.out, ?_⟩
      refine wpAnyL_one 5 rfl (by kernel_rfl) rfl ?_
      go_simp
      have HML2 := Lib.hid (msgB_length 1 x.key.data.toList (by have := HBX.out.1; rw [show x.key.data.toList.length = x.key.size from rfl]; omega))
      refine (within_any 1 A2 m2 c2 (msgB 1 x.key.data.toList) W2 (by decide) HO2.out.rd (by have := HO2.out.len; have := HML2.out; have := HBX.out.1; rw [show x.key.data.toList.length = x.key.size from rfl] at *; omega)).mono ?_
      rintro e W3 ⟨A3, m3, c3, rfl, ho3, hb3⟩
      have HS3 := Lib.hid (HS2.out.belowS hb3); have HB3 := Lib.hid (HB2.out.trans (hb3.mono HB2.out.size)); have HO3 := Lib.hid ho3
      clear ho3 hb3
      refine ⟨HS3.out, ?_⟩
      refine wpAnyL_one 8 rfl (by kernel_rfl) rfl ?_
      go_simp
      refine (number_any 2 x.pow W3 (by decide) HBX.out.2).mono ?_
      rintro e W4 ⟨A4, m4, c4, rfl, ho4, hb4⟩
      have HS4 := Lib.hid (HS3.out.belowS hb4); have HB4 := Lib.hid (HB3.out.trans (hb4.mono HB3.out.size)); have HO4 := Lib.hid ho4
      have HO3' := Lib.hid (HO3.out.below hb4 (Nat.le_refl _))
      clear ho4 hb4
      refine ⟨HS4.out, ?_⟩
      refine wpAnyL_one 9 rfl (by kernel_rfl) rfl ?_
      go_simp
      have hb45 : Below W4.heap.size W4 (W4.alloc (.cells #[.slice A3 m3 c3, .slice A4 m4 c4] 22)) := (Below.refl _ _).alloc (Nat.le_refl _) _
      have HML3 := Lib.hid (msgB_length 1 (msgB 1 x.key.data.toList) (by have := HBX.out.1; have := HML2.out; rw [show x.key.data.toList.length = x.key.size from rfl] at *; omega))
      have K5 := Lib.hid (joined_two ⟨A3, m3, c3, msgB 1 (msgB 1 x.key.data.toList)⟩ ⟨A4, m4, c4, numB 2 (u64 x.pow)⟩ W4 _ 22 W4.heap.size rfl rfl HO3'.out.rd HO4.out.rd (by
        have := HBX.out.1; have := HML2.out; have := HML3.out; have := numB_length 2 _ (u64_lt x.pow); rw [show x.key.data.toList.length = x.key.size from rfl] at *
        show (msgB 1 (msgB 1 x.key.data.toList)).length + (numB 2 (u64 x.pow)).length ≤ _
        omega))
      have hs5 := HS4.out.belowS hb45
      have hB5 := HB4.out.trans (hb45.mono HB4.out.size)
      have k5 := K5.out
      simp only [Bs.val] at k5
      generalize hW5 : W4.alloc _ = W5 at *
      have HS5 := Lib.hid hs5; have HB5 := Lib.hid hB5; have K5' := Lib.hid k5
      clear hs5 hB5 hb45 k5 K5 hW5
      refine ⟨HS5.out, ?_⟩
      refine wpAnyL_one 10 rfl (by kernel_rfl) rfl ?_
      go_simp
      refine K5'.out.mono ?_
      rintro e W6 ⟨A6, m6, c6, rfl, ho6, hb6⟩
      have HS6 := Lib.hid (HS5.out.belowS hb6); have HB6 := Lib.hid (HB5.out.trans (hb6.mono HB5.out.size)); have HO6 := Lib.hid ho6
      clear ho6 hb6
      refine ⟨HS6.out, ?_⟩
      refine wpAnyL_one 11 rfl (by kernel_rfl) rfl ?_
      go_simp
      have hb67 : Below W6.heap.size W6 (W6.alloc (.cells #[.slice A6 m6 c6] 22)) := (Below.refl _ _).alloc (Nat.le_refl _) _
      have hr7 := Rd.new W6 #[.slice A6 m6 c6] 22 1 1 W6.heap.size rfl rfl
      have hs7 := HS6.out.belowS hb67
      have hB7 := HB6.out.trans (hb67.mono HB6.out.size)
      have ho7 := HO6.out.below hb67 (Nat.le_refl _)
      have hz67 : W6.heap.size + 1 = (W6.alloc (.cells #[.slice A6 m6 c6] 22)).heap.size := by simp
      generalize hg6 : W6.heap.size = g6 at *
      generalize hW7 : W6.alloc _ = W7 at *
      have HS7 := Lib.hid hs7; have HB7 := Lib.hid hB7; have HO7 := Lib.hid ho7; have HR7 := Lib.hid hr7
      have hB57 := HB5.out.size
      have HZ5 := Lib.hid hB57
      clear hs7 hB7 ho7 hr7 hb67 hW7 hB57
      have hro7 := own_below HO.out HB7.out (Nat.le_refl _)
      have HRO7 := Lib.hid hro7
      have hwz : w.heap.size ≤ W7.heap.size := Nat.le_trans HB.out.size HB7.out.size
      have HWZ := Lib.hid hwz
      clear hro7 hwz
      refine ⟨HS7.out, ?_⟩
      refine wpAnyL_one 12 rfl (by kernel_rfl) rfl ?_
      refine wp_app _ (.tmp 12) (.tmp 23) 61 rfl w.heap.size 22 i0 _ 1 24 Tryd.underlying61 HI.out HZ0.out HZ1.out HZ2.out rfl (by decide) (.slice A1 k c1) k (ls.map Sb.cell) rfl HRO7.out (g6 + 1) (some ⟨g6, 0, none⟩) 1 1 [.slice A6 m6 c6] rfl HR7.out (by intro u hu; rw [List.mem_singleton] at hu; rw [hu]; rfl) (by simp only [maxLen]; omega) (by omega) HWZ.out ?_
      intro A8 c8 W8 hown8 hg8 _
      have HO8 := Lib.hid hown8; have HG8 := Lib.hid hg8
      have hs8 : Blk W8 wr.heap.size 59 #[.string x.adr, .string x.key, .int .i64 x.pow, .int .i64 x.pri] := HS7.out.grown hg8 (own_ne_blk HRO7.out HS7.out (by decide))
      have HS8 := Lib.hid hs8
      clear hown8 hg8 hs8
      refine ⟨fun _ => HS8.out, ?_⟩
      simp only [Act.put, List.setIfInBounds_toArray, List.set_cons_zero, List.set_cons_succ]
      refine wpAnyL_one 13 rfl (by kernel_rfl) rfl ?_
      go_simp
      refine wpAnyL_done (by kernel_rfl) ?_ _
      go_wp2_with fail
      have hsb : (msgB 1 (msgB 1 x.key.data.toList) ++ numB 2 (u64 x.pow)) = seatB x := rfl
      have ho9 := HO7.out
      rw [show (⟨A3, m3, c3, msgB 1 (msgB 1 x.key.data.toList)⟩ : Bs).s ++ (⟨A4, m4, c4, numB 2 (u64 x.pow)⟩ : Bs).s = seatB x from rfl] at ho9
      obtain ⟨hin9, hcell⟩ := SbO.of_own (lo := w.heap.size) ho9 (Nat.le_trans HB.out.size HZ5.out)
      obtain ⟨x9, hx9⟩ : ∃ x9 : Sb, x9 = ⟨A6, c6, seatB x⟩ := ⟨_, rfl⟩
      rw [← hx9] at hin9 hcell
      have hrow := HO8.out
      rw [← hcell] at hrow
      have hwb : Below w.heap.size w W8 := (HB.out.trans (HB7.out.mono HB.out.size)).grown HG8.out HWZ.out (own_base HRO7.out)
      refine ⟨⟨k + 1, A8, c8, ls ++ [x9], by omega, rfl, rfl, Lib.hid ?_, Lib.hid (by rw [List.map_append]; exact hrow), Lib.hid ?_, Lib.hid hwb⟩, by simp [intOf]; omega⟩
      · rw [List.map_append, HLS.out, HTK.out, hx9]; rfl
      · intro y hy
        rw [List.mem_append, List.mem_singleton] at hy
        rcases hy with hy | hy
        · exact ((HIN.out y hy).below HB7.out).grown HG8.out HRO7.out
        · rw [hy]; exact hin9.grown HG8.out HRO7.out
    · have hkn : k = n := by omega
      subst hkn
      have hrd := rdB_own HO.out HIN.out
      have hmap : ls.map Sb.s = l.map seatB := by rw [HLS.out, List.take_of_length_le (by have := HL.out; omega)]
      have hbig : ∀ x ∈ ls, x.s.length ≤ 30000000000 := fun x hx => by
        have h1 : x.s ∈ ls.map Sb.s := List.mem_map_of_mem hx
        rw [hmap] at h1
        obtain ⟨t, ht, e⟩ := List.mem_map.1 h1
        have h3 := (HKB.out t ht).1
        have h2 := seatB_length t h3
        rw [← e]; omega
      have hcap : k ≤ c1 := by
        rcases HO.out.2 with ⟨h1, h2⟩ | ⟨g, cap, cur, hv, _, _, h2, _⟩
        · omega
        · injection hv with _ _ h3; omega
      have HRD := Lib.hid hrd; have HMAP := Lib.hid hmap; have HBIG := Lib.hid hbig; have HCAP := Lib.hid hcap
      clear hrd hmap hbig hcap
      go_wp2_with fail
      refine (sroot_any k ls HRD.out.len (by omega) HBIG.out A1 c1 wr HRD.out HCAP.out).mono ?_
      rintro e w6 ⟨A6, m6, c6, rfl, ho6, hb6⟩
      have HO6 := Lib.hid (ho6.more HB.out.size); have HB6 := Lib.hid (HB.out.trans (hb6.mono HB.out.size))
      clear ho6 hb6
      go_wp2_with fail
      go_ret
      refine ⟨A6, m6, c6, rfl, ?_, HB6.out⟩
      rw [← HMAP.out]; exact HO6.out
end Go.Proofs.YtikikddkhikfkaaDoor
