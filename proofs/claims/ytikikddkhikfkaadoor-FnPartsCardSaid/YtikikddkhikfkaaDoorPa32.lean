/-
  The specification's sum of a set: SeatSum: the walk. By the session. The sums beside a leaf's way, gathered by parents: FlattenAunts: the walk. By the session. What a validator says as a message, in the package: CommitSig.Marshal: the walk. By the session. What a validator says as a message, as the reference has it: (spec.Sign).Bytes: the walk. Printed by gen_ssign.py. By the session. The sum of a commit, in the package and in the reference: Commit.Hash, impl.CommitSum, spec.CommitSum: walks. By the session. The sum of a commit: impl.CommitSum, spec.CommitSum: walks. By the session.
-/
import Derived.Test.YtikikddkhikfkaaDoorPa31
import Derived.Test.YtikikddkhikfkaaDoorPa23
import Derived.Test.YtikikddkhikfkaaDoorPa5
import Derived.Test.YtikikddkhikfkaaDoorPa27
import Derived.Test.YtikikddkhikfkaaDoorPa24
set_option linter.all false
namespace Go.Proofs.YtikikddkhikfkaaDoor
open Go.RowKit

theorem own_grown {w w' : World} {base e size n : Nat} {v : Value} {xs : List Value} {r : Option Nat} (h : w.ownsRow base e size v n xs) (hg : w.grownBy w' r) (hr : ∀ g, v.ownBlock = some g → r ≠ some g) : w'.ownsRow base e size v n xs := by
  refine ⟨h.1, ?_⟩
  rcases h.2 with h2 | ⟨g, cap, cur, hv, hb, hh, h3⟩
  · exact .inl h2
  · refine .inr ⟨g, cap, cur, hv, hb, ?_, h3⟩
    exact (hg.block g (lt_of_heap hh) (fun e => hr g (by rw [hv]; rfl) e.symm)).trans hh
/-- rows of cells of different types lie in different blocks -/
theorem own_apart {w : World} {b1 b2 e1 e2 s1 s2 n1 n2 : Nat} {v1 v2 : Value} {x1 x2 : List Value} (h1 : w.ownsRow b1 e1 s1 v1 n1 x1) (h2 : w.ownsRow b2 e2 s2 v2 n2 x2) (hne : e1 ≠ e2) : ∀ g, v1.ownBlock = some g → v2.ownBlock ≠ some g := by
  intro g hg hg2
  rcases h1.2 with ⟨rfl, _⟩ | ⟨g1, cap1, cur1, rfl, _, hh1, _⟩
  · cases hg
  · rcases h2.2 with ⟨rfl, _⟩ | ⟨g2, cap2, cur2, rfl, _, hh2, _⟩
    · cases hg2
    · cases hg; cases hg2
      rw [hh1] at hh2
      injection hh2 with hh2
      injection hh2 with _ ht
      exact hne ht
/-- bytes in a row of their own -/
def SbO (lo : Nat) (w : World) (x : Sb) : Prop := Own8 w lo x.a x.s.length x.c x.s
theorem rdB_own {lo n : Nat} {w : World} {A : Option Addr} {c : Nat} {l : List Sb} (h : w.ownsRow lo 22 1 (.slice A n c) n (l.map Sb.cell)) (hl : ∀ x ∈ l, SbO lo w x) : RdB w w.heap.size A n l :=
  ⟨Rd.of_own h, fun x hx => ⟨(hl x hx).rd, (hl x hx).cap, fun ad e => ((hl x hx).at_ ad.block (by rw [e]; rfl)).2⟩⟩
theorem SbO.of_own {lo B m c : Nat} {w : World} {A : Option Addr} {s : List UInt8} (h : Own8 w B A m c s) (hB : lo ≤ B) : SbO lo w ⟨A, c, s⟩ ∧ (⟨A, c, s⟩ : Sb).cell = .slice A m c := by
  have hl := h.len
  refine ⟨?_, by show Value.slice A s.length c = _; rw [hl]⟩
  have h1 := h.more hB
  rw [hl] at h1
  exact h1
theorem SbO.below {lo : Nat} {w w' : World} {x : Sb} (h : SbO lo w x) (hb : Below w.heap.size w w') : SbO lo w' x := Own8.below h hb (Nat.le_refl _)
theorem SbO.grown {lo n c : Nat} {w w' : World} {A : Option Addr} {xs : List Value} {x : Sb} (h : SbO lo w x) (hg : w.grownBy w' (Value.slice A n c).ownBlock) (hr : w.ownsRow lo 22 1 (.slice A n c) n xs) : SbO lo w' x :=
  own_grown h hg (own_apart h hr (by decide))
set_option maxRecDepth 100000 in
set_option maxHeartbeats 3200000 in
theorem seatSum_any (l : List Sd) (A : Option Addr) (n c : Nat) (w : World) (hr : Rd w w.heap.size 4 A n (cellsOf l)) (hn : n ≤ 1000000) (hk : ∀ x ∈ l, x.key.size ≤ 10000000000 ∧ in64' x.pow) :
    Calls Tryd.prog 17 #[.slice A n c] w (MadeQ w (rootL (l.map seatB))) := by
  obtain ⟨i0, hi0, hz0, hz1, hz2⟩ := info_parts infoBs
  have HI := Lib.hid hi0; have HZ0 := Lib.hid hz0; have HZ1 := Lib.hid hz1; have HZ2 := Lib.hid hz2
  clear hi0 hz0 hz1 hz2
  have HL := Lib.hid hr.len
  have HR := Lib.hid hr; have HKB := Lib.hid hk
  clear hr hk
  go_enter Tryd.func17, Tryd.ntmps17
  go_wp2_with fail
  go_loopw [3, 8] (fun v i wr => ∃ (k : Nat) (A1 : Option Addr) (c1 : Nat) (ls : List Sb), k ≤ n ∧ i = .int .i64 k ∧ v = .slice A1 k c1 ∧ Hid (ls.map Sb.s = (l.take k).map seatB) ∧ Hid (wr.ownsRow w.heap.size 22 1 (.slice A1 k c1) k (ls.map Sb.cell)) ∧ Hid (∀ x ∈ ls, SbO w.heap.size wr x) ∧ Hid (Below w.heap.size w wr)) (fun _ i _ => n - (intOf i).toNat)
  case atStart => exact ⟨0, none, 0, [], Nat.zero_le _, rfl, rfl, Lib.hid rfl, Lib.hid (World.ownsRow_nil _ _ _ _), (fun x hx => by cases hx), Below.refl _ _⟩
  case round =>
    obtain ⟨k, A1, c1, ls, hk, rfl, rfl, HLS, HO, HIN, HB⟩ := hrel
    by_cases hlt : k < n
    · have hk' : k < l.length := by have := HL.out; omega
      have hx : l[k]? = some l[k] := List.getElem?_eq_getElem hk'
      have hrr := HR.out.below HB.out
      obtain ⟨ad, rfl, hadb, c0, c1', c2, c3⟩ := hrr.seat hx
      have HTK := Lib.hid (show (l.take (k + 1)).map seatB = (l.take k).map seatB ++ [seatB l[k]] by
        rw [List.take_succ_eq_append_getElem hk', List.map_append]; rfl)
      have HBX := Lib.hid (HKB.out l[k] (List.getElem_mem hk'))
      generalize l[k] = x at *
      obtain ⟨f, kc⟩ := run_conv (P := Tryd.prog) 9 22 Tryd.underlying9 Tryd.underlying22 Tryd.underlying5 x.key
      have hsx : Blk (wr.alloc (.cells #[.string x.adr, .string x.key, .int .i64 x.pow, .int .i64 x.pri] 59)).drew wr.heap.size 59 #[.string x.adr, .string x.key, .int .i64 x.pow, .int .i64 x.pri] := (Blk.new wr _ _).drew
      have HSX := Lib.hid hsx
      have HB0 := Lib.hid (((Below.refl wr.heap.size wr).alloc (Nat.le_refl _) (.cells #[.string x.adr, .string x.key, .int .i64 x.pow, .int .i64 x.pri] 59)).drew)
      clear hsx hrr hx
      go_wp2_with fail
      refine wp_region_L (fun w' => Blk w' wr.heap.size 59 #[.string x.adr, .string x.key, .int .i64 x.pow, .int .i64 x.pri]) 13 (by kernel_rfl) ?_
      refine wpAnyL_take 0 (v := .slice A1 k c1) rfl (by kernel_rfl) (fun _ _ _ h => h) (yields_in rfl (fun w' hw' => by go_simp)) HSX.out ?_
      simp only [Act.put, List.setIfInBounds_toArray, List.set_cons_zero, List.set_cons_succ]
      refine wpAnyL_take 1 (v := .pointer (some ⟨wr.heap.size, 1, none⟩)) rfl (by kernel_rfl) (fun _ _ _ h => h) (yields_in rfl (fun w' hw' => by go_simp)) HSX.out ?_
      simp only [Act.put, List.setIfInBounds_toArray, List.set_cons_zero, List.set_cons_succ]
      refine wpAnyL_take 2 (v := .string x.key) rfl (by kernel_rfl) (fun _ _ _ h => h) (yields_in rfl (fun w' hw' => by have c1 : w'.cell? ⟨wr.heap.size, 1, none⟩ = some (.string x.key) := hw'.cell 1; go_simp)) HSX.out ?_
      simp only [Act.put, List.setIfInBounds_toArray, List.set_cons_zero, List.set_cons_succ]
      refine wpAnyL_take 6 (v := .pointer (some ⟨wr.heap.size, 2, none⟩)) rfl (by kernel_rfl) (fun _ _ _ h => h) (yields_in rfl (fun w' hw' => by go_simp)) HSX.out ?_
      simp only [Act.put, List.setIfInBounds_toArray, List.set_cons_zero, List.set_cons_succ]
      refine wpAnyL_take 7 (v := .int .i64 x.pow) rfl (by kernel_rfl) (fun _ _ _ h => h) (yields_in rfl (fun w' hw' => by have c1 : w'.cell? ⟨wr.heap.size, 2, none⟩ = some (.int .i64 x.pow) := hw'.cell 2; go_simp)) HSX.out ?_
      simp only [Act.put, List.setIfInBounds_toArray, List.set_cons_zero, List.set_cons_succ]
      generalize (wr.alloc _).drew = W0 at *
      refine wpAnyL_one 3 rfl (by kernel_rfl) rfl ?_
      go_simp
      have hbc : Below W0.heap.size W0 (W0.alloc (bObj x.key (f W0))).drew := ((Below.refl _ _).alloc (Nat.le_refl _) _).drew
      have hs1 := HSX.out.belowS hbc
      have hb1 := HB0.out.trans (hbc.mono HB0.out.size)
      have hr1 : Rd (W0.alloc (bObj x.key (f W0))).drew (W0.alloc (bObj x.key (f W0))).drew.heap.size 1 (some ⟨W0.heap.size, 0, none⟩) x.key.size (bc x.key.data.toList) := (Rd.conv W0 x.key (f W0) _ rfl).drew.more (by simp)
      generalize (W0.alloc (bObj x.key (f W0))).drew = W1 at *
      generalize f W0 = cp at *
      have HS1 := Lib.hid hs1; have HB1 := Lib.hid hb1; have HR1 := Lib.hid hr1
      clear hbc hs1 hb1 hr1 kc
      refine ⟨HS1.out, ?_⟩
      refine wpAnyL_one 4 rfl (by kernel_rfl) rfl ?_
      go_simp
      refine (within_any 1 _ x.key.size cp x.key.data.toList W1 (by decide) HR1.out (by have := HBX.out.1; omega)).mono ?_
      rintro e W2 ⟨A2, m2, c2, rfl, ho2, hb2⟩
      have HS2 := Lib.hid (HS1.out.belowS hb2); have HB2 := Lib.hid (HB1.out.trans (hb2.mono HB1.out.size)); have HO2 := Lib.hid ho2
      clear ho2 hb2
      refine ⟨HS2.out, ?_⟩
      refine wpAnyL_one 5 rfl (by kernel_rfl) rfl ?_
      go_simp
      have HML2 := Lib.hid (msgB_length 1 x.key.data.toList (by have := HBX.out.1; rw [show x.key.data.toList.length = x.key.size from rfl]; omega))
      refine (within_any 1 A2 m2 c2 (msgB 1 x.key.data.toList) W2 (by decide) HO2.out.rd (by have := HO2.out.len; have := HML2.out; have := HBX.out.1; rw [show x.key.data.toList.length = x.key.size from rfl] at *; omega)).mono ?_
      rintro e W3 ⟨A3, m3, c3, rfl, ho3, hb3⟩
      have HS3 := Lib.hid (HS2.out.belowS hb3); have HB3 := Lib.hid (HB2.out.trans (hb3.mono HB2.out.size)); have HO3 := Lib.hid ho3
      clear ho3 hb3
      refine ⟨HS3.out, ?_⟩
      refine wpAnyL_one 8 rfl (by kernel_rfl) rfl ?_
      go_simp
      refine (number_any 2 x.pow W3 (by decide) HBX.out.2).mono ?_
      rintro e W4 ⟨A4, m4, c4, rfl, ho4, hb4⟩
      have HS4 := Lib.hid (HS3.out.belowS hb4); have HB4 := Lib.hid (HB3.out.trans (hb4.mono HB3.out.size)); have HO4 := Lib.hid ho4
      have HO3' := Lib.hid (HO3.out.below hb4 (Nat.le_refl _))
      clear ho4 hb4
      refine ⟨HS4.out, ?_⟩
      refine wpAnyL_one 9 rfl (by kernel_rfl) rfl ?_
      go_simp
      have hb45 : Below W4.heap.size W4 (W4.alloc (.cells #[.slice A3 m3 c3, .slice A4 m4 c4] 22)) := (Below.refl _ _).alloc (Nat.le_refl _) _
      have HML3 := Lib.hid (msgB_length 1 (msgB 1 x.key.data.toList) (by have := HBX.out.1; have := HML2.out; rw [show x.key.data.toList.length = x.key.size from rfl] at *; omega))
      have K5 := Lib.hid (joined_two ⟨A3, m3, c3, msgB 1 (msgB 1 x.key.data.toList)⟩ ⟨A4, m4, c4, numB 2 (u64 x.pow)⟩ W4 _ 22 W4.heap.size rfl rfl HO3'.out.rd HO4.out.rd (by
        have := HBX.out.1; have := HML2.out; have := HML3.out; have := numB_length 2 _ (u64_lt x.pow); rw [show x.key.data.toList.length = x.key.size from rfl] at *
        show (msgB 1 (msgB 1 x.key.data.toList)).length + (numB 2 (u64 x.pow)).length ≤ _
        omega))
      have hs5 := HS4.out.belowS hb45
      have hB5 := HB4.out.trans (hb45.mono HB4.out.size)
      have k5 := K5.out
      simp only [Bs.val] at k5
      generalize hW5 : W4.alloc _ = W5 at *
      have HS5 := Lib.hid hs5; have HB5 := Lib.hid hB5; have K5' := Lib.hid k5
      clear hs5 hB5 hb45 k5 K5 hW5
      refine ⟨HS5.out, ?_⟩
      refine wpAnyL_one 10 rfl (by kernel_rfl) rfl ?_
      go_simp
      refine K5'.out.mono ?_
      rintro e W6 ⟨A6, m6, c6, rfl, ho6, hb6⟩
      have HS6 := Lib.hid (HS5.out.belowS hb6); have HB6 := Lib.hid (HB5.out.trans (hb6.mono HB5.out.size)); have HO6 := Lib.hid ho6
      clear ho6 hb6
      refine ⟨HS6.out, ?_⟩
      refine wpAnyL_one 11 rfl (by kernel_rfl) rfl ?_
      go_simp
      have hb67 : Below W6.heap.size W6 (W6.alloc (.cells #[.slice A6 m6 c6] 22)) := (Below.refl _ _).alloc (Nat.le_refl _) _
      have hr7 := Rd.new W6 #[.slice A6 m6 c6] 22 1 1 W6.heap.size rfl rfl
      have hs7 := HS6.out.belowS hb67
      have hB7 := HB6.out.trans (hb67.mono HB6.out.size)
      have ho7 := HO6.out.below hb67 (Nat.le_refl _)
      have hz67 : W6.heap.size + 1 = (W6.alloc (.cells #[.slice A6 m6 c6] 22)).heap.size := by simp
      generalize hg6 : W6.heap.size = g6 at *
      generalize hW7 : W6.alloc _ = W7 at *
      have HS7 := Lib.hid hs7; have HB7 := Lib.hid hB7; have HO7 := Lib.hid ho7; have HR7 := Lib.hid hr7
      have hB57 := HB5.out.size
      have HZ5 := Lib.hid hB57
      clear hs7 hB7 ho7 hr7 hb67 hW7 hB57
      have hro7 := own_below HO.out HB7.out (Nat.le_refl _)
      have HRO7 := Lib.hid hro7
      have hwz : w.heap.size ≤ W7.heap.size := Nat.le_trans HB.out.size HB7.out.size
      have HWZ := Lib.hid hwz
      clear hro7 hwz
      refine ⟨HS7.out, ?_⟩
      refine wpAnyL_one 12 rfl (by kernel_rfl) rfl ?_
      refine wp_app _ (.tmp 12) (.tmp 23) 61 rfl w.heap.size 22 i0 _ 1 24 Tryd.underlying61 HI.out HZ0.out HZ1.out HZ2.out rfl (by decide) (.slice A1 k c1) k (ls.map Sb.cell) rfl HRO7.out (g6 + 1) (some ⟨g6, 0, none⟩) 1 1 [.slice A6 m6 c6] rfl HR7.out (by intro u hu; rw [List.mem_singleton] at hu; rw [hu]; rfl) (by simp only [maxLen]; omega) (by omega) HWZ.out ?_
      intro A8 c8 W8 hown8 hg8 _
      have HO8 := Lib.hid hown8; have HG8 := Lib.hid hg8
      have hs8 : Blk W8 wr.heap.size 59 #[.string x.adr, .string x.key, .int .i64 x.pow, .int .i64 x.pri] := HS7.out.grown hg8 (own_ne_blk HRO7.out HS7.out (by decide))
      have HS8 := Lib.hid hs8
      clear hown8 hg8 hs8
      refine ⟨fun _ => HS8.out, ?_⟩
      simp only [Act.put, List.setIfInBounds_toArray, List.set_cons_zero, List.set_cons_succ]
      refine wpAnyL_one 13 rfl (by kernel_rfl) rfl ?_
      go_simp
      refine wpAnyL_done (by kernel_rfl) ?_ _
      go_wp2_with fail
      have hsb : (msgB 1 (msgB 1 x.key.data.toList) ++ numB 2 (u64 x.pow)) = seatB x := rfl
      have ho9 := HO7.out
      rw [show (⟨A3, m3, c3, msgB 1 (msgB 1 x.key.data.toList)⟩ : Bs).s ++ (⟨A4, m4, c4, numB 2 (u64 x.pow)⟩ : Bs).s = seatB x from rfl] at ho9
      obtain ⟨hin9, hcell⟩ := SbO.of_own (lo := w.heap.size) ho9 (Nat.le_trans HB.out.size HZ5.out)
      obtain ⟨x9, hx9⟩ : ∃ x9 : Sb, x9 = ⟨A6, c6, seatB x⟩ := ⟨_, rfl⟩
      rw [← hx9] at hin9 hcell
      have hrow := HO8.out
      rw [← hcell] at hrow
      have hwb : Below w.heap.size w W8 := (HB.out.trans (HB7.out.mono HB.out.size)).grown HG8.out HWZ.out (own_base HRO7.out)
      refine ⟨⟨k + 1, A8, c8, ls ++ [x9], by omega, rfl, rfl, Lib.hid ?_, Lib.hid (by rw [List.map_append]; exact hrow), Lib.hid ?_, Lib.hid hwb⟩, by simp [intOf]; omega⟩
      · rw [List.map_append, HLS.out, HTK.out, hx9]; rfl
      · intro y hy
        rw [List.mem_append, List.mem_singleton] at hy
        rcases hy with hy | hy
        · exact ((HIN.out y hy).below HB7.out).grown HG8.out HRO7.out
        · rw [hy]; exact hin9.grown HG8.out HRO7.out
    · have hkn : k = n := by omega
      subst hkn
      have hrd := rdB_own HO.out HIN.out
      have hmap : ls.map Sb.s = l.map seatB := by rw [HLS.out, List.take_of_length_le (by have := HL.out; omega)]
      have hbig : ∀ x ∈ ls, x.s.length ≤ 30000000000 := fun x hx => by
        have h1 : x.s ∈ ls.map Sb.s := List.mem_map_of_mem hx
        rw [hmap] at h1
        obtain ⟨t, ht, e⟩ := List.mem_map.1 h1
        have h3 := (HKB.out t ht).1
        have h2 := seatB_length t h3
        rw [← e]; omega
      have hcap : k ≤ c1 := by
        rcases HO.out.2 with ⟨h1, h2⟩ | ⟨g, cap, cur, hv, _, _, h2, _⟩
        · omega
        · injection hv with _ _ h3; omega
      have HRD := Lib.hid hrd; have HMAP := Lib.hid hmap; have HBIG := Lib.hid hbig; have HCAP := Lib.hid hcap
      clear hrd hmap hbig hcap
      go_wp2_with fail
      refine (sroot_any k ls HRD.out.len (by omega) HBIG.out A1 c1 wr HRD.out HCAP.out).mono ?_
      rintro e w6 ⟨A6, m6, c6, rfl, ho6, hb6⟩
      have HO6 := Lib.hid (ho6.more HB.out.size); have HB6 := Lib.hid (HB.out.trans (hb6.mono HB.out.size))
      clear ho6 hb6
      go_wp2_with fail
      go_ret
      refine ⟨A6, m6, c6, rfl, ?_, HB6.out⟩
      rw [← HMAP.out]; exact HO6.out
end Go.Proofs.YtikikddkhikfkaaDoor

set_option linter.all false
namespace Go.Proofs.YtikikddkhikfkaaDoor
open Go.RowKit

def lenV : Value → Nat
  | .slice _ n _ => n
  | _ => 0
def nilV : Value → Nat
  | .pointer none => 0
  | _ => 1
set_option maxRecDepth 100000 in
set_option maxHeartbeats 6400000 in
theorem flatten_any (b lo hi r p : Nat) (l : List (List UInt8)) (w : World) (hW : Way w b lo hi r p l) (hroot : ∃ A s c, Blk w r 195 (nodeC A s c none none none)) (hlen : l.length ≤ 1000000) :
    Calls Tryd.prog 106 #[.pointer (some ⟨p, 0, none⟩)] w fun e w' => ∃ (A' : Option Addr) (c' : Nat) (au : List Sb), e = .returned (.slice A' l.length c') ∧ au.map Sb.s = l ∧ w'.ownsRow w.heap.size 22 1 (.slice A' l.length c') l.length (au.map Sb.cell) ∧ (∀ x ∈ au, SbO b w x) ∧ Below w.heap.size w w' := by
  obtain ⟨i0, hi0, hz0, hz1, hz2⟩ := info_parts infoBs
  have HI := Lib.hid hi0; have HZ0 := Lib.hid hz0; have HZ1 := Lib.hid hz1; have HZ2 := Lib.hid hz2
  have HWAY := Lib.hid hW; have HROOT := Lib.hid hroot
  clear hi0 hz0 hz1 hz2 hW hroot
  have hbl : Below w.heap.size w (w.alloc (.cells #[] 22)) := (Below.refl _ _).alloc (Nat.le_refl _) _
  have hro0 : (w.alloc (.cells #[] 22)).ownsRow w.heap.size 22 1 (.slice (some ⟨w.heap.size, 0, none⟩) 0 0) 0 [] := ⟨rfl, .inr ⟨w.heap.size, 0, #[], rfl, Nat.le_refl _, heap_alloc_new w _, Nat.le_refl _, by decide, rfl, rfl⟩⟩
  have HBL := Lib.hid hbl; have HRO0 := Lib.hid hro0
  clear hbl hro0
  go_enter Tryd.func106, Tryd.ntmps106
  go_wp2_with fail
  go_loopw [0, 3] (fun v s wr => ∃ (m : Nat) (t : List (List UInt8)) (A1 : Option Addr) (c1 : Nat) (au : List Sb), m ≤ l.length ∧ s = .slice A1 m c1 ∧ Hid (au.map Sb.s ++ t = l) ∧ Hid (wr.ownsRow w.heap.size 22 1 (.slice A1 m c1) m (au.map Sb.cell)) ∧ Hid (∀ x ∈ au, SbO b w x) ∧ Hid (Below w.heap.size w wr) ∧ Hid ((∃ p', v = .pointer (some ⟨p', 0, none⟩) ∧ Way w b lo hi r p' t) ∨ (v = .pointer none ∧ t = []))) (fun v s _ => 2 * (l.length - lenV s) + nilV v)
  case atStart => exact ⟨0, l, some ⟨w.heap.size, 0, none⟩, 0, [], Nat.zero_le _, rfl, Lib.hid rfl, HRO0.out, fun _ h => by simp at h, HBL.out, Lib.hid (.inl ⟨p, rfl, HWAY.out⟩)⟩
  case round =>
    obtain ⟨m, t, A1, c1, au, hm, rfl, HLT, HO, HAU, HB, HV⟩ := hrel
    have hml : au.length = m := by have := HO.out.1; rw [List.length_map] at this; omega
    have hmt : m + t.length = l.length := by rw [← HLT.out, List.length_append, List.length_map, hml]
    rcases HV.out with ⟨p', rfl, hway⟩ | ⟨rfl, ht⟩
    · clear HV
      match t, hway, HLT, hmt with
      | [], hway, HLT, hmt =>
        obtain ⟨RA, rs, rc, hrb⟩ := HROOT.out
        have hpr : p' = r := hway
        subst hpr
        have r0 : ∀ j, wr.cell? ⟨p', j, none⟩ = (#[.slice RA rs.length rc, .pointer none, .pointer none, .pointer none] : Array Value)[j]? := fun j => (hrb.belowS HB.out).cell j
        clear hrb hway hml
        go_wp2_with fail
        go_roundw
        case rel => exact ⟨m, [], A1, c1, au, hm, rfl, HLT.out, HO.out, HAU.out, HB.out, Lib.hid (.inr ⟨rfl, rfl⟩)⟩
        case measure => simp [lenV, nilV]
      | x :: t', hway, HLT, hmt =>
        obtain ⟨_, _, _, NA, s, nc, q, k, L, R, hnb, hLR, ⟨KA, kc, KP, KL, KR, hkb, hko⟩, hnw⟩ := hway
        have hx32 := hko.len
        have hkb' := hkb.belowS HB.out
        have hlt2 : m + 1 ≤ l.length := by rw [List.length_cons] at hmt; omega
        have HKO : Hid (SbO b w (⟨KA, kc, x⟩ : Sb)) := Lib.hid (by unfold SbO; rw [← hx32]; exact hko)
        have HLT : Hid (au.map Sb.s ++ ([x] ++ t') = l ∧ True) := Lib.hid ⟨HLT.out, trivial⟩
        have hr7 := Rd.new wr #[.slice KA x.length kc] 22 1 1 wr.heap.size rfl rfl
        have hb7 : Below wr.heap.size wr (wr.alloc (.cells #[.slice KA x.length kc] 22)) := (Below.refl _ _).alloc (Nat.le_refl _) _
        have hB7 := HB.out.trans (hb7.mono HB.out.size)
        have hro7 := own_below HO.out hb7 (Nat.le_refl _)
        have HB7 := Lib.hid hB7; have HR7 := Lib.hid hr7; have HRO7 := Lib.hid hro7; have HWZ := Lib.hid hB7.size
        have HNB := Lib.hid hnb; have HNW := Lib.hid hnw
        clear hb7 hB7 hr7 hro7 hko hx32 hkb hnw hml hmt
        have rk : ∀ j, wr.cell? ⟨k, j, none⟩ = (#[.slice KA x.length kc, ptrO KP, ptrO KL, ptrO KR] : Array Value)[j]? := fun j => hkb'.cell j
        clear hkb'
        rcases hLR with rfl | ⟨rfl, rfl⟩
        · have r0 : ∀ j, wr.cell? ⟨p', j, none⟩ = (#[.slice NA s.length nc, .pointer (some ⟨q, 0, none⟩), .pointer (some ⟨k, 0, none⟩), ptrO R] : Array Value)[j]? := fun j => (hnb.belowS HB.out).cell j
          clear hnb
          go_wp2_with (at_builtin; refine wpList_app _ rfl (.tmp 13) (.tmp 21) 61 rfl w.heap.size 22 i0 _ 1 24 Tryd.underlying61 HI.out HZ0.out HZ1.out HZ2.out rfl (by decide) (.slice A1 m c1) m (au.map Sb.cell) rfl HRO7.out (wr.heap.size + 1) (some ⟨wr.heap.size, 0, none⟩) 1 1 [.slice KA x.length kc] rfl HR7.out ?q0 ?q1 ?q2 HWZ.out ?_; (case q0 => intro u hu; rw [List.mem_singleton] at hu; rw [hu]; rfl); (case q1 => simp only [maxLen]; omega); (case q2 => omega); intro A8 c8 W8 hown8 hg8 _; have hq : W8.cell? ⟨p', 1, none⟩ = some (.pointer (some ⟨q, 0, none⟩)) := ((HB7.out.grown hg8 HWZ.out (own_base HRO7.out)).cell (p := ⟨p', 1, none⟩) HNB.out.lt).trans (HNB.out.cell 1))
          have hb8 : Below w.heap.size w W8 := HB7.out.grown hg8 HWZ.out (own_base HRO7.out)
          have hrow2 : W8.ownsRow w.heap.size 22 1 (.slice A8 (m + 1) c8) (m + 1) ((au ++ [(⟨KA, kc, x⟩ : Sb)]).map Sb.cell) := by rw [List.map_append]; exact hown8
          have hau2 : ∀ y ∈ au ++ [(⟨KA, kc, x⟩ : Sb)], SbO b w y := by
            intro y hy
            rw [List.mem_append, List.mem_singleton] at hy
            rcases hy with hy | hy
            · exact HAU.out y hy
            · rw [hy]; exact HKO.out
          clear hq
          have HHB8 := Lib.hid hb8; have HHR2 := Lib.hid hrow2; have HHA2 := Lib.hid hau2
          clear hb8 hrow2 hau2 hown8 hg8
          go_roundw
          case rel => exact ⟨m + 1, t', A8, c8, au ++ [(⟨KA, kc, x⟩ : Sb)], by omega, rfl, Lib.hid (by rw [List.map_append, List.append_assoc]; exact HLT.out.1), HHR2.out, HHA2.out, HHB8.out, Lib.hid (.inl ⟨q, rfl, HNW.out⟩)⟩
          case measure => simp [lenV, nilV]; omega
        · have r0 : ∀ j, wr.cell? ⟨p', j, none⟩ = (#[.slice NA s.length nc, .pointer (some ⟨q, 0, none⟩), .pointer none, .pointer (some ⟨k, 0, none⟩)] : Array Value)[j]? := fun j => (hnb.belowS HB.out).cell j
          clear hnb
          go_wp2_with (at_builtin; refine wpList_app _ rfl (.tmp 29) (.tmp 37) 61 rfl w.heap.size 22 i0 _ 1 24 Tryd.underlying61 HI.out HZ0.out HZ1.out HZ2.out rfl (by decide) (.slice A1 m c1) m (au.map Sb.cell) rfl HRO7.out (wr.heap.size + 1) (some ⟨wr.heap.size, 0, none⟩) 1 1 [.slice KA x.length kc] rfl HR7.out ?q0 ?q1 ?q2 HWZ.out ?_; (case q0 => intro u hu; rw [List.mem_singleton] at hu; rw [hu]; rfl); (case q1 => simp only [maxLen]; omega); (case q2 => omega); intro A8 c8 W8 hown8 hg8 _; have hq : W8.cell? ⟨p', 1, none⟩ = some (.pointer (some ⟨q, 0, none⟩)) := ((HB7.out.grown hg8 HWZ.out (own_base HRO7.out)).cell (p := ⟨p', 1, none⟩) HNB.out.lt).trans (HNB.out.cell 1))
          have hb8 : Below w.heap.size w W8 := HB7.out.grown hg8 HWZ.out (own_base HRO7.out)
          have hrow2 : W8.ownsRow w.heap.size 22 1 (.slice A8 (m + 1) c8) (m + 1) ((au ++ [(⟨KA, kc, x⟩ : Sb)]).map Sb.cell) := by rw [List.map_append]; exact hown8
          have hau2 : ∀ y ∈ au ++ [(⟨KA, kc, x⟩ : Sb)], SbO b w y := by
            intro y hy
            rw [List.mem_append, List.mem_singleton] at hy
            rcases hy with hy | hy
            · exact HAU.out y hy
            · rw [hy]; exact HKO.out
          clear hq
          have HHB8 := Lib.hid hb8; have HHR2 := Lib.hid hrow2; have HHA2 := Lib.hid hau2
          clear hb8 hrow2 hau2 hown8 hg8
          go_roundw
          case rel => exact ⟨m + 1, t', A8, c8, au ++ [(⟨KA, kc, x⟩ : Sb)], by omega, rfl, Lib.hid (by rw [List.map_append, List.append_assoc]; exact HLT.out.1), HHR2.out, HHA2.out, HHB8.out, Lib.hid (.inl ⟨q, rfl, HNW.out⟩)⟩
          case measure => simp [lenV, nilV]; omega
    · clear HV
      subst ht
      go_wp2_with fail
      go_ret
      have e1 : au.map Sb.s = l := by have := HLT.out; rwa [List.append_nil] at this
      have e2 : m = l.length := by simpa using hmt
      subst e2
      exact ⟨A1, c1, au, rfl, e1, HO.out, HAU.out, HB.out⟩
end Go.Proofs.YtikikddkhikfkaaDoor

set_option linter.all false
namespace Go.Proofs.YtikikddkhikfkaaDoor
open Go.RowKit

/-- what a validator says as a message -/
def signB (flag : Int) (adr : List UInt8) (sec nan : Int) (sig : List UInt8) : List UInt8 := numB 1 (u64 flag) ++ txtB 2 adr ++ msgB 3 (timeB sec nan) ++ txtB 4 sig
theorem signB_length (flag : Int) (adr : List UInt8) (sec nan : Int) (sig : List UInt8) (h1 : adr.length ≤ 10000000000) (h2 : sig.length ≤ 10000000000) : (signB flag adr sec nan sig).length ≤ 100 + adr.length + sig.length := by
  have a := numB_length 1 _ (u64_lt flag)
  have b := txtB_length 2 adr (by omega)
  have c := timeB_length sec nan
  have d := msgB_length 3 (timeB sec nan) (by omega)
  have e := txtB_length 4 sig (by omega)
  unfold signB
  rw [List.length_append, List.length_append, List.length_append]; omega
set_option maxRecDepth 100000 in
set_option maxHeartbeats 1600000 in
/-- putText, of bytes that lie below the row's own block -/
theorem putTxt_lo (B n c f : Nat) (A : Option Addr) (l : List UInt8) (X : Option Addr) (m d : Nat) (x : List UInt8) (w : World) (h : Own8 w B A n c l) (hB : B ≤ w.heap.size) (hn : n ≤ 30000000000) (hr : Rd w B 1 X m (bc x)) (hm : m ≤ 30000000000) (hf : f < 31) :
    Calls Tryd.prog 93 #[.slice A n c, .int .i64 f, .slice X m d] w fun e w' => ∃ A' m c', e = .returned (.slice A' m c') ∧ Own8 w' B A' m c' (l ++ txtB f x) ∧ Grew w w' (.slice A n c) (.slice A' m c') := by
  have hxm := hr.len1
  by_cases h0 : m = 0
  · subst h0
    have hx : x = [] := List.eq_nil_of_length_eq_zero hxm.symm
    have HX := Lib.hid hx; have HO := Lib.hid h
    clear h hr hxm hx
    go_enter Tryd.func93, Tryd.ntmps93
    go_wp2
    go_ret
    exact ⟨A, n, c, rfl, by rw [HX.out, show txtB f [] = [] from rfl, List.append_nil]; exact HO.out, Grew.refl _ _⟩
  · have hX : ∀ ad, X = some ad → ad.block < B := by
      have hx0 : x[0]? = some x[0] := List.getElem?_eq_getElem (by omega)
      obtain ⟨ad, e, hb, _⟩ := hr.2 0 _ (bc_get hx0)
      intro ad' e'
      rw [e] at e'; cases e'; exact hb
    exact putTxt_any B n c f A l X m d x w h hB hn (hr.more hB) (Apart8.of_lt (fun k hk => (h.at_ k hk).1) hX) (fun ad e => Nat.lt_of_lt_of_le (hX ad e) hB) hm hf
set_option maxRecDepth 100000 in
set_option maxHeartbeats 1600000 in
theorem csMarshal_any (s : Cs) (adr sig : List UInt8) (w : World) (ha : Rd w w.heap.size 1 s.VA s.vn (bc adr)) (hg : Rd w w.heap.size 1 s.GA s.gn (bc sig)) (hfl : 0 ≤ s.flag ∧ s.flag ≤ 255)
    (hs : -4611686018427387904 ≤ s.sec ∧ s.sec ≤ 4611686018427387904) (hn : 0 ≤ s.nan ∧ s.nan ≤ 2147483647) (h1 : s.vn ≤ 10000000000) (h2 : s.gn ≤ 10000000000) :
    Calls Tryd.prog 66 #[.agg #[.int .u8 s.flag, .slice s.VA s.vn s.vc, .int .i64 (s.sec + 62135596800), .int .i32 s.nan, .slice s.GA s.gn s.gc]] w (MadeQ w (signB s.flag adr s.sec s.nan sig)) := by
  have hal := ha.len1; have hgl := hg.len1
  have hu : ((u64 s.flag : Nat) : Int) = s.flag := by rw [u64_cast]; omega
  have hB0 : Below w.heap.size w (w.alloc (.cells #[.int .u8 s.flag, .slice s.VA s.vn s.vc, .int .i64 (s.sec + 62135596800), .int .i32 s.nan, .slice s.GA s.gn s.gc] 138)) := (Below.refl _ _).alloc (Nat.le_refl _) _
  have hK0 := Blk.new w 138 #[.int .u8 s.flag, .slice s.VA s.vn s.vc, .int .i64 (s.sec + 62135596800), .int .i32 s.nan, .slice s.GA s.gn s.gc]
  have HA := Lib.hid ha; have HG := Lib.hid hg; have HU := Lib.hid hu; have HS := Lib.hid (And.intro hs hn); have HN := Lib.hid (And.intro h1 (And.intro h2 (And.intro hal hgl)))
  have HB0 := Lib.hid hB0; have HK0 := Lib.hid hK0
  have HT := Lib.hid (ctime_any s.sec s.nan)
  clear ha hg hu hs hn h1 h2 hal hgl hB0 hK0
  go_enter Tryd.func66, Tryd.ntmps66
  go_wp2_with fail
  have hb0 := HB0.out
  have hk0 := HK0.out
  generalize (w.alloc (.cells #[.int .u8 s.flag, .slice s.VA s.vn s.vc, .int .i64 (s.sec + 62135596800), .int .i32 s.nan, .slice s.GA s.gn s.gc] 138)) = W0 at *
  have hA0 : Rd W0 W0.heap.size 1 s.VA s.vn (bc adr) := (HA.out.below hb0).sized
  have hG0 : Rd W0 W0.heap.size 1 s.GA s.gn (bc sig) := (HG.out.below hb0).sized
  have HA0 := Lib.hid hA0; have HG0 := Lib.hid hG0
  have k1 := putNum_any W0.heap.size 0 0 1 none [] (u64 s.flag) W0 (Own8.nil _ _) (Nat.le_refl _) (by decide) (u64_lt _) (by decide)
  rw [HU.out] at k1
  refine k1.mono ?_
  rintro e w1 ⟨A1, m1, c1, rfl, ho1, hg1⟩
  have hb1 : Below W0.heap.size W0 w1 := hg1.below (Nat.le_refl _) (by intro k e; cases e)
  have hk1 := hk0.belowS hb1
  have d1 : w1.cell? ⟨w.heap.size, 1, none⟩ = some (.slice s.VA s.vn s.vc) := hk1.cell 1
  have HB1 := Lib.hid hb1; have HK1 := Lib.hid hk1; have HO1 := Lib.hid ho1; have HBW := Lib.hid hb0
  have HL1 : Hid (m1 ≤ 11) := Lib.hid (by have := ho1.len; have := numB_length 1 _ (u64_lt s.flag); rw [List.nil_append] at *; omega)
  clear hb0 hk0 hA0 hG0 k1 ho1 hg1 hb1 hk1
  go_wp2_with fail
  refine (putTxt_lo W0.heap.size m1 c1 2 A1 _ s.VA s.vn s.vc adr w1 HO1.out HB1.out.size (by have := HL1.out; omega) (HA0.out.below HB1.out) (by have := HN.out; omega) (by decide)).mono ?_
  rintro e w2 ⟨A2, m2, c2, rfl, ho2, hg2⟩
  have hb2 : Below W0.heap.size W0 w2 := HB1.out.grown hg2.1 HB1.out.size (fun k e => (HO1.out.at_ k e).1)
  have hk2 := HK1.out.grown hg2.1 (fun e => by have h1 := HK1.out.lt; have h2 := (HO1.out.at_ _ e.symm).1; have h3 := HK0.out.lt; omega)
  have d2 : w2.cell? ⟨w.heap.size, 2, none⟩ = some (.int .i64 (s.sec + 62135596800)) := hk2.cell 2
  have d3 : w2.cell? ⟨w.heap.size, 3, none⟩ = some (.int .i32 s.nan) := hk2.cell 3
  have HB2 := Lib.hid hb2; have HK2 := Lib.hid hk2; have HO2 := Lib.hid ho2
  have HL2 : Hid (m2 ≤ 22 + s.vn) := Lib.hid (by have := ho2.len; have := numB_length 1 _ (u64_lt s.flag); have := txtB_length 2 adr (by have := HN.out; omega); rw [List.nil_append, List.length_append] at *; have := HN.out; omega)
  clear ho2 hg2 hb2 hk2 d1
  go_wp2_with fail
  refine (HT.out w2 HS.out.1 HS.out.2).mono ?_
  rintro e w3 ⟨A3, m3, c3, rfl, ho3, hb3⟩
  have hb3' : Below W0.heap.size W0 w3 := HB2.out.trans (hb3.mono HB2.out.size)
  have hk3 := HK2.out.belowS hb3
  have HB3 := Lib.hid hb3'; have HK3 := Lib.hid hk3; have HO3 := Lib.hid ho3; have HO23 := Lib.hid (HO2.out.below hb3 (Nat.le_refl _)); have HS23 := Lib.hid hb3.size
  have HL3 : Hid (m3 ≤ 22) := Lib.hid (by have := ho3.len; have := timeB_length s.sec s.nan; omega)
  clear ho3 hb3 hb3' hk3 d2 d3
  go_wp2_with fail
  refine (putMsg_any W0.heap.size m2 c2 3 A2 _ A3 m3 c3 (timeB s.sec s.nan) w3 HO23.out HB3.out.size (by have := HL2.out; have := HN.out; omega) HO3.out.rd (fun ad e e2 => by have h1 := (HO3.out.at_ ad.block (by rw [e]; rfl)).1; have h2 := (HO2.out.at_ _ e2.symm).2; omega) (fun ad e => (HO3.out.at_ ad.block (by rw [e]; rfl)).2) (by have := HL3.out; omega) (by decide)).mono ?_
  rintro e w4 ⟨A4, m4, c4, rfl, ho4, hg4⟩
  have hb4 : Below W0.heap.size W0 w4 := HB3.out.grown hg4.1 HB3.out.size (fun k e => (HO23.out.at_ k e).1)
  have hk4 := HK3.out.grown hg4.1 (fun e => by have h2 := (HO23.out.at_ _ e.symm).1; have h3 := HK0.out.lt; omega)
  have d4 : w4.cell? ⟨w.heap.size, 4, none⟩ = some (.slice s.GA s.gn s.gc) := hk4.cell 4
  have HB4 := Lib.hid hb4; have HO4 := Lib.hid ho4
  have HL4 : Hid (m4 ≤ 60 + s.vn) := Lib.hid (by have := ho4.len; have := numB_length 1 _ (u64_lt s.flag); have := txtB_length 2 adr (by have := HN.out; omega); have h5 := timeB_length s.sec s.nan; have := msgB_length 3 (timeB s.sec s.nan) (by omega); rw [List.nil_append, List.length_append, List.length_append] at *; have := HN.out; omega)
  clear ho4 hg4 hb4 hk4
  go_wp2_with fail
  refine (putTxt_lo W0.heap.size m4 c4 4 A4 _ s.GA s.gn s.gc sig w4 HO4.out HB4.out.size (by have := HL4.out; have := HN.out; omega) (HG0.out.below HB4.out) (by have := HN.out; omega) (by decide)).mono ?_
  rintro e w5 ⟨A5, m5, c5, rfl, ho5, hg5⟩
  have hb5 : Below W0.heap.size W0 w5 := HB4.out.grown hg5.1 HB4.out.size (fun k e => (HO4.out.at_ k e).1)
  have HB5 := Lib.hid hb5; have HO5 := Lib.hid ho5
  clear ho5 hg5 hb5 d4
  go_wp2_with fail
  go_ret
  refine ⟨A5, m5, c5, rfl, ?_, HBW.out.trans (HB5.out.mono HBW.out.size)⟩
  have h9 := HO5.out
  rw [List.nil_append] at h9
  exact h9.more HBW.out.size
end Go.Proofs.YtikikddkhikfkaaDoor

set_option linter.all false
namespace Go.Proofs.YtikikddkhikfkaaDoor
open Go.RowKit

theorem joined_four (a b c d : Bs) (w w1 : World) (t : TypeId) (N : Nat) (hN : w.heap.size = N) (hw : w1 = w.alloc (.cells #[a.val, b.val, c.val, d.val] t)) (ha : a.ok w) (hb : b.ok w) (hc : c.ok w) (hd : d.ok w) (h1 : a.s.length + b.s.length + c.s.length + d.s.length ≤ 50000000000) :
    Calls Tryd.prog 36 #[.slice (some ⟨N, 0, none⟩) 4 4] w1 fun e w' => ∃ A m c', e = .returned (.slice A m c') ∧ Own8 w' w1.heap.size A m c' (a.s ++ (b.s ++ (c.s ++ d.s))) ∧ Below w1.heap.size w1 w' := by
  subst hN; subst hw
  have hr := Rd.new w #[a.val, b.val, c.val, d.val] t 1 4 w.heap.size rfl rfl
  have hb3 := (Below.refl w.heap.size w).alloc (Nat.le_refl _) (.cells #[a.val, b.val, c.val, d.val] t)
  have h := joined_any [a, b, c, d] (some ⟨w.heap.size, 0, none⟩) 4 4 _ (hr.more (by simp)) (by
    intro x hx
    simp only [List.mem_cons, List.not_mem_nil, or_false] at hx
    rcases hx with rfl | rfl | rfl | rfl
    · exact ha.below hb3
    · exact hb.below hb3
    · exact hc.below hb3
    · exact hd.below hb3) (by omega) (by
    intro k
    match k with
    | 0 => simp
    | 1 => simp; omega
    | 2 => simp; omega
    | 3 => simp; omega
    | k + 4 => simp; omega)
  have e : joinB [a, b, c, d] = a.s ++ (b.s ++ (c.s ++ d.s)) := by simp [joinB]
  rw [e] at h
  exact h
set_option maxRecDepth 100000 in
set_option maxHeartbeats 6400000 in
theorem ssign_any (s : Sg) (w : World) (hg : Rd w w.heap.size 1 s.S s.sig.length (bc s.sig)) (hf : in64' s.flag) (hs : in64' s.sec) (hn : in64' s.nan) (h1 : s.adr.size ≤ 10000000000) (h2 : s.sig.length ≤ 10000000000) :
    Calls Tryd.prog 32 #[.agg #[.int .i64 s.flag, .string s.adr, .int .i64 s.sec, .int .i64 s.nan, .slice s.S s.sig.length s.sc]] w (MadeQ w (signB s.flag s.adr.data.toList s.sec s.nan s.sig)) := by
  have HG := Lib.hid hg; have HN := Lib.hid (And.intro h1 h2)
  have K1 := Lib.hid (fun W => number_any 1 s.flag W (by decide) hf)
  have KT := Lib.hid (fun W => stime_any s.sec s.nan W hs hn)
  obtain ⟨f, kc⟩ := run_conv (P := Tryd.prog) 9 22 Tryd.underlying9 Tryd.underlying22 Tryd.underlying5 s.adr
  have hsx : Blk (w.alloc (.cells #[.int .i64 s.flag, .string s.adr, .int .i64 s.sec, .int .i64 s.nan, .slice s.S s.sig.length s.sc] 78)).drew w.heap.size 78 #[.int .i64 s.flag, .string s.adr, .int .i64 s.sec, .int .i64 s.nan, .slice s.S s.sig.length s.sc] := (Blk.new w _ _).drew
  have HSX := Lib.hid hsx
  have HB0 := Lib.hid (((Below.refl w.heap.size w).alloc (Nat.le_refl _) (.cells #[.int .i64 s.flag, .string s.adr, .int .i64 s.sec, .int .i64 s.nan, .slice s.S s.sig.length s.sc] 78)).drew)
  clear hg hf hs hn h1 h2 hsx
  go_enter Tryd.func32, Tryd.ntmps32
  go_wp2_with fail
  refine wp_region_L (fun w' => Blk w' w.heap.size 78 #[.int .i64 s.flag, .string s.adr, .int .i64 s.sec, .int .i64 s.nan, .slice s.S s.sig.length s.sc]) 16 (by kernel_rfl) ?_
  refine wpAnyL_take 0 (v := .pointer (some ⟨w.heap.size, 0, none⟩)) rfl (by kernel_rfl) (fun _ _ _ h => h) (yields_in rfl (fun w' hw' => by go_simp)) HSX.out ?_
  simp only [Act.put, List.setIfInBounds_toArray, List.set_cons_zero, List.set_cons_succ]
  refine wpAnyL_take 1 (v := .int .i64 s.flag) rfl (by kernel_rfl) (fun _ _ _ h => h) (yields_in rfl (fun w' hw' => by have c1 : w'.cell? ⟨w.heap.size, 0, none⟩ = some (.int .i64 s.flag) := hw'.cell 0; go_simp)) HSX.out ?_
  simp only [Act.put, List.setIfInBounds_toArray, List.set_cons_zero, List.set_cons_succ]
  refine wpAnyL_take 3 (v := .pointer (some ⟨w.heap.size, 1, none⟩)) rfl (by kernel_rfl) (fun _ _ _ h => h) (yields_in rfl (fun w' hw' => by go_simp)) HSX.out ?_
  simp only [Act.put, List.setIfInBounds_toArray, List.set_cons_zero, List.set_cons_succ]
  refine wpAnyL_take 4 (v := .string s.adr) rfl (by kernel_rfl) (fun _ _ _ h => h) (yields_in rfl (fun w' hw' => by have c1 : w'.cell? ⟨w.heap.size, 1, none⟩ = some (.string s.adr) := hw'.cell 1; go_simp)) HSX.out ?_
  simp only [Act.put, List.setIfInBounds_toArray, List.set_cons_zero, List.set_cons_succ]
  refine wpAnyL_take 7 (v := .pointer (some ⟨w.heap.size, 2, none⟩)) rfl (by kernel_rfl) (fun _ _ _ h => h) (yields_in rfl (fun w' hw' => by go_simp)) HSX.out ?_
  simp only [Act.put, List.setIfInBounds_toArray, List.set_cons_zero, List.set_cons_succ]
  refine wpAnyL_take 8 (v := .agg #[.int .i64 s.sec, .int .i64 s.nan]) rfl (by kernel_rfl) (fun _ _ _ h => h) (yields_in rfl (fun w' hw' => by have c1 : w'.cell? ⟨w.heap.size, 2, none⟩ = some (.int .i64 s.sec) := hw'.cell 2; have c2 : w'.cell? ⟨w.heap.size, 3, none⟩ = some (.int .i64 s.nan) := hw'.cell 3; go_simp)) HSX.out ?_
  simp only [Act.put, List.setIfInBounds_toArray, List.set_cons_zero, List.set_cons_succ]
  refine wpAnyL_take 11 (v := .pointer (some ⟨w.heap.size, 4, none⟩)) rfl (by kernel_rfl) (fun _ _ _ h => h) (yields_in rfl (fun w' hw' => by go_simp)) HSX.out ?_
  simp only [Act.put, List.setIfInBounds_toArray, List.set_cons_zero, List.set_cons_succ]
  refine wpAnyL_take 12 (v := .slice s.S s.sig.length s.sc) rfl (by kernel_rfl) (fun _ _ _ h => h) (yields_in rfl (fun w' hw' => by have c1 : w'.cell? ⟨w.heap.size, 4, none⟩ = some (.slice s.S s.sig.length s.sc) := hw'.cell 4; go_simp)) HSX.out ?_
  simp only [Act.put, List.setIfInBounds_toArray, List.set_cons_zero, List.set_cons_succ]
  generalize (w.alloc _).drew = W0 at *
  refine wpAnyL_two 2 5 rfl rfl (by kernel_rfl) rfl rfl ?_ ?_
  case refine_1 =>
    go_simp
    refine (K1.out _).mono ?_
    rintro e W1 ⟨A1, m1, c1, rfl, ho1, hb1⟩
    have HS1 := Lib.hid (HSX.out.belowS hb1); have HB1 := Lib.hid (HB0.out.trans (hb1.mono HB0.out.size)); have HO1 := Lib.hid (ho1.more HB0.out.size)
    clear ho1 hb1
    refine ⟨HS1.out, ?_⟩
    refine wpAnyL_one 5 rfl (by kernel_rfl) rfl ?_
    go_simp
    have hbc : Below W1.heap.size W1 (W1.alloc (bObj s.adr (f W1))).drew := ((Below.refl _ _).alloc (Nat.le_refl _) _).drew
    have hs2 := HS1.out.belowS hbc
    have hb2 := HB1.out.trans (hbc.mono HB1.out.size)
    have ho2 := HO1.out.below hbc (Nat.le_refl _)
    have hr2 : Rd (W1.alloc (bObj s.adr (f W1))).drew (W1.alloc (bObj s.adr (f W1))).drew.heap.size 1 (some ⟨W1.heap.size, 0, none⟩) s.adr.size (bc s.adr.data.toList) := (Rd.conv W1 s.adr (f W1) _ rfl).drew.more (by simp)
    generalize (W1.alloc (bObj s.adr (f W1))).drew = W2 at *
    generalize f W1 = cp at *
    generalize (some (⟨W1.heap.size, 0, none⟩ : Addr)) = K at *
    have HS2 := Lib.hid hs2; have HB2 := Lib.hid hb2; have HO2 := Lib.hid ho2; have HR2 := Lib.hid hr2
    clear hbc hs2 hb2 ho2 hr2 kc
    refine ⟨HS2.out, ?_⟩
    refine wpAnyL_one 6 rfl (by kernel_rfl) rfl ?_
    go_simp
    refine (some_any 2 _ s.adr.size cp s.adr.data.toList W2 (by decide) HR2.out (by have := HN.out.1; omega)).mono ?_
    rintro e W3 ⟨A3, m3, c3, rfl, ho3, hb3⟩
    have HS3 := Lib.hid (HS2.out.belowS hb3); have HB3 := Lib.hid (HB2.out.trans (hb3.mono HB2.out.size)); have HO13 := Lib.hid (HO2.out.below hb3 (Nat.le_refl _)); have HO33 := Lib.hid ho3
    clear ho3 hb3
    refine ⟨HS3.out, ?_⟩
    refine wpAnyL_one 9 rfl (by kernel_rfl) rfl ?_
    go_simp
    refine (KT.out _).mono ?_
    rintro e W4 ⟨A4, m4, c4, rfl, ho4, hb4⟩
    have HS4 := Lib.hid (HS3.out.belowS hb4); have HB4 := Lib.hid (HB3.out.trans (hb4.mono HB3.out.size)); have HO14 := Lib.hid (HO13.out.below hb4 (Nat.le_refl _)); have HO34 := Lib.hid (HO33.out.below hb4 (Nat.le_refl _)); have HO44 := Lib.hid ho4
    have HTL := Lib.hid (timeB_length s.sec s.nan)
    clear ho4 hb4
    refine ⟨HS4.out, ?_⟩
    refine wpAnyL_one 10 rfl (by kernel_rfl) rfl ?_
    go_simp
    refine (within_any 3 A4 m4 c4 (timeB s.sec s.nan) W4 (by decide) HO44.out.rd (by have := HO44.out.len; have := HTL.out; omega)).mono ?_
    rintro e W5 ⟨A5, m5, c5, rfl, ho5, hb5⟩
    have HS5 := Lib.hid (HS4.out.belowS hb5); have HB5 := Lib.hid (HB4.out.trans (hb5.mono HB4.out.size)); have HO15 := Lib.hid (HO14.out.below hb5 (Nat.le_refl _)); have HO35 := Lib.hid (HO34.out.below hb5 (Nat.le_refl _)); have HO55 := Lib.hid ho5
    clear ho5 hb5
    refine ⟨HS5.out, ?_⟩
    refine wpAnyL_one 13 rfl (by kernel_rfl) rfl ?_
    go_simp
    refine (some_any 4 s.S s.sig.length s.sc s.sig W5 (by decide) (HG.out.below HB5.out).sized (by have := HN.out.2; omega)).mono ?_
    rintro e W6 ⟨A6, m6, c6, rfl, ho6, hb6⟩
    have HS6 := Lib.hid (HS5.out.belowS hb6); have HB6 := Lib.hid (HB5.out.trans (hb6.mono HB5.out.size)); have HO16 := Lib.hid (HO15.out.below hb6 (Nat.le_refl _)); have HO36 := Lib.hid (HO35.out.below hb6 (Nat.le_refl _)); have HO56 := Lib.hid (HO55.out.below hb6 (Nat.le_refl _)); have HO66 := Lib.hid ho6
    clear ho6 hb6
    refine ⟨HS6.out, ?_⟩
    refine wpAnyL_one 14 rfl (by kernel_rfl) rfl ?_
    go_simp
    have hb67 : Below W6.heap.size W6 (W6.alloc (.cells #[.slice A1 m1 c1, .slice A3 m3 c3, .slice A5 m5 c5, .slice A6 m6 c6] 22)) := (Below.refl _ _).alloc (Nat.le_refl _) _
    have k7 := joined_four ⟨A1, m1, c1, numB 1 (u64 s.flag)⟩ ⟨A3, m3, c3, txtB 2 s.adr.data.toList⟩ ⟨A5, m5, c5, msgB 3 (timeB s.sec s.nan)⟩ ⟨A6, m6, c6, txtB 4 s.sig⟩ W6 _ 22 W6.heap.size rfl rfl HO16.out.rd HO36.out.rd HO56.out.rd HO66.out.rd (by
      have a := numB_length 1 _ (u64_lt s.flag)
      have ad : s.adr.data.toList.length = s.adr.size := rfl
      have b := txtB_length 2 s.adr.data.toList (by have := HN.out.1; omega)
      have d := msgB_length 3 (timeB s.sec s.nan) (by have := HTL.out; omega)
      have e := txtB_length 4 s.sig (by have := HN.out.2; omega)
      have := HTL.out; have := HN.out
      show (numB 1 (u64 s.flag)).length + (txtB 2 s.adr.data.toList).length + (msgB 3 (timeB s.sec s.nan)).length + (txtB 4 s.sig).length ≤ _
      omega)
    simp only [Bs.val] at k7
    have hs7 := HS6.out.belowS hb67
    have hB7 := HB6.out.trans (hb67.mono HB6.out.size)
    generalize hW7 : W6.alloc _ = W7 at *
    have HS7 := Lib.hid hs7; have HB7 := Lib.hid hB7; have K7 := Lib.hid k7
    clear hs7 hB7 hb67 k7 hW7
    refine ⟨HS7.out, ?_⟩
    refine wpAnyL_one 15 rfl (by kernel_rfl) rfl ?_
    go_simp
    refine K7.out.mono ?_
    rintro e W8 ⟨A8, m8, c8, rfl, ho8, hb8⟩
    have HS8 := Lib.hid (HS7.out.belowS hb8); have HB8 := Lib.hid (HB7.out.trans (hb8.mono HB7.out.size)); have HO8 := Lib.hid (ho8.more HB7.out.size)
    clear ho8 hb8
    refine ⟨HS8.out, ?_⟩
    refine wpAnyL_one 16 rfl (by kernel_rfl) rfl ?_
    go_simp
    refine wpAnyL_done (by kernel_rfl) ?_ _
    go_wp2_with fail
    go_ret
    refine ⟨A8, m8, c8, rfl, ?_, HB8.out⟩
    have h9 := HO8.out
    rw [← List.append_assoc, ← List.append_assoc] at h9
    exact h9
  case refine_2 =>
    go_simp
    have hbc : Below W0.heap.size W0 (W0.alloc (bObj s.adr (f W0))).drew := ((Below.refl _ _).alloc (Nat.le_refl _) _).drew
    have hs1 := HSX.out.belowS hbc
    have hb1 := HB0.out.trans (hbc.mono HB0.out.size)
    have hr1 : Rd (W0.alloc (bObj s.adr (f W0))).drew (W0.alloc (bObj s.adr (f W0))).drew.heap.size 1 (some ⟨W0.heap.size, 0, none⟩) s.adr.size (bc s.adr.data.toList) := (Rd.conv W0 s.adr (f W0) _ rfl).drew.more (by simp)
    generalize (W0.alloc (bObj s.adr (f W0))).drew = W1 at *
    generalize f W0 = cp at *
    generalize (some (⟨W0.heap.size, 0, none⟩ : Addr)) = K at *
    have HS1 := Lib.hid hs1; have HB1 := Lib.hid hb1; have HR1 := Lib.hid hr1
    clear hbc hs1 hb1 hr1 kc
    refine ⟨HS1.out, ?_⟩
    refine wpAnyL_one 2 rfl (by kernel_rfl) rfl ?_
    go_simp
    refine (K1.out _).mono ?_
    rintro e W2 ⟨A1, m1, c1, rfl, ho1, hb1⟩
    have HS2 := Lib.hid (HS1.out.belowS hb1); have HB2 := Lib.hid (HB1.out.trans (hb1.mono HB1.out.size)); have HO2 := Lib.hid (ho1.more HB1.out.size)
    have HR2 := Lib.hid (HR1.out.below hb1).sized
    clear ho1 hb1
    refine ⟨HS2.out, ?_⟩
    refine wpAnyL_one 6 rfl (by kernel_rfl) rfl ?_
    go_simp
    refine (some_any 2 _ s.adr.size cp s.adr.data.toList W2 (by decide) HR2.out (by have := HN.out.1; omega)).mono ?_
    rintro e W3 ⟨A3, m3, c3, rfl, ho3, hb3⟩
    have HS3 := Lib.hid (HS2.out.belowS hb3); have HB3 := Lib.hid (HB2.out.trans (hb3.mono HB2.out.size)); have HO13 := Lib.hid (HO2.out.below hb3 (Nat.le_refl _)); have HO33 := Lib.hid ho3
    clear ho3 hb3
    refine ⟨HS3.out, ?_⟩
    refine wpAnyL_one 9 rfl (by kernel_rfl) rfl ?_
    go_simp
    refine (KT.out _).mono ?_
    rintro e W4 ⟨A4, m4, c4, rfl, ho4, hb4⟩
    have HS4 := Lib.hid (HS3.out.belowS hb4); have HB4 := Lib.hid (HB3.out.trans (hb4.mono HB3.out.size)); have HO14 := Lib.hid (HO13.out.below hb4 (Nat.le_refl _)); have HO34 := Lib.hid (HO33.out.below hb4 (Nat.le_refl _)); have HO44 := Lib.hid ho4
    have HTL := Lib.hid (timeB_length s.sec s.nan)
    clear ho4 hb4
    refine ⟨HS4.out, ?_⟩
    refine wpAnyL_one 10 rfl (by kernel_rfl) rfl ?_
    go_simp
    refine (within_any 3 A4 m4 c4 (timeB s.sec s.nan) W4 (by decide) HO44.out.rd (by have := HO44.out.len; have := HTL.out; omega)).mono ?_
    rintro e W5 ⟨A5, m5, c5, rfl, ho5, hb5⟩
    have HS5 := Lib.hid (HS4.out.belowS hb5); have HB5 := Lib.hid (HB4.out.trans (hb5.mono HB4.out.size)); have HO15 := Lib.hid (HO14.out.below hb5 (Nat.le_refl _)); have HO35 := Lib.hid (HO34.out.below hb5 (Nat.le_refl _)); have HO55 := Lib.hid ho5
    clear ho5 hb5
    refine ⟨HS5.out, ?_⟩
    refine wpAnyL_one 13 rfl (by kernel_rfl) rfl ?_
    go_simp
    refine (some_any 4 s.S s.sig.length s.sc s.sig W5 (by decide) (HG.out.below HB5.out).sized (by have := HN.out.2; omega)).mono ?_
    rintro e W6 ⟨A6, m6, c6, rfl, ho6, hb6⟩
    have HS6 := Lib.hid (HS5.out.belowS hb6); have HB6 := Lib.hid (HB5.out.trans (hb6.mono HB5.out.size)); have HO16 := Lib.hid (HO15.out.below hb6 (Nat.le_refl _)); have HO36 := Lib.hid (HO35.out.below hb6 (Nat.le_refl _)); have HO56 := Lib.hid (HO55.out.below hb6 (Nat.le_refl _)); have HO66 := Lib.hid ho6
    clear ho6 hb6
    refine ⟨HS6.out, ?_⟩
    refine wpAnyL_one 14 rfl (by kernel_rfl) rfl ?_
    go_simp
    have hb67 : Below W6.heap.size W6 (W6.alloc (.cells #[.slice A1 m1 c1, .slice A3 m3 c3, .slice A5 m5 c5, .slice A6 m6 c6] 22)) := (Below.refl _ _).alloc (Nat.le_refl _) _
    have k7 := joined_four ⟨A1, m1, c1, numB 1 (u64 s.flag)⟩ ⟨A3, m3, c3, txtB 2 s.adr.data.toList⟩ ⟨A5, m5, c5, msgB 3 (timeB s.sec s.nan)⟩ ⟨A6, m6, c6, txtB 4 s.sig⟩ W6 _ 22 W6.heap.size rfl rfl HO16.out.rd HO36.out.rd HO56.out.rd HO66.out.rd (by
      have a := numB_length 1 _ (u64_lt s.flag)
      have ad : s.adr.data.toList.length = s.adr.size := rfl
      have b := txtB_length 2 s.adr.data.toList (by have := HN.out.1; omega)
      have d := msgB_length 3 (timeB s.sec s.nan) (by have := HTL.out; omega)
      have e := txtB_length 4 s.sig (by have := HN.out.2; omega)
      have := HTL.out; have := HN.out
      show (numB 1 (u64 s.flag)).length + (txtB 2 s.adr.data.toList).length + (msgB 3 (timeB s.sec s.nan)).length + (txtB 4 s.sig).length ≤ _
      omega)
    simp only [Bs.val] at k7
    have hs7 := HS6.out.belowS hb67
    have hB7 := HB6.out.trans (hb67.mono HB6.out.size)
    generalize hW7 : W6.alloc _ = W7 at *
    have HS7 := Lib.hid hs7; have HB7 := Lib.hid hB7; have K7 := Lib.hid k7
    clear hs7 hB7 hb67 k7 hW7
    refine ⟨HS7.out, ?_⟩
    refine wpAnyL_one 15 rfl (by kernel_rfl) rfl ?_
    go_simp
    refine K7.out.mono ?_
    rintro e W8 ⟨A8, m8, c8, rfl, ho8, hb8⟩
    have HS8 := Lib.hid (HS7.out.belowS hb8); have HB8 := Lib.hid (HB7.out.trans (hb8.mono HB7.out.size)); have HO8 := Lib.hid (ho8.more HB7.out.size)
    clear ho8 hb8
    refine ⟨HS8.out, ?_⟩
    refine wpAnyL_one 16 rfl (by kernel_rfl) rfl ?_
    go_simp
    refine wpAnyL_done (by kernel_rfl) ?_ _
    go_wp2_with fail
    go_ret
    refine ⟨A8, m8, c8, rfl, ?_, HB8.out⟩
    have h9 := HO8.out
    rw [← List.append_assoc, ← List.append_assoc] at h9
    exact h9
end Go.Proofs.YtikikddkhikfkaaDoor

set_option linter.all false
namespace Go.Proofs.YtikikddkhikfkaaDoor
open Go.RowKit

/-- what a validator says as a message -/
def sgB (s : Sg) : List UInt8 := signB s.flag s.adr.data.toList s.sec s.nan s.sig
/-- what the messages of a commit's signatures ask -/
structure Sg.can (s : Sg) : Prop where
  flag : s.flag = 1 ∨ s.flag = 2 ∨ s.flag = 3
  sec : -4611686018427387904 ≤ s.sec ∧ s.sec ≤ 4611686018427387904
  nan : 0 ≤ s.nan ∧ s.nan ≤ 2147483647
  adr : s.adr.size ≤ 10000000000
  sig : s.sig.length ≤ 10000000000
theorem sgB_length {s : Sg} (h : s.can) : (sgB s).length ≤ 20000000100 := by
  have h1 := signB_length s.flag s.adr.data.toList s.sec s.nan s.sig (by have := h.adr; rw [show s.adr.data.toList.length = s.adr.size from rfl]; omega) h.sig
  have := h.adr; have := h.sig
  rw [show s.adr.data.toList.length = s.adr.size from rfl] at h1
  unfold sgB; omega
set_option maxRecDepth 100000 in
set_option maxHeartbeats 3200000 in
theorem chash_any (g : Nat) (hgt rnd : Int) (b : Bk) (A : Option Addr) (n c : Nat) (l : List Sg) (l' : List Cs) (w : World) (hb : Blk w g 135 (comCells hgt rnd b A n c)) (hr : Rd w w.heap.size 5 A n (l'.flatMap Cs.cells)) (hrel : CsRel w l l')
    (hsig : ∀ s ∈ l, Rd w w.heap.size 1 s.S s.sig.length (bc s.sig)) (hn : n ≤ 1000) (hl : ∀ s ∈ l, s.can) (hK : Kw w) (hgK : some g ≠ some 3) :
    Calls Tryd.prog 31 #[ptrTo g] w fun e w' => ∃ A' c', e = .returned (.slice A' 32 c') ∧ Fresh32 w w' A' c' (rootL (l.map sgB)) ∧ w.grownBy w' (some g) := by
  obtain ⟨i0, hi0, hz0, hz1, hz2⟩ := info_parts infoBs
  have HI := Lib.hid hi0; have HZ0 := Lib.hid hz0; have HZ1 := Lib.hid hz1; have HZ2 := Lib.hid hz2
  clear hi0 hz0 hz1 hz2
  have hln : n = l'.length := by have := hr.1; rw [flat_length Cs.cells 5 Cs.cells_length] at this; omega
  unfold comCells at hb
  have h5 : w.cell? ⟨g, 5, none⟩ = some (.slice A n c) := hb.cell 5
  have h6 : w.cell? ⟨g, 6, none⟩ = some (.slice none 0 0) := hb.cell 6
  have hgl := hb.lt
  have HLN := Lib.hid hln; have HBB := Lib.hid hb; have HR := Lib.hid hr; have HREL := Lib.hid hrel; have HSG := Lib.hid hsig; have HL := Lib.hid hl; have HKW := Lib.hid hK; have HGK := Lib.hid hgK
  have qT : ∀ (w : World) (a : Option Addr) (n c n' c' : Nat), (binOp .eql 79 (.slice a n c) (.slice none n' c')).run Tryd.prog w = .ok (.bool a.isNone) w := fun w a n c n' c' => Lib.run_eql_slice_nil w _ _ a n c n' c' Tryd.underlying79
  clear hb hr hrel hsig hl hK hgK hln
  unfold ptrTo
  go_enter Tryd.func31, Tryd.ntmps31
  go_wp2_with (refine wpList_make_full _ rfl (.tmp 17) (.tmp 17) 61 rfl w.heap.size 22 i0 _ 1 Tryd.underlying61 HI.out HZ0.out HZ1.out .i64 .i64 n n n rfl rfl rfl rfl ?b2 ?b3 (Nat.le_refl _) ?_; (case b2 => rw [HZ2.out]; omega); (case b3 => simp only [maxLen]; omega); intro w1 hown hg1; have HO1 := Lib.hid hown; have HB1 := Lib.hid ((Below.refl w.heap.size w).grown hg1 (Nat.le_refl _) (by simp)); have h51 : w1.cell? ⟨g, 5, none⟩ = some (.slice A n c) := (HB1.out.cell (p := ⟨g, 5, none⟩) hgl).trans h5; clear hown hg1)
  generalize (madeCells (Value.slice none 0 0).cells (n * 1)).toList = old at *
  have hold : old.length = n := by have := HO1.out.1; simpa using this
  have HOLD := Lib.hid hold; clear hold h5 h51 h6
  go_loopw [24] (fun i wr => ∃ (k : Nat) (ls : List Sb), k ≤ n ∧ i = .int .i64 k ∧ Hid (ls.length = k ∧ ls.map Sb.s = (l.take k).map sgB) ∧ Hid (wr.ownsRow w.heap.size 22 1 (.slice (some ⟨w.heap.size, 0, none⟩) n n) n (overS (ls.map Sb.cell) old)) ∧ Hid (∀ x ∈ ls, SbIn w.heap.size wr x) ∧ Hid (Below w.heap.size w wr)) (fun i _ => n - (intOf i).toNat)
  case atStart => exact ⟨0, [], Nat.zero_le _, rfl, Lib.hid ⟨rfl, by simp⟩, (by have h1 := HO1.out; show World.ownsRow _ _ _ _ _ _ _; simpa [overS] using h1), (fun x hx => by cases hx), HB1.out⟩
  case round =>
    obtain ⟨k, ls, hk, rfl, HLS, HO, HIN, HB⟩ := hrel
    by_cases hlt : k < n
    · have hkl : k < l.length := by have h1 := HREL.out.1; have h2 := HLN.out; omega
      have hs : l[k]? = some l[k] := List.getElem?_eq_getElem hkl
      have HCAN := Lib.hid (HL.out l[k] (List.getElem_mem hkl))
      have HSK := Lib.hid (HSG.out l[k] (List.getElem_mem hkl))
      have HTK := Lib.hid (show (l.take (k + 1)).map sgB = (l.take k).map sgB ++ [sgB l[k]] by
        rw [List.take_succ_eq_append_getElem hkl, List.map_append]; rfl)
      generalize l[k] = x at *
      obtain ⟨x', hx', hof⟩ := HREL.out.2 k x hs
      obtain ⟨ad, hA, hadb, c0, c1, c2, c3, c4⟩ := (HR.out.below HB.out).five Cs.cells_length hx'
      subst hA
      have c0' : wr.cell? (ad.add (k * 5)) = some (.int .u8 x'.flag) := c0
      have c1' : wr.cell? ⟨(ad.add (k * 5)).block, (ad.add (k * 5)).off + 1, none⟩ = some (.slice x'.VA x'.vn x'.vc) := c1
      have c2' : wr.cell? ⟨(ad.add (k * 5)).block, (ad.add (k * 5)).off + 2, none⟩ = some (.int .i64 (x'.sec + 62135596800)) := c2
      have c3' : wr.cell? ⟨(ad.add (k * 5)).block, (ad.add (k * 5)).off + 3, none⟩ = some (.int .i32 x'.nan) := c3
      have c4' : wr.cell? ⟨(ad.add (k * 5)).block, (ad.add (k * 5)).off + 4, none⟩ = some (.slice x'.GA x'.gn x'.gc) := c4
      have hbl : w.heap.size < wr.heap.size := by
        have h1 := HO.out
        rcases h1.2 with ⟨h2, _⟩ | ⟨g2, cap, cur, h2, _, h3, _⟩
        · cases h2
        · injection h2 with h2; injection h2 with h2; injection h2 with h2; subst h2; exact lt_of_heap h3
      have hbox : Below wr.heap.size wr (wr.alloc (.cells #[.int .u8 x'.flag, .slice x'.VA x'.vn x'.vc, .int .i64 (x'.sec + 62135596800), .int .i32 x'.nan, .slice x'.GA x'.gn x'.gc] 138)) := (Below.refl _ _).alloc (Nat.le_refl _) _
      have hwb := HB.out.trans (hbox.mono HB.out.size)
      have kc := fun (W : World) (hW : Below w.heap.size w W) => csMarshal_any x' x.adr.data.toList x.sig W (by rw [hof.vn]; exact ((byt_rd hof.byt).below hW).sized) (by rw [hof.GA, hof.gn]; exact (HSK.out.below hW).sized) (by rw [hof.flag]; have := HCAN.out.flag; omega)
        (by rw [hof.sec]; exact HCAN.out.sec) (by rw [hof.nan]; exact HCAN.out.nan) (by rw [hof.vn]; exact HCAN.out.adr) (by rw [hof.gn]; exact HCAN.out.sig)
      have HSB := Lib.hid (show signB x'.flag x.adr.data.toList x'.sec x'.nan x.sig = sgB x by rw [hof.flag, hof.sec, hof.nan]; rfl)
      have KC := Lib.hid kc; have HBL := Lib.hid hbl; have HBX := Lib.hid hbox; have HWB := Lib.hid hwb
      clear c0 c1 c2 c3 c4 hs hx' hof hadb kc hbl hbox hwb
      go_wp2_with fail
      refine (KC.out _ HWB.out).mono ?_
      rintro e w5 ⟨A5, m5, c5, rfl, ho5, hb5⟩
      rw [HSB.out] at ho5
      have hb05 := HBX.out.trans (hb5.mono HBX.out.size)
      have ho5' := ho5.more HBX.out.size
      obtain ⟨hin5, hcell⟩ := SbIn.of_own ho5' HBL.out
      obtain ⟨x5, hx5⟩ : ∃ x5 : Sb, x5 = ⟨A5, c5, sgB x⟩ := ⟨_, rfl⟩
      rw [← hx5] at hin5 hcell
      have hxs : x5.s = sgB x := by rw [hx5]
      have hst := own_below HO.out hb05 (Nat.le_refl _)
      have hf := own_free hst
      have hlk : (ls.map Sb.cell).length = k := by rw [List.length_map]; exact HLS.out.1
      have hko : k < old.length := by rw [HOLD.out]; exact hlt
      have hgk : (overS (ls.map Sb.cell) old)[k]? = some old[k] := by
        unfold overS
        rw [List.getElem?_append_right (by omega), hlk, Nat.sub_self, List.getElem?_drop]
        simp
      have hck := hst.cells (g := w.heap.size) rfl k _ hgk
      rw [add_flat, Nat.zero_add] at hck
      have hsto := (hst.stored k (.slice A5 m5 c5)).1
      have hov : (overS (ls.map Sb.cell) old).set k (.slice A5 m5 c5) = overS ((ls ++ [x5]).map Sb.cell) old := by
        have := overS_set (ls.map Sb.cell) old (.slice A5 m5 c5) (by omega)
        rw [hlk] at this
        rw [this, List.map_append, List.map_cons, hcell]; rfl
      rw [hov] at hsto
      generalize old[k] = ov at *
      have HSTO := Lib.hid hsto; have HIN5 := Lib.hid hin5; have HB5 := Lib.hid hb05; have HXS := Lib.hid hxs
      clear hst hsto hov hgk hlk hko hin5 hb5 hb05 ho5 ho5' hcell hx5 hxs
      go_wp2_with fail
      go_roundw
      case rel =>
        refine ⟨k + 1, ls ++ [x5], by omega, by go_num, Lib.hid ⟨?_, ?_⟩, HSTO.out, Lib.hid ?_, (HB.out.trans (HB5.out.mono HB.out.size)).setCell (p := ⟨w.heap.size, k, none⟩) (Nat.le_refl _) _⟩
        · rw [List.length_append, HLS.out.1]; rfl
        · rw [List.map_append, HLS.out.2, HTK.out, List.map_cons, List.map_nil, HXS.out]
        · intro x hx
          rw [List.mem_append, List.mem_singleton] at hx
          rcases hx with hx | hx
          · exact ((HIN.out x hx).below HB5.out).put (Nat.le_refl _) _ _
          · rw [hx]; exact HIN5.out.put (Nat.le_refl _) _ _
      case measure => simp [intOf]; omega
    · have hkn : k = n := by omega
      subst hkn
      have hfull : overS (ls.map Sb.cell) old = ls.map Sb.cell := overS_full _ _ (by rw [List.length_map, HLS.out.1, HOLD.out]; exact Nat.le_refl _)
      have hrow := HO.out
      rw [hfull] at hrow
      have hrd := rdB_of (Rd.of_own hrow) HIN.out (Nat.le_refl _)
      have hmap : ls.map Sb.s = l.map sgB := by rw [HLS.out.2, List.take_of_length_le (by have h1 := HREL.out.1; have h2 := HLN.out; omega)]
      have hbig : ∀ x ∈ ls, x.s.length ≤ 35184372088832 := fun x hx => by
        have h1 : x.s ∈ ls.map Sb.s := List.mem_map_of_mem hx
        rw [hmap] at h1
        obtain ⟨t, ht, e⟩ := List.mem_map.1 h1
        have h2 := sgB_length (HL.out t ht)
        rw [← e]; omega
      have HRD := Lib.hid hrd; have HMAP := Lib.hid hmap; have HBIG := Lib.hid hbig
      have hbg := HBB.out.belowS HB.out
      have HBG := Lib.hid hbg
      clear hfull hrow hrd hmap hbig hbg
      go_wp2_with fail
      refine (treeRoot_any (some ⟨w.heap.size, 0, none⟩) k k ls wr HRD.out (Nat.le_refl _) (by omega) HBIG.out (HKW.out.belowS HB.out)).mono ?_
      rintro e w6 ⟨A6, c6, rfl, hf6, hb6⟩
      have hbg6 := HBG.out.belowS hb6
      have d6 : w6.cell? ⟨g, 6, none⟩ = some (.slice none 0 0) := hbg6.cell 6
      have f6 := hbg6.free 6
      have HF6 := Lib.hid (hf6.more HB.out.size); have HB6 := Lib.hid (HB.out.trans (hb6.mono HB.out.size))
      clear hf6 hb6 hbg6
      go_wp2_with fail
      go_ret
      refine ⟨A6, c6, rfl, HMAP.out ▸ HF6.out.then (grown_put w6 g 6 _) hgl, (grownAny_of HB6.out _).trans (grown_put w6 g 6 _)⟩
end Go.Proofs.YtikikddkhikfkaaDoor

set_option linter.all false
namespace Go.Proofs.YtikikddkhikfkaaDoor
open Go.RowKit

set_option maxRecDepth 100000 in
set_option maxHeartbeats 1600000 in
theorem icsum_any (hgt rnd : Int) (b : Bk) (A : Option Addr) (n c : Nat) (l : List Sg) (w : World) (hr : Rd w w.heap.size 5 A n (signsOf l)) (hn : n ≤ 1000) (hp : 0 ≤ b.parts ∧ b.parts ≤ 4294967295) (hrd : -2147483648 ≤ rnd ∧ rnd ≤ 2147483647)
    (hsig : ∀ s ∈ l, Rd w w.heap.size 1 s.S s.sig.length (bc s.sig)) (hl : ∀ s ∈ l, s.can) (hK : Kw w) :
    Calls Tryd.prog 9 #[.agg #[.int .i64 hgt, .int .i64 rnd, .slice b.S b.sum.length b.sc, .int .i64 b.parts, .slice b.R b.root.length b.rc, .slice A n c]] w fun e w' => ∃ A' c', e = .returned (.slice A' 32 c') ∧ Rd w' w'.heap.size 1 A' 32 (bc (rootL (l.map sgB))) ∧ Below w.heap.size w w' := by
  have hb0 : Below w.heap.size w (w.alloc (.cells #[.int .i64 hgt, .int .i64 rnd, .slice b.S b.sum.length b.sc, .int .i64 b.parts, .slice b.R b.root.length b.rc, .slice A n c] 27)) := (Below.refl _ _).alloc (Nat.le_refl _) _
  have HC := Lib.hid (icommit_new hgt rnd b A n c l _ (hr.below hb0).sized hn hp hrd (fun s hs => ⟨(hl s hs).flag, (hl s hs).sec, (hl s hs).nan⟩))
  have HB0 := Lib.hid hb0; have HSG := Lib.hid hsig; have HL := Lib.hid hl; have HKW := Lib.hid hK
  clear hr hp hrd hsig hl hK hb0
  go_enter Tryd.func9, Tryd.ntmps9
  go_wp2_with fail
  refine HC.out.mono ?_
  rintro e w1 ⟨g, A1, c1, l', rfl, hb1, hr1, hrel, hbl1, hge⟩
  have hB1 := HB0.out.trans (hbl1.mono HB0.out.size)
  have hgb := hb1.lt
  have hge' : w.heap.size ≤ g := Nat.le_trans HB0.out.size hge
  have K := Lib.hid (chash_any g hgt rnd b A1 n c1 l l' w1 hb1 hr1 hrel (fun s hs => ((HSG.out s hs).below hB1).sized) hn HL.out (HKW.out.belowS hB1) (by intro e; injection e with e; have := HKW.out.2; omega))
  have HB1 := Lib.hid hB1; have HGE := Lib.hid hge'
  unfold ptrTo at K ⊢
  clear hb1 hr1 hrel hbl1 hge hge' hB1 hgb
  go_wp2_with fail
  refine K.out.mono ?_
  rintro e w2 ⟨A2, c2, rfl, hf2, hg2⟩
  have HF2 := Lib.hid hf2; have HB2 := Lib.hid (HB1.out.grown hg2 HB1.out.size (by intro k e; cases e; exact HGE.out))
  clear hf2 hg2
  go_wp2_with fail
  go_ret
  exact ⟨A2, c2, rfl, HF2.out.1, HB2.out⟩
set_option maxRecDepth 100000 in
set_option maxHeartbeats 3200000 in
theorem scsum_any (hgt rnd : Int) (b : Bk) (A : Option Addr) (n c : Nat) (l : List Sg) (w : World) (hr : Rd w w.heap.size 5 A n (signsOf l)) (hn : n ≤ 1000)
    (hsig : ∀ s ∈ l, Rd w w.heap.size 1 s.S s.sig.length (bc s.sig)) (hl : ∀ s ∈ l, s.can) :
    Calls Tryd.prog 10 #[.agg #[.int .i64 hgt, .int .i64 rnd, .slice b.S b.sum.length b.sc, .int .i64 b.parts, .slice b.R b.root.length b.rc, .slice A n c]] w (MadeQ w (rootL (l.map sgB))) := by
  obtain ⟨i0, hi0, hz0, hz1, hz2⟩ := info_parts infoBs
  have HI := Lib.hid hi0; have HZ0 := Lib.hid hz0; have HZ1 := Lib.hid hz1; have HZ2 := Lib.hid hz2
  clear hi0 hz0 hz1 hz2
  have hln : n = l.length := by have := hr.1; rw [signsOf_length] at this; omega
  have HLN := Lib.hid hln; have HR := Lib.hid hr; have HSG := Lib.hid hsig; have HL := Lib.hid hl
  have HBX := Lib.hid ((Below.refl w.heap.size w).alloc (Nat.le_refl _) (.cells #[.int .i64 hgt, .int .i64 rnd, .slice b.S b.sum.length b.sc, .int .i64 b.parts, .slice b.R b.root.length b.rc, .slice A n c] 38))
  clear hr hsig hl hln
  go_enter Tryd.func10, Tryd.ntmps10
  go_wp2_with fail
  go_loopw [3, 9] (fun v i wr => ∃ (k : Nat) (A1 : Option Addr) (c1 : Nat) (ls : List Sb), k ≤ n ∧ i = .int .i64 k ∧ v = .slice A1 k c1 ∧ Hid (ls.map Sb.s = (l.take k).map sgB) ∧ Hid (wr.ownsRow w.heap.size 22 1 (.slice A1 k c1) k (ls.map Sb.cell)) ∧ Hid (∀ x ∈ ls, SbO w.heap.size wr x) ∧ Hid (Below w.heap.size w wr)) (fun _ i _ => n - (intOf i).toNat)
  case atStart => exact ⟨0, none, 0, [], Nat.zero_le _, rfl, rfl, Lib.hid rfl, Lib.hid (World.ownsRow_nil _ _ _ _), (fun x hx => by cases hx), HBX.out⟩
  case round =>
    obtain ⟨k, A1, c1, ls, hk, rfl, rfl, HLS, HO, HIN, HB⟩ := hrel
    by_cases hlt : k < n
    · have hkl : k < l.length := by have h2 := HLN.out; omega
      have hs : l[k]? = some l[k] := List.getElem?_eq_getElem hkl
      have HCAN := Lib.hid (HL.out l[k] (List.getElem_mem hkl))
      have HSK := Lib.hid (HSG.out l[k] (List.getElem_mem hkl))
      have HTK := Lib.hid (show (l.take (k + 1)).map sgB = (l.take k).map sgB ++ [sgB l[k]] by
        rw [List.take_succ_eq_append_getElem hkl, List.map_append]; rfl)
      generalize l[k] = x at *
      obtain ⟨ad, hA, hadb, c0, c1', c2, c3, c4⟩ := (HR.out.below HB.out).five Sg.cells_length hs
      subst hA
      have d0 : wr.cell? (ad.add (k * 5)) = some (.int .i64 x.flag) := c0
      have d1 : wr.cell? ⟨(ad.add (k * 5)).block, (ad.add (k * 5)).off + 1, none⟩ = some (.string x.adr) := c1'
      have d2 : wr.cell? ⟨(ad.add (k * 5)).block, (ad.add (k * 5)).off + 2, none⟩ = some (.int .i64 x.sec) := c2
      have d3 : wr.cell? ⟨(ad.add (k * 5)).block, (ad.add (k * 5)).off + 3, none⟩ = some (.int .i64 x.nan) := c3
      have d4 : wr.cell? ⟨(ad.add (k * 5)).block, (ad.add (k * 5)).off + 4, none⟩ = some (.slice x.S x.sig.length x.sc) := c4
      have HBO := Lib.hid ((Below.refl wr.heap.size wr).alloc (Nat.le_refl _) (.cells #[.int .i64 x.flag, .string x.adr, .int .i64 x.sec, .int .i64 x.nan, .slice x.S x.sig.length x.sc] 78))
      have KC := Lib.hid (fun (W : World) (hW : Below w.heap.size w W) => ssign_any x W ((HSK.out.below hW).sized) (by have := HCAN.out.flag; unfold in64'; omega) (by have := HCAN.out.sec; unfold in64'; omega) (by have := HCAN.out.nan; unfold in64'; omega) HCAN.out.adr HCAN.out.sig)
      clear c0 c1' c2 c3 c4 hs hadb
      go_wp2_with fail
      refine (KC.out _ (HB.out.trans (HBO.out.mono HB.out.size))).mono ?_
      rintro e W6 ⟨A6, m6, c6, rfl, ho6, hb6⟩
      have hb06 := HBO.out.trans (hb6.mono HBO.out.size)
      have ho6' : Own8 W6 wr.heap.size A6 m6 c6 (sgB x) := ho6.more HBO.out.size
      have HB6 := Lib.hid hb06; have HO6 := Lib.hid ho6'
      have hb67 : Below W6.heap.size W6 (W6.alloc (.cells #[.slice A6 m6 c6] 22)) := (Below.refl _ _).alloc (Nat.le_refl _) _
      have hr7 := Rd.new W6 #[.slice A6 m6 c6] 22 1 1 W6.heap.size rfl rfl
      have hB7 := HB6.out.trans (hb67.mono HB6.out.size)
      have hro7 := own_below HO.out hB7 (Nat.le_refl _)
      have ho7 := HO6.out.below hb67 (Nat.le_refl _)
      have hwz : w.heap.size ≤ (W6.alloc (.cells #[.slice A6 m6 c6] 22)).heap.size := Nat.le_trans HB.out.size hB7.size
      have HB7 := Lib.hid hB7; have HO7 := Lib.hid ho7; have HR7 := Lib.hid hr7; have HRO7 := Lib.hid hro7; have HWZ := Lib.hid hwz
      clear ho6 hb6 hb06 ho6' hb67 hr7 hB7 hro7 ho7 hwz d0 d1 d2 d3 d4
      go_wp2_with (at_builtin; refine wpList_app _ rfl (.tmp 13) (.tmp 16) 61 rfl w.heap.size 22 i0 _ 1 24 Tryd.underlying61 HI.out HZ0.out HZ1.out HZ2.out rfl (by decide) (.slice A1 k c1) k (ls.map Sb.cell) rfl HRO7.out (W6.heap.size + 1) (some ⟨W6.heap.size, 0, none⟩) 1 1 [.slice A6 m6 c6] rfl HR7.out ?q0 ?q1 ?q2 HWZ.out ?_; (case q0 => intro u hu; rw [List.mem_singleton] at hu; rw [hu]; rfl); (case q1 => simp only [maxLen]; omega); (case q2 => omega); intro A8 c8 W8 hown8 hg8 _)
      obtain ⟨hin9, hcell⟩ := SbO.of_own (lo := w.heap.size) HO7.out HB.out.size
      obtain ⟨x9, hx9⟩ : ∃ x9 : Sb, x9 = ⟨A6, c6, sgB x⟩ := ⟨_, rfl⟩
      rw [← hx9] at hin9 hcell
      have hrow := hown8
      rw [← hcell] at hrow
      have hwb : Below w.heap.size w W8 := (HB.out.trans (HB7.out.mono HB.out.size)).grown hg8 HWZ.out (own_base HRO7.out)
      refine ⟨⟨k + 1, A8, c8, ls ++ [x9], by omega, rfl, rfl, Lib.hid ?_, Lib.hid (by rw [List.map_append]; exact hrow), Lib.hid ?_, Lib.hid hwb⟩, by simp [intOf]; omega⟩
      · rw [List.map_append, HLS.out, HTK.out, hx9]; rfl
      · intro y hy
        rw [List.mem_append, List.mem_singleton] at hy
        rcases hy with hy | hy
        · exact ((HIN.out y hy).below HB7.out).grown hg8 HRO7.out
        · rw [hy]; exact hin9.grown hg8 HRO7.out
    · have hkn : k = n := by omega
      subst hkn
      have hrd := rdB_own HO.out HIN.out
      have hmap : ls.map Sb.s = l.map sgB := by rw [HLS.out, List.take_of_length_le (by have := HLN.out; omega)]
      have hbig : ∀ x ∈ ls, x.s.length ≤ 30000000000 := fun x hx => by
        have h1 : x.s ∈ ls.map Sb.s := List.mem_map_of_mem hx
        rw [hmap] at h1
        obtain ⟨t, ht, e⟩ := List.mem_map.1 h1
        have h2 := sgB_length (HL.out t ht)
        rw [← e]; omega
      have hcap : k ≤ c1 := by
        rcases HO.out.2 with ⟨h1, h2⟩ | ⟨g, cap, cur, hv, _, _, h2, _⟩
        · omega
        · injection hv with _ _ h3; omega
      have HRD := Lib.hid hrd; have HMAP := Lib.hid hmap; have HBIG := Lib.hid hbig; have HCAP := Lib.hid hcap
      clear hrd hmap hbig hcap
      go_wp2_with fail
      refine (sroot_any k ls HRD.out.len (by omega) HBIG.out A1 c1 wr HRD.out HCAP.out).mono ?_
      rintro e w6 ⟨A6, m6, c6, rfl, ho6, hb6⟩
      have HO6 := Lib.hid (ho6.more HB.out.size); have HB6 := Lib.hid (HB.out.trans (hb6.mono HB.out.size))
      clear ho6 hb6
      go_wp2_with fail
      go_ret
      refine ⟨A6, m6, c6, rfl, ?_, HB6.out⟩
      rw [← HMAP.out]; exact HO6.out
end Go.Proofs.YtikikddkhikfkaaDoor
