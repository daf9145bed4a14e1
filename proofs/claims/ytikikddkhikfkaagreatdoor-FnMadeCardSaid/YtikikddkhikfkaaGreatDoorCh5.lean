/-
  The shelf's contracts of the library's sort laid over this seat's program, in plain words (the text that the shelf's command hands to Lean; for the seat ZD alone). By the session, with the kit's command. sort.Sort over the package's validators, by address and by power: the methods walked, the library's contract taken. By the session. sort.Sort over a slice of the package's validators: the row permuted, in order. By the session. The shelf's contracts of the library's sort laid over this seat's program, in plain words (the text that the shelf's command hands to Lean; for the seat ZD alone). By the session, with the kit's command. sort.Slice over a slice of the package's validators by a number of each: the row permuted, the numbers rising. By the session.
-/
import Derived.Test.YtikikddkhikfkaaGreatDoorCh2
import Derived.Test.YtikikddkhikfkaaGreatDoorRows
import Derived.Deep.QuietTactic
import Derived.BigQuiet
import Derived.RegionTactic
import Derived.Ground.GgtProg
import Derived.Test.YtikikddkhikfkaaGreatDoorCh4
import Derived.Ground.GgsProg
set_option linter.all false
namespace Go.Proofs.YtikikddkhikfkaaGreatDoor
open Go.RowKit Go.Shelf

def Tryz.sl11_ren : Go.Shelf.Ren := ⟨fun | 11 => 109 | 17 => 139 | 18 => 140 | 31 => 157 | 32 => 158 | 33 => 159 | 34 => 160 | 35 => 161 | 36 => 162 | 37 => 163 | 38 => 164 | 39 => 165 | 40 => 166 | 43 => 191 | 44 => 192 | 45 => 193 | 46 => 194 | 47 => 195 | 50 => 210 | n => n, fun | 45 => 221 | 3 => 3 | 4 => 4 | 47 => 83 | 0 => 0 | 56 => 93 | 58 => 108 | 61 => 250 | 60 => 249 | 65 => 200 | 5 => 5 | 9 => 9 | 67 => 277 | 71 => 281 | 73 => 294 | 74 => 172 | 43 => 167 | 26 => 217 | 38 => 240 | n => n, fun | n => n⟩
theorem Tryz.sl11 : Go.Proofs.LaysGt.n11 Tryz.prog Tryz.sl11_ren := {
  mixed := by kernel_rfl
  f11 := Tryz.func109.trans (congrArg some (by kernel_rfl))
  f17 := Tryz.func139.trans (congrArg some (by kernel_rfl))
  f18 := Tryz.func140.trans (congrArg some (by kernel_rfl))
  f31 := Tryz.func157.trans (congrArg some (by kernel_rfl))
  f32 := Tryz.func158.trans (congrArg some (by kernel_rfl))
  f33 := Tryz.func159.trans (congrArg some (by kernel_rfl))
  f34 := Tryz.func160.trans (congrArg some (by kernel_rfl))
  f35 := Tryz.func161.trans (congrArg some (by kernel_rfl))
  f36 := Tryz.func162.trans (congrArg some (by kernel_rfl))
  f37 := Tryz.func163.trans (congrArg some (by kernel_rfl))
  f38 := Tryz.func164.trans (congrArg some (by kernel_rfl))
  f39 := Tryz.func165.trans (congrArg some (by kernel_rfl))
  f40 := Tryz.func166.trans (congrArg some (by kernel_rfl))
  f43 := Tryz.func191.trans (congrArg some (by kernel_rfl))
  f44 := Tryz.func192.trans (congrArg some (by kernel_rfl))
  f45 := Tryz.func193.trans (congrArg some (by kernel_rfl))
  f46 := Tryz.func194.trans (congrArg some (by kernel_rfl))
  f47 := Tryz.func195.trans (congrArg some (by kernel_rfl))
  f50 := Tryz.func210.trans (congrArg some (by kernel_rfl))
  t0 := Tryz.underlying0
  a0 := Tryz.isAgg0
  z0 := Tryz.sizeOf0
  v0 := Tryz.zeroValue0
  i0 := by kernel_rfl
  t3 := Tryz.underlying3
  a3 := Tryz.isAgg3
  z3 := Tryz.sizeOf3
  v3 := Tryz.zeroValue3
  i3 := by kernel_rfl
  t4 := Tryz.underlying4
  a4 := Tryz.isAgg4
  z4 := Tryz.sizeOf4
  v4 := Tryz.zeroValue4
  i4 := by kernel_rfl
  t5 := Tryz.underlying5
  a5 := Tryz.isAgg5
  z5 := Tryz.sizeOf5
  v5 := Tryz.zeroValue5
  i5 := by kernel_rfl
  t9 := Tryz.underlying9
  a9 := Tryz.isAgg9
  z9 := Tryz.sizeOf9
  v9 := Tryz.zeroValue9
  i9 := by kernel_rfl
  t26 := Tryz.underlying217
  a26 := Tryz.isAgg217
  z26 := Tryz.sizeOf217
  v26 := Tryz.zeroValue217
  i26 := by kernel_rfl
  t38 := Tryz.underlying240
  a38 := Tryz.isAgg240
  z38 := Tryz.sizeOf240
  v38 := Tryz.zeroValue240
  i38 := by kernel_rfl
  t43 := Tryz.underlying167
  a43 := Tryz.isAgg167
  z43 := Tryz.sizeOf167
  v43 := Tryz.zeroValue167
  i43 := by kernel_rfl
  t45 := Tryz.underlying221
  a45 := Tryz.isAgg221
  z45 := Tryz.sizeOf221
  v45 := Tryz.zeroValue221
  i45 := by kernel_rfl
  t47 := Tryz.underlying83
  a47 := Tryz.isAgg83
  z47 := Tryz.sizeOf83
  v47 := Tryz.zeroValue83
  i47 := by kernel_rfl
  t56 := Tryz.underlying93
  a56 := Tryz.isAgg93
  z56 := Tryz.sizeOf93
  v56 := Tryz.zeroValue93
  i56 := by kernel_rfl
  t58 := Tryz.underlying108
  a58 := Tryz.isAgg108
  z58 := Tryz.sizeOf108
  v58 := Tryz.zeroValue108
  i58 := by kernel_rfl
  t60 := Tryz.underlying249
  a60 := Tryz.isAgg249
  z60 := Tryz.sizeOf249
  v60 := Tryz.zeroValue249
  i60 := by kernel_rfl
  t61 := Tryz.underlying250
  a61 := Tryz.isAgg250
  z61 := Tryz.sizeOf250
  v61 := Tryz.zeroValue250
  i61 := by kernel_rfl
  t65 := Tryz.underlying200
  a65 := Tryz.isAgg200
  z65 := Tryz.sizeOf200
  v65 := Tryz.zeroValue200
  i65 := by kernel_rfl
  t67 := Tryz.underlying277
  a67 := Tryz.isAgg277
  z67 := Tryz.sizeOf277
  v67 := Tryz.zeroValue277
  i67 := by kernel_rfl
  t71 := Tryz.underlying281
  a71 := Tryz.isAgg281
  z71 := Tryz.sizeOf281
  v71 := Tryz.zeroValue281
  i71 := by kernel_rfl
  t73 := Tryz.underlying294
  a73 := Tryz.isAgg294
  z73 := Tryz.sizeOf294
  v73 := Tryz.zeroValue294
  i73 := by kernel_rfl
  t74 := Tryz.underlying172
  a74 := Tryz.isAgg172
  z74 := Tryz.sizeOf172
  v74 := Tryz.zeroValue172
  i74 := by kernel_rfl }
end Go.Proofs.YtikikddkhikfkaaGreatDoor

set_option linter.all false
namespace Go.Proofs.YtikikddkhikfkaaGreatDoor
open Go.RowKit Go.Shelf


theorem lenA_reached (p : Option Addr) (n c : Nat) : Reaches Tryz.prog 210 (.slice p n c) "Len" 251 := ⟨fun _ => by kernel_rfl, enters_of Tryz.func251 (by kernel_rfl) rfl⟩
theorem lessA_reached (p : Option Addr) (n c : Nat) : Reaches Tryz.prog 210 (.slice p n c) "Less" 252 := ⟨fun _ => by kernel_rfl, enters_of Tryz.func252 (by kernel_rfl) rfl⟩
theorem swapA_reached (p : Option Addr) (n c : Nat) : Reaches Tryz.prog 210 (.slice p n c) "Swap" 253 := ⟨fun _ => by kernel_rfl, enters_of Tryz.func253 (by kernel_rfl) rfl⟩
theorem lenP_reached (p : Option Addr) (n c : Nat) : Reaches Tryz.prog 184 (.slice p n c) "Len" 247 := ⟨fun _ => by kernel_rfl, enters_of Tryz.func247 (by kernel_rfl) rfl⟩
theorem lessP_reached (p : Option Addr) (n c : Nat) : Reaches Tryz.prog 184 (.slice p n c) "Less" 248 := ⟨fun _ => by kernel_rfl, enters_of Tryz.func248 (by kernel_rfl) rfl⟩
theorem swapP_reached (p : Option Addr) (n c : Nat) : Reaches Tryz.prog 184 (.slice p n c) "Swap" 249 := ⟨fun _ => by kernel_rfl, enters_of Tryz.func249 (by kernel_rfl) rfl⟩
theorem lenA_any (p : Option Addr) (n c : Nat) (W : World) : LenM Tryz.prog 251 (.slice p n c) n W := by
  unfold LenM
  go_enter Tryz.func251, Tryz.ntmps251
  go_wp2
  go_ret
  exact ⟨rfl, 0, rfl⟩
theorem lenP_any (p : Option Addr) (n c : Nat) (W : World) : LenM Tryz.prog 247 (.slice p n c) n W := by
  unfold LenM
  go_enter Tryz.func247, Tryz.ntmps247
  go_wp2
  go_ret
  exact ⟨rfl, 0, rfl⟩
theorem cmp_m1 (a b : List UInt8) : (Lib.compareBytes a b == -1) = Op.bytesLess a b := by
  rw [bytesLess_eq]
  have : ∀ a b : List UInt8, Lib.compareBytes a b = -1 ∨ Lib.compareBytes a b = 0 ∨ Lib.compareBytes a b = 1 := by
    intro a
    induction a with
    | nil => intro b; cases b <;> simp [Lib.compareBytes]
    | cons x r ih =>
      intro b
      cases b with
      | nil => simp [Lib.compareBytes]
      | cons y s =>
        simp only [Lib.compareBytes]
        split
        · exact .inl rfl
        · split
          · exact .inr (.inr rfl)
          · exact ih s
  rcases this a b with h | h | h <;> rw [h] <;> rfl
set_option maxHeartbeats 2000000 in
theorem lessA_any (g n c : Nat) (W : World) (i j b b' : Nat) (t t' : Tv) (hi : i < n) (hj : j < n) (hn : n ≤ 1000000) (ci : W.cell? ⟨g, i, none⟩ = some (.pointer (some ⟨b, 0, none⟩))) (cj : W.cell? ⟨g, j, none⟩ = some (.pointer (some ⟨b', 0, none⟩)))
    (hb : W.cell? ⟨b, 0, none⟩ = some (.slice t.A t.x.adr.size t.c)) (hb' : W.cell? ⟨b', 0, none⟩ = some (.slice t'.A t'.x.adr.size t'.c)) (ht : Byt W t.A t.x.adr) (ht' : Byt W t'.A t'.x.adr) :
    Calls Tryz.prog 252 #[.slice (some ⟨g, 0, none⟩) n c, .int .i64 i, .int .i64 j] W fun e w' => e = .returned (.bool (adrB t.x t'.x)) ∧ ∃ q, w' = W.drewN q := by
  have KC := fun q => bcompare_any t.x.adr t'.x.adr t.A t'.A t.c t'.c (W.drewN q) ht ht'
  have hc := cmp_m1 t.x.adr.data.toList t'.x.adr.data.toList
  go_enter Tryz.func252, Tryz.ntmps252
  go_wp2
  go_quiet ((exact quietL (KC _)))
  go_wp2
  go_ret
  exact ⟨ret_bool (by unfold adrB; rw [toList_data, toList_data]), _, rfl⟩
set_option maxHeartbeats 2000000 in
theorem lessP_any (g n c : Nat) (W : World) (i j b b' : Nat) (t t' : Tv) (hi : i < n) (hj : j < n) (hn : n ≤ 1000000) (ci : W.cell? ⟨g, i, none⟩ = some (.pointer (some ⟨b, 0, none⟩))) (cj : W.cell? ⟨g, j, none⟩ = some (.pointer (some ⟨b', 0, none⟩)))
    (hb : W.cell? ⟨b, 0, none⟩ = some (.slice t.A t.x.adr.size t.c)) (hb' : W.cell? ⟨b', 0, none⟩ = some (.slice t'.A t'.x.adr.size t'.c)) (hp : W.cell? ⟨b, 2, none⟩ = some (.int .i64 t.x.pow)) (hp' : W.cell? ⟨b', 2, none⟩ = some (.int .i64 t'.x.pow)) (ht : Byt W t.A t.x.adr) (ht' : Byt W t'.A t'.x.adr) :
    Calls Tryz.prog 248 #[.slice (some ⟨g, 0, none⟩) n c, .int .i64 i, .int .i64 j] W fun e w' => e = .returned (.bool (beforeB t.x t'.x)) ∧ ∃ q, w' = W.drewN q := by
  have hc := cmp_m1 t.x.adr.data.toList t'.x.adr.data.toList
  by_cases he : t.x.pow = t'.x.pow
  · have he' : (t.x.pow == t'.x.pow) = true := by simpa using he
    have KC := fun q => bcompare_any t.x.adr t'.x.adr t.A t'.A t.c t'.c (W.drewN q) ht ht'
    have HE := Lib.hid he; clear he
    go_enter Tryz.func248, Tryz.ntmps248
    go_wp2
    go_quiet (fail)
    go_wp2
    go_quiet ((exact quietA (KC _)))
    go_wp2
    go_ret
    exact ⟨ret_bool (by unfold beforeB; rw [HE.out, toList_data, toList_data]; simp), _, by rw [World.drewN_drewN]⟩
  · have he' : (t.x.pow == t'.x.pow) = false := by simpa using he
    have HE := Lib.hid he; clear he
    go_enter Tryz.func248, Tryz.ntmps248
    go_wp2
    go_quiet (fail)
    go_wp2
    go_quiet (fail)
    go_wp2
    go_ret
    exact ⟨ret_bool (by unfold beforeB; simp [he']), _, by rw [World.drewN_drewN]⟩
set_option maxHeartbeats 2000000 in
theorem swapA_any (g n c : Nat) (W : World) (i j b b' : Nat) (hi : i < n) (hj : j < n) (hn : n ≤ 1000000) (ci : W.cell? ⟨g, i, none⟩ = some (.pointer (some ⟨b, 0, none⟩))) (cj : W.cell? ⟨g, j, none⟩ = some (.pointer (some ⟨b', 0, none⟩))) (fi : W.frozen? ⟨g, i, none⟩ = false) (fj : W.frozen? ⟨g, j, none⟩ = false) :
    Calls Tryz.prog 253 #[.slice (some ⟨g, 0, none⟩) n c, .int .i64 i, .int .i64 j] W fun e w' => e = .returned (.tuple #[]) ∧ ∃ q, w' = ((W.setCell ⟨g, i, none⟩ (.pointer (some ⟨b', 0, none⟩))).setCell ⟨g, j, none⟩ (.pointer (some ⟨b, 0, none⟩))).drewN q := by
  obtain ⟨v', hy'⟩ := cell?_setCell_some (w := W) (p := ⟨g, i, none⟩) (x := .pointer (some ⟨b', 0, none⟩)) (q := ⟨g, j, none⟩) cj
  go_enter Tryz.func253, Tryz.ntmps253
  go_wp2
  go_region
  all_goals (try go_wp2)
  all_goals go_end0
  all_goals exact ⟨rfl, 1, rfl⟩
set_option maxHeartbeats 2000000 in
theorem swapP_any (g n c : Nat) (W : World) (i j b b' : Nat) (hi : i < n) (hj : j < n) (hn : n ≤ 1000000) (ci : W.cell? ⟨g, i, none⟩ = some (.pointer (some ⟨b, 0, none⟩))) (cj : W.cell? ⟨g, j, none⟩ = some (.pointer (some ⟨b', 0, none⟩))) (fi : W.frozen? ⟨g, i, none⟩ = false) (fj : W.frozen? ⟨g, j, none⟩ = false) :
    Calls Tryz.prog 249 #[.slice (some ⟨g, 0, none⟩) n c, .int .i64 i, .int .i64 j] W fun e w' => e = .returned (.tuple #[]) ∧ ∃ q, w' = ((W.setCell ⟨g, i, none⟩ (.pointer (some ⟨b', 0, none⟩))).setCell ⟨g, j, none⟩ (.pointer (some ⟨b, 0, none⟩))).drewN q := by
  obtain ⟨v', hy'⟩ := cell?_setCell_some (w := W) (p := ⟨g, i, none⟩) (x := .pointer (some ⟨b', 0, none⟩)) (q := ⟨g, j, none⟩) cj
  go_enter Tryz.func249, Tryz.ntmps249
  go_wp2
  go_region
  all_goals (try go_wp2)
  all_goals go_end0
  all_goals exact ⟨rfl, 1, rfl⟩
end Go.Proofs.YtikikddkhikfkaaGreatDoor

set_option linter.all false
namespace Go.Proofs.YtikikddkhikfkaaGreatDoor
open Go.RowKit Go.Shelf

theorem grown_sortWorld {α : Type} [Inhabited α] (enc : α → Value) (w : World) (g m : Nat) (dk : Array α) (os : Array Obj) : w.grownBy (sortWorld enc w g 0 m dk os) (some g) := by
  refine ⟨rfl, rfl, rfl, ?_, fun i hi hne => ?_⟩
  · unfold sortWorld; rw [Go.Sort.size_grow, Go.Sort.size_putRow]; simp
  · unfold sortWorld
    rw [Go.Sort.heap_grow_old _ _ (by simpa using hi)]
    unfold Go.Sort.putRow Go.Sort.mapBlock
    simp only [Go.Sort.heap_ahead]
    rw [Array.getElem?_modify, if_neg (fun e => hne (by rw [e]))]
theorem keepB_grown {w w' : World} {lo g c n : Nat} {xs : List Value} (hg : w.grownBy w' (some g)) (h : w.ownsRow lo 126 1 (.slice (some ⟨g, 0, none⟩) n c) n xs) : KeepB w w' :=
  KeepB.of_grown hg (fun g' cs m e hh => by
    cases e
    rcases h.2 with ⟨e, _⟩ | ⟨g', cap, cur, hv, _, hh', _⟩
    · cases e
    · injection hv with hv; injection hv with hv; injection hv with hv
      subst hv
      rw [hh] at hh'
      injection hh' with hh'; injection hh' with _ ht
      exact absurd ht (by decide))
theorem zip_maps {α β γ : Type} (f : α → β) (g : α → γ) : ∀ l : List α, (l.map f).zip (l.map g) = l.map fun x => (f x, g x)
  | [] => rfl
  | x :: r => by simp [zip_maps f g r]
set_option maxHeartbeats 2000000 in
theorem sortV_any (T gn gl gs : Nat) (rN : ∀ p n c, Reaches Tryz.prog T (.slice p n c) "Len" gn) (rL : ∀ p n c, Reaches Tryz.prog T (.slice p n c) "Less" gl) (rS : ∀ p n c, Reaches Tryz.prog T (.slice p n c) "Swap" gs)
    (hlen : ∀ p n c W, LenM Tryz.prog gn (.slice p n c) n W) (lt : Sd → Sd → Bool) (hO : ∀ {α : Type} (f : α → Sd), Go.Sort.SWO (fun x y : α => lt (f x) (f y)))
    (hless : ∀ (g n c : Nat) (W : World) (i j b b' : Nat) (t t' : Tv), i < n → j < n → n ≤ 1000000 → W.cell? ⟨g, i, none⟩ = some (.pointer (some ⟨b, 0, none⟩)) → W.cell? ⟨g, j, none⟩ = some (.pointer (some ⟨b', 0, none⟩)) →
      Blk W b 136 t.val → Blk W b' 136 t'.val → t.ok W → t'.ok W → Calls Tryz.prog gl #[.slice (some ⟨g, 0, none⟩) n c, .int .i64 i, .int .i64 j] W fun e w' => e = .returned (.bool (lt t.x t'.x)) ∧ ∃ q, w' = W.drewN q)
    (hswap : ∀ (g n c : Nat) (W : World) (i j b b' : Nat), i < n → j < n → n ≤ 1000000 → W.cell? ⟨g, i, none⟩ = some (.pointer (some ⟨b, 0, none⟩)) → W.cell? ⟨g, j, none⟩ = some (.pointer (some ⟨b', 0, none⟩)) → W.frozen? ⟨g, i, none⟩ = false → W.frozen? ⟨g, j, none⟩ = false →
      Calls Tryz.prog gs #[.slice (some ⟨g, 0, none⟩) n c, .int .i64 i, .int .i64 j] W fun e w' => e = .returned (.tuple #[]) ∧ ∃ q, w' = ((W.setCell ⟨g, i, none⟩ (.pointer (some ⟨b', 0, none⟩))).setCell ⟨g, j, none⟩ (.pointer (some ⟨b, 0, none⟩))).drewN q)
    {lo : Nat} {A : Option Addr} {c : Nat} {bs : List Nat} {ts : List Tv} (w : World) (h : VRow w lo A c bs ts) (hn : bs.length ≤ 1000000) :
    Calls Tryz.prog 109 #[.iface T (.slice A bs.length c)] w fun e w' => e = .returned (.tuple #[]) ∧ ∃ bs' ts', (bs'.zip ts').Perm (bs.zip ts) ∧ bs'.length = bs.length ∧ ts'.length = bs.length ∧ (ts'.map Tv.x).Pairwise (fun x y => lt y x = false) ∧ VRow w' lo A c bs' ts' ∧ w.grownBy w' (Value.slice A bs.length c).ownBlock := by
  by_cases h1 : bs.length ≤ 1
  · have hS := Any.sort_Sort_tiny Tryz.sl11 T (.slice A bs.length c) gn (rN _ _ _) bs.length h1 w (hlen _ _ _ _)
    change Calls Tryz.prog 109 _ _ _ at hS
    refine hS.mono ?_
    rintro e w' ⟨rfl, q, rfl⟩
    refine ⟨rfl, bs, ts, List.Perm.refl _, rfl, h.len, ?_, h.keep (KeepV.drewN lo w q), ⟨rfl, rfl, rfl, Nat.le_refl _, fun _ _ _ => rfl⟩⟩
    have hl := h.len
    match ts, hl with
    | [], _ => simp
    | [t], _ => simp
    | _ :: _ :: _, hl => simp only [List.length_cons] at hl; omega
  · obtain ⟨g, cap, hv, _, hglt⟩ := h.row.form (by omega)
    have hA : A = some ⟨g, 0, none⟩ := by injection hv
    subst hA
    clear hv
    obtain ⟨L, hLe⟩ : ∃ L, L = bs.zip ts := ⟨_, rfl⟩
    have hLl : L.length = bs.length := by rw [hLe, List.length_zip, h.len, Nat.min_self]
    have hmem : ∀ p ∈ L, Blk w p.1 136 p.2.val ∧ p.2.ok w := fun p hp => by
      obtain ⟨j, hj⟩ := List.getElem?_of_mem hp
      rw [hLe, List.getElem?_zip_eq_some] at hj
      exact (h.vals j _ _ hj.1 hj.2).2
    haveI : Inhabited {p : Nat × Tv // p ∈ L} := ⟨⟨L[0]'(by omega), List.getElem_mem _⟩⟩
    obtain ⟨d, hd⟩ : ∃ d : Array {p : Nat × Tv // p ∈ L}, d = L.attach.toArray := ⟨_, rfl⟩
    have hds : d.size = bs.length := by rw [hd]; simp [hLl]
    obtain ⟨enc, henc⟩ : ∃ enc : {p : Nat × Tv // p ∈ L} → Value, enc = fun p => ptrTo p.1.1 := ⟨_, rfl⟩
    have hE : ∀ p, enc p = .pointer (some ⟨p.1.1, 0, none⟩) := fun p => by rw [henc]; rfl
    have hH : Go.Sort.Holds enc w g 0 d := by
      intro j hj
      rw [Nat.zero_add]
      have hjl : j < L.length := by omega
      have hdj : d[j]! = ⟨L[j], List.getElem_mem hjl⟩ := by
        rw [getElem!_pos d j hj]
        subst hd
        simp
      have hLj : L[j]? = some (L[j]) := List.getElem?_eq_getElem hjl
      have hLj' : (bs.zip ts)[j]? = some L[j] := by rw [← hLe]; exact hLj
      rw [List.getElem?_zip_eq_some] at hLj'
      refine ⟨?_, h.row.frozenAt j⟩
      rw [hdj, hE, h.row.cellAt j (by omega), List.getElem?_map, hLj'.1]; rfl
    have hS := Any.sort_Sort_sorted Tryz.sl11 T (.slice (some ⟨g, 0, none⟩) d.size c) gn gl gs (rN _ _ _) (rL _ _ _) (rS _ _ _) enc (fun x y => lt x.1.2.x y.1.2.x) (hO _) g 0 d (by omega) (by omega) w (hlen _ _ _ _)
      (by
        intro m os dk hs i j hi hj
        have hW := grown_sortWorld enc w g m dk os
        have hHW := holds_sortWorld enc w g 0 m d dk os hglt hH hs
        have ci := (hHW i (by omega)).1
        have cj := (hHW j (by omega)).1
        rw [Nat.zero_add, hE] at ci cj
        have hne : ∀ p ∈ L, some p.1 ≠ some g := fun p hp e => own_ne_blk h.row (hmem p hp).1 (by decide) (by rw [e]; rfl)
        have kb := keepB_grown hW h.row
        have f1 := hmem _ dk[i]!.2; have f2 := hmem _ dk[j]!.2
        exact hless g d.size c _ i j _ _ dk[i]!.1.2 dk[j]!.1.2 (by omega) (by omega) (by omega) ci cj (f1.1.grown hW (hne _ dk[i]!.2)) (f2.1.grown hW (hne _ dk[j]!.2)) (f1.2.keep kb) (f2.2.keep kb))
      (by
        intro W dk hHW hs i j hi hj
        have ci := hHW i (by omega); have cj := hHW j (by omega)
        rw [Nat.zero_add, hE] at ci cj
        have := hswap g d.size c W i j _ _ (by omega) (by omega) (by omega) ci.1 cj.1 ci.2 cj.2
        rw [Nat.zero_add, Nat.zero_add, hE, hE]
        exact this)
      hH hglt
    change Calls Tryz.prog 109 _ _ _ at hS
    rw [hds] at hS
    refine hS.mono ?_
    rintro e w' ⟨rfl, d', q, os, hP, hSo, rfl⟩
    have hs' : d'.size = bs.length := hP.1.trans hds
    have hperm : d'.toList.Perm L.attach := by
      have := hP.2.2
      rw [Array.extract_eq_self_of_le (by omega), Array.extract_eq_self_of_le (by omega), hd] at this
      simpa using this
    have hw : Go.Sort.putRow enc (Go.Sort.ahead w q) g 0 d' = (w.drewN q).setCells g 0 ((d'.toList.map fun p => p.1.1).map ptrTo) := by
      have := Go.Lib.putRow_eq_setCells enc w g 0 d d'.toList q hH (by rw [Array.length_toList]; omega)
      rw [Array.toArray_toList] at this
      rw [this, List.map_map, henc]; rfl
    have hpz : ((d'.toList.map fun p => p.1.1).zip (d'.toList.map fun p => p.1.2)).Perm (bs.zip ts) := by
      rw [zip_maps, ← hLe]
      have := hperm.map Subtype.val
      rw [List.attach_map_subtype_val] at this
      exact this
    have hvr := h.sorted (d'.toList.map fun p => p.1.1) (d'.toList.map fun p => p.1.2) hpz (by simp; omega) (by simp; omega) q os
    rw [hw]
    refine ⟨rfl, _, _, hpz, by simp; omega, by simp; omega, ?_, hvr.1, hvr.2⟩
    rw [List.map_map, List.pairwise_map, List.pairwise_iff_getElem]
    intro i j hi hj hij
    rw [Array.length_toList] at hi hj
    have := hSo i j (Nat.zero_le _) hij (by omega)
    rw [getElem!_pos d' i hi, getElem!_pos d' j hj] at this
    simpa using this
/-- by address -/
theorem sortA_any {lo : Nat} {A : Option Addr} {c : Nat} {bs : List Nat} {ts : List Tv} (w : World) (h : VRow w lo A c bs ts) (hn : bs.length ≤ 1000000) :
    Calls Tryz.prog 109 #[.iface 210 (.slice A bs.length c)] w fun e w' => e = .returned (.tuple #[]) ∧ ∃ bs' ts', (bs'.zip ts').Perm (bs.zip ts) ∧ bs'.length = bs.length ∧ ts'.length = bs.length ∧ (ts'.map Tv.x).Pairwise (fun x y => adrB y x = false) ∧ VRow w' lo A c bs' ts' ∧ w.grownBy w' (Value.slice A bs.length c).ownBlock :=
  sortV_any _ _ _ _ lenA_reached lessA_reached swapA_reached lenA_any adrB (fun f => swo_adr f) (fun g n c W i j b b' t t' hi hj hn ci cj hb hb' ht ht' => lessA_any g n c W i j b b' t t' hi hj hn ci cj (hb.cell 0) (hb'.cell 0) ht.1 ht'.1)
    (fun g n c W i j b b' hi hj hn ci cj fi fj => swapA_any g n c W i j b b' hi hj hn ci cj fi fj) w h hn
/-- by power -/
theorem sortP_any {lo : Nat} {A : Option Addr} {c : Nat} {bs : List Nat} {ts : List Tv} (w : World) (h : VRow w lo A c bs ts) (hn : bs.length ≤ 1000000) :
    Calls Tryz.prog 109 #[.iface 184 (.slice A bs.length c)] w fun e w' => e = .returned (.tuple #[]) ∧ ∃ bs' ts', (bs'.zip ts').Perm (bs.zip ts) ∧ bs'.length = bs.length ∧ ts'.length = bs.length ∧ (ts'.map Tv.x).Pairwise (fun x y => beforeB y x = false) ∧ VRow w' lo A c bs' ts' ∧ w.grownBy w' (Value.slice A bs.length c).ownBlock :=
  sortV_any _ _ _ _ lenP_reached lessP_reached swapP_reached lenP_any beforeB (fun f => swo_before f) (fun g n c W i j b b' t t' hi hj hn ci cj hb hb' ht ht' => lessP_any g n c W i j b b' t t' hi hj hn ci cj (hb.cell 0) (hb'.cell 0) (hb.cell 2) (hb'.cell 2) ht.1 ht'.1)
    (fun g n c W i j b b' hi hj hn ci cj fi fj => swapP_any g n c W i j b b' hi hj hn ci cj fi fj) w h hn
end Go.Proofs.YtikikddkhikfkaaGreatDoor

set_option linter.all false
namespace Go.Proofs.YtikikddkhikfkaaGreatDoor
open Go.RowKit Go.Shelf

def Tryz.slc6_ren : Go.Shelf.Ren := ⟨fun | 6 => 133 | 10 => 150 | 11 => 151 | 12 => 152 | 13 => 139 | 14 => 153 | 24 => 157 | 25 => 158 | 26 => 183 | 27 => 184 | 28 => 185 | 29 => 186 | 30 => 187 | 31 => 188 | 32 => 189 | 33 => 190 | 34 => 207 | 35 => 192 | 36 => 193 | 37 => 208 | 38 => 209 | 39 => 216 | n => n, fun | 20 => 20 | 26 => 217 | 35 => 238 | 0 => 0 | 37 => 240 | 3 => 3 | 41 => 83 | 44 => 244 | 49 => 93 | 51 => 108 | 4 => 4 | 54 => 250 | 53 => 249 | 58 => 200 | 5 => 5 | 9 => 9 | 60 => 277 | 64 => 281 | 66 => 294 | 67 => 172 | 17 => 17 | 32 => 235 | 33 => 236 | 82 => 317 | 12 => 12 | 75 => 310 | 76 => 311 | 77 => 312 | 78 => 313 | 79 => 314 | 80 => 315 | n => n, fun | n => n⟩
theorem Tryz.slc6 : Go.Proofs.LaysGg.n6 Tryz.prog Tryz.slc6_ren := {
  mixed := by kernel_rfl
  f6 := Tryz.func133.trans (congrArg some (by kernel_rfl))
  f10 := Tryz.func150.trans (congrArg some (by kernel_rfl))
  f11 := Tryz.func151.trans (congrArg some (by kernel_rfl))
  f12 := Tryz.func152.trans (congrArg some (by kernel_rfl))
  f13 := Tryz.func139.trans (congrArg some (by kernel_rfl))
  f14 := Tryz.func153.trans (congrArg some (by kernel_rfl))
  f24 := Tryz.func157.trans (congrArg some (by kernel_rfl))
  f25 := Tryz.func158.trans (congrArg some (by kernel_rfl))
  f26 := Tryz.func183.trans (congrArg some (by kernel_rfl))
  f27 := Tryz.func184.trans (congrArg some (by kernel_rfl))
  f28 := Tryz.func185.trans (congrArg some (by kernel_rfl))
  f29 := Tryz.func186.trans (congrArg some (by kernel_rfl))
  f30 := Tryz.func187.trans (congrArg some (by kernel_rfl))
  f31 := Tryz.func188.trans (congrArg some (by kernel_rfl))
  f32 := Tryz.func189.trans (congrArg some (by kernel_rfl))
  f33 := Tryz.func190.trans (congrArg some (by kernel_rfl))
  f34 := Tryz.func207.trans (congrArg some (by kernel_rfl))
  f35 := Tryz.func192.trans (congrArg some (by kernel_rfl))
  f36 := Tryz.func193.trans (congrArg some (by kernel_rfl))
  f37 := Tryz.func208.trans (congrArg some (by kernel_rfl))
  f38 := Tryz.func209.trans (congrArg some (by kernel_rfl))
  f39 := Tryz.func216.trans (congrArg some (by kernel_rfl))
  t0 := Tryz.underlying0
  a0 := Tryz.isAgg0
  z0 := Tryz.sizeOf0
  v0 := Tryz.zeroValue0
  i0 := by kernel_rfl
  t3 := Tryz.underlying3
  a3 := Tryz.isAgg3
  z3 := Tryz.sizeOf3
  v3 := Tryz.zeroValue3
  i3 := by kernel_rfl
  t4 := Tryz.underlying4
  a4 := Tryz.isAgg4
  z4 := Tryz.sizeOf4
  v4 := Tryz.zeroValue4
  i4 := by kernel_rfl
  t5 := Tryz.underlying5
  a5 := Tryz.isAgg5
  z5 := Tryz.sizeOf5
  v5 := Tryz.zeroValue5
  i5 := by kernel_rfl
  t9 := Tryz.underlying9
  a9 := Tryz.isAgg9
  z9 := Tryz.sizeOf9
  v9 := Tryz.zeroValue9
  i9 := by kernel_rfl
  t12 := Tryz.underlying12
  a12 := Tryz.isAgg12
  z12 := Tryz.sizeOf12
  v12 := Tryz.zeroValue12
  i12 := by kernel_rfl
  t17 := Tryz.underlying17
  a17 := Tryz.isAgg17
  z17 := Tryz.sizeOf17
  v17 := Tryz.zeroValue17
  i17 := by kernel_rfl
  t20 := Tryz.underlying20
  a20 := Tryz.isAgg20
  z20 := Tryz.sizeOf20
  v20 := Tryz.zeroValue20
  i20 := by kernel_rfl
  t26 := Tryz.underlying217
  a26 := Tryz.isAgg217
  z26 := Tryz.sizeOf217
  v26 := Tryz.zeroValue217
  i26 := by kernel_rfl
  t32 := Tryz.underlying235
  a32 := Tryz.isAgg235
  z32 := Tryz.sizeOf235
  v32 := Tryz.zeroValue235
  i32 := by kernel_rfl
  t33 := Tryz.underlying236
  a33 := Tryz.isAgg236
  z33 := Tryz.sizeOf236
  v33 := Tryz.zeroValue236
  i33 := by kernel_rfl
  t35 := Tryz.underlying238
  a35 := Tryz.isAgg238
  z35 := Tryz.sizeOf238
  v35 := Tryz.zeroValue238
  i35 := by kernel_rfl
  t37 := Tryz.underlying240
  a37 := Tryz.isAgg240
  z37 := Tryz.sizeOf240
  v37 := Tryz.zeroValue240
  i37 := by kernel_rfl
  t41 := Tryz.underlying83
  a41 := Tryz.isAgg83
  z41 := Tryz.sizeOf83
  v41 := Tryz.zeroValue83
  i41 := by kernel_rfl
  t44 := Tryz.underlying244
  a44 := Tryz.isAgg244
  z44 := Tryz.sizeOf244
  v44 := Tryz.zeroValue244
  i44 := by kernel_rfl
  t49 := Tryz.underlying93
  a49 := Tryz.isAgg93
  z49 := Tryz.sizeOf93
  v49 := Tryz.zeroValue93
  i49 := by kernel_rfl
  t51 := Tryz.underlying108
  a51 := Tryz.isAgg108
  z51 := Tryz.sizeOf108
  v51 := Tryz.zeroValue108
  i51 := by kernel_rfl
  t53 := Tryz.underlying249
  a53 := Tryz.isAgg249
  z53 := Tryz.sizeOf249
  v53 := Tryz.zeroValue249
  i53 := by kernel_rfl
  t54 := Tryz.underlying250
  a54 := Tryz.isAgg250
  z54 := Tryz.sizeOf250
  v54 := Tryz.zeroValue250
  i54 := by kernel_rfl
  t58 := Tryz.underlying200
  a58 := Tryz.isAgg200
  z58 := Tryz.sizeOf200
  v58 := Tryz.zeroValue200
  i58 := by kernel_rfl
  t60 := Tryz.underlying277
  a60 := Tryz.isAgg277
  z60 := Tryz.sizeOf277
  v60 := Tryz.zeroValue277
  i60 := by kernel_rfl
  t64 := Tryz.underlying281
  a64 := Tryz.isAgg281
  z64 := Tryz.sizeOf281
  v64 := Tryz.zeroValue281
  i64 := by kernel_rfl
  t66 := Tryz.underlying294
  a66 := Tryz.isAgg294
  z66 := Tryz.sizeOf294
  v66 := Tryz.zeroValue294
  i66 := by kernel_rfl
  t67 := Tryz.underlying172
  a67 := Tryz.isAgg172
  z67 := Tryz.sizeOf172
  v67 := Tryz.zeroValue172
  i67 := by kernel_rfl
  t75 := Tryz.underlying310
  a75 := Tryz.isAgg310
  z75 := Tryz.sizeOf310
  v75 := Tryz.zeroValue310
  i75 := by kernel_rfl
  t76 := Tryz.underlying311
  a76 := Tryz.isAgg311
  z76 := Tryz.sizeOf311
  v76 := Tryz.zeroValue311
  i76 := by kernel_rfl
  t77 := Tryz.underlying312
  a77 := Tryz.isAgg312
  z77 := Tryz.sizeOf312
  v77 := Tryz.zeroValue312
  i77 := by kernel_rfl
  t78 := Tryz.underlying313
  a78 := Tryz.isAgg313
  z78 := Tryz.sizeOf313
  v78 := Tryz.zeroValue313
  i78 := by kernel_rfl
  t79 := Tryz.underlying314
  a79 := Tryz.isAgg314
  z79 := Tryz.sizeOf314
  v79 := Tryz.zeroValue314
  i79 := by kernel_rfl
  t80 := Tryz.underlying315
  a80 := Tryz.isAgg315
  z80 := Tryz.sizeOf315
  v80 := Tryz.zeroValue315
  i80 := by kernel_rfl
  t82 := Tryz.underlying317
  a82 := Tryz.isAgg317
  z82 := Tryz.sizeOf317
  v82 := Tryz.zeroValue317
  i82 := by kernel_rfl }
end Go.Proofs.YtikikddkhikfkaaGreatDoor

set_option linter.all false
namespace Go.Proofs.YtikikddkhikfkaaGreatDoor
open Go.RowKit Go.Shelf

noncomputable def siVT : TypeInfo := (Tryz.prog.info? 125).get (by kernel_rfl)
noncomputable def siVE : TypeInfo := (Tryz.prog.info? 126).get (by kernel_rfl)
theorem siVK (n : Nat) (h2 : 2 ≤ n) : Lib.swapperK n siVE 22 = 3 := by
  have a : siVE.hasPointers = true := by kernel_rfl
  have b : siVE.bytes = 8 := by kernel_rfl
  have c : (n == 0) = false := by simp; omega
  have d : (n == 1) = false := by simp; omega
  simp [Lib.swapperK, a, b, c, d]
theorem swo_key {α : Type} (f : α → Int) : Go.Sort.SWO (fun x y : α => decide (f x < f y)) :=
  ⟨fun x => by simp, fun x y z h h' => by simp only [decide_eq_true_eq] at *; omega, fun x y z h h' => by simp only [decide_eq_false_iff_not] at *; omega⟩
set_option maxHeartbeats 2000000 in
theorem sliceV_any (gl : Nat) (lb : Array Value) (eg : ∀ args w, (callFunc gl args).run Tryz.prog w = .ok (.enter gl args) w) (key : Sd → Int) {lo : Nat} {A : Option Addr} {c : Nat} {bs : List Nat} {ts : List Tv} (w : World) (h : VRow w lo A c bs ts) (hn : bs.length ≤ 1000000)
    (hless : ∀ (g : Nat) (W : World) (i j b b' : Nat) (t t' : Tv), A = some ⟨g, 0, none⟩ → w.grownBy W (some g) → i < bs.length → j < bs.length → W.cell? ⟨g, i, none⟩ = some (.pointer (some ⟨b, 0, none⟩)) → W.cell? ⟨g, j, none⟩ = some (.pointer (some ⟨b', 0, none⟩)) →
      Blk W b 136 t.val → Blk W b' 136 t'.val → t.ok W → t'.ok W → t ∈ ts → t' ∈ ts → (b = b' → t = t') → Calls Tryz.prog gl (#[.int .i64 i, .int .i64 j] ++ lb) W fun e w' => e = .returned (.bool (decide (key t.x < key t'.x))) ∧ ∃ q, w' = W.drewN q) :
    Calls Tryz.prog 133 #[.iface 125 (.slice A bs.length c), .func (.func gl) #[] lb] w fun e w' => e = .returned (.tuple #[]) ∧ ∃ bs' ts', (bs'.zip ts').Perm (bs.zip ts) ∧ bs'.length = bs.length ∧ ts'.length = bs.length ∧ (ts'.map Tv.x).Pairwise (fun x y => key x ≤ key y) ∧ VRow w' lo A c bs' ts' ∧ w.grownBy w' (Value.slice A bs.length c).ownBlock := by
  have hk : ∀ W, (Extern.Rtype.kind 126).run Tryz.prog W = .ok 22 W := fun _ => by kernel_rfl
  by_cases h1 : bs.length ≤ 1
  · have hT : ∀ f, Tryz.prog.funcs.findIdx? (·.name == "internal/reflectlite" ++ ".Swapper$" ++ toString (Lib.swapperK bs.length siVE 22)) = some f →
        Calls Tryz.prog 133 #[.iface 125 (.slice A bs.length c), .func (.func gl) #[] lb] w fun e w' => e = .returned (.tuple #[]) ∧ ∃ os, w' = Go.Sort.grow w os := fun f hf =>
      Any.sort_Slice_tiny Tryz.slc6 125 126 siVT siVE (by kernel_rfl) (by kernel_rfl) (by kernel_rfl) (by kernel_rfl) 22 hk A bs.length c h1 f hf (.func gl) #[] lb w
    have hS : Calls Tryz.prog 133 #[.iface 125 (.slice A bs.length c), .func (.func gl) #[] lb] w fun e w' => e = .returned (.tuple #[]) ∧ ∃ os, w' = Go.Sort.grow w os := by
      rcases Nat.lt_or_ge bs.length 1 with h0 | h0
      · have e : bs.length = 0 := by omega
        exact hT 174 (by rw [e]; kernel_rfl)
      · have e : bs.length = 1 := by omega
        exact hT 175 (by rw [e]; kernel_rfl)
    refine hS.mono ?_
    rintro e w' ⟨rfl, os, rfl⟩
    have hb : Below w.heap.size w (Go.Sort.grow w os) := ⟨rfl, rfl, rfl, by simp, fun i hi => Go.Sort.heap_grow_old _ _ hi⟩
    refine ⟨rfl, bs, ts, List.Perm.refl _, rfl, h.len, ?_, h.keep (KeepV.of_below lo hb (Nat.le_refl _)), grownAny_of hb _⟩
    have hl := h.len
    match ts, hl with
    | [], _ => simp
    | [t], _ => simp
    | _ :: _ :: _, hl => simp only [List.length_cons] at hl; omega
  · obtain ⟨g, cap, hv, _, hglt⟩ := h.row.form (by omega)
    have hA : A = some ⟨g, 0, none⟩ := by injection hv
    subst hA
    clear hv
    obtain ⟨L, hLe⟩ : ∃ L, L = bs.zip ts := ⟨_, rfl⟩
    have hLl : L.length = bs.length := by rw [hLe, List.length_zip, h.len, Nat.min_self]
    have hmem : ∀ p ∈ L, Blk w p.1 136 p.2.val ∧ p.2.ok w := fun p hp => by
      obtain ⟨j, hj⟩ := List.getElem?_of_mem hp
      rw [hLe, List.getElem?_zip_eq_some] at hj
      exact (h.vals j _ _ hj.1 hj.2).2
    have hmt : ∀ p ∈ L, p.2 ∈ ts := fun p hp => by rw [hLe] at hp; exact (List.of_mem_zip hp).2
    have hsame : ∀ p ∈ L, ∀ q ∈ L, p.1 = q.1 → p.2 = q.2 := fun p hp q hq e => by
      obtain ⟨j, hj⟩ := List.getElem?_of_mem hp
      obtain ⟨k, hk⟩ := List.getElem?_of_mem hq
      rw [hLe, List.getElem?_zip_eq_some] at hj hk
      have hj1 := List.getElem?_eq_some_iff.1 hj.1
      have hk1 := List.getElem?_eq_some_iff.1 hk.1
      have e2 : j = k := (List.getElem_inj h.nodup).1 (by rw [hj1.2, hk1.2, e])
      subst e2
      have := hj.2.symm.trans hk.2
      exact Option.some.inj this
    haveI : Inhabited {p : Nat × Tv // p ∈ L} := ⟨⟨L[0]'(by omega), List.getElem_mem _⟩⟩
    obtain ⟨d, hd⟩ : ∃ d : Array {p : Nat × Tv // p ∈ L}, d = L.attach.toArray := ⟨_, rfl⟩
    have hds : d.size = bs.length := by rw [hd]; simp [hLl]
    obtain ⟨enc, henc⟩ : ∃ enc : {p : Nat × Tv // p ∈ L} → Value, enc = fun p => ptrTo p.1.1 := ⟨_, rfl⟩
    have hE : ∀ p, enc p = .pointer (some ⟨p.1.1, 0, none⟩) := fun p => by rw [henc]; rfl
    have hH : Go.Sort.Holds enc w g 0 d := by
      intro j hj
      rw [Nat.zero_add]
      have hjl : j < L.length := by omega
      have hdj : d[j]! = ⟨L[j], List.getElem_mem hjl⟩ := by
        rw [getElem!_pos d j hj]
        subst hd
        simp
      have hLj : L[j]? = some (L[j]) := List.getElem?_eq_getElem hjl
      have hLj' : (bs.zip ts)[j]? = some L[j] := by rw [← hLe]; exact hLj
      rw [List.getElem?_zip_eq_some] at hLj'
      refine ⟨?_, h.row.frozenAt j⟩
      rw [hdj, hE, h.row.cellAt j (by omega), List.getElem?_map, hLj'.1]; rfl
    have hS := Any.sort_Slice_sorted Tryz.slc6 125 126 siVT siVE (by kernel_rfl) (by kernel_rfl) (by kernel_rfl) (by kernel_rfl) 22 hk (by kernel_rfl) (fun _ => by kernel_rfl) enc (fun x => by rw [hE]; rfl) (fun x y => decide (key x.1.2.x < key y.1.2.x)) (swo_key _) gl lb eg g 0 c d (by omega) (by omega)
      176 (by rw [siVK _ (by omega)]; kernel_rfl) true
      (fun args W => run_callFunc_extern Tryz.func176 (by kernel_rfl) (by kernel_rfl) (by kernel_rfl) (e := Extern.ReflectliteSwapper.swap true) (by kernel_rfl) args W) w
      (by
        intro m os dk hs i j hi hj
        have hW := grown_sortWorld enc w g m dk os
        have hHW := holds_sortWorld enc w g 0 m d dk os hglt hH hs
        have ci := (hHW i (by omega)).1
        have cj := (hHW j (by omega)).1
        rw [Nat.zero_add, hE] at ci cj
        have hne : ∀ p ∈ L, some p.1 ≠ some g := fun p hp e => own_ne_blk h.row (hmem p hp).1 (by decide) (by rw [e]; rfl)
        have kb := keepB_grown hW h.row
        have f1 := hmem _ dk[i]!.2; have f2 := hmem _ dk[j]!.2
        exact hless g _ i j _ _ dk[i]!.1.2 dk[j]!.1.2 rfl hW (by omega) (by omega) ci cj (f1.1.grown hW (hne _ dk[i]!.2)) (f2.1.grown hW (hne _ dk[j]!.2)) (f1.2.keep kb) (f2.2.keep kb) (hmt _ dk[i]!.2) (hmt _ dk[j]!.2) (hsame _ dk[i]!.2 _ dk[j]!.2))
      hH hglt
    change Calls Tryz.prog 133 _ _ _ at hS
    rw [hds] at hS
    refine hS.mono ?_
    rintro e w' ⟨rfl, d', q, os, hP, hSo, rfl⟩
    have hs' : d'.size = bs.length := hP.1.trans hds
    have hperm : d'.toList.Perm L.attach := by
      have := hP.2.2
      rw [Array.extract_eq_self_of_le (by omega), Array.extract_eq_self_of_le (by omega), hd] at this
      simpa using this
    have hw : Go.Sort.putRow enc (Go.Sort.ahead w q) g 0 d' = (w.drewN q).setCells g 0 ((d'.toList.map fun p => p.1.1).map ptrTo) := by
      have := Go.Lib.putRow_eq_setCells enc w g 0 d d'.toList q hH (by rw [Array.length_toList]; omega)
      rw [Array.toArray_toList] at this
      rw [this, List.map_map, henc]; rfl
    have hpz : ((d'.toList.map fun p => p.1.1).zip (d'.toList.map fun p => p.1.2)).Perm (bs.zip ts) := by
      rw [zip_maps, ← hLe]
      have := hperm.map Subtype.val
      rw [List.attach_map_subtype_val] at this
      exact this
    have hvr := h.sorted (d'.toList.map fun p => p.1.1) (d'.toList.map fun p => p.1.2) hpz (by simp; omega) (by simp; omega) q os
    rw [hw]
    refine ⟨rfl, _, _, hpz, by simp; omega, by simp; omega, ?_, hvr.1, hvr.2⟩
    rw [List.map_map, List.pairwise_map, List.pairwise_iff_getElem]
    intro i j hi hj hij
    rw [Array.length_toList] at hi hj
    have := hSo i j (Nat.zero_le _) hij (by omega)
    rw [getElem!_pos d' i hi, getElem!_pos d' j hj, decide_eq_false_iff_not] at this
    simp at this ⊢
    exact this
end Go.Proofs.YtikikddkhikfkaaGreatDoor
