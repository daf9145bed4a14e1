/-
  The package's SHA-256: Reset, New, Sum: walks. By the session. cometmerkle.New: the walk. By the session.
-/
import Derived.Test.YtikikddkhikfkaaDoorPa11
import Derived.Test.YtikikddkhikfkaaDoorPa5
set_option linter.all false
namespace Go.Proofs.YtikikddkhikfkaaDoor
open Go.RowKit

theorem zeroDig : Tryd.zeroCells215 = dgC ⟨0, 0, 0, 0, 0, 0, 0, 0⟩ (List.replicate 64 0) 0 0 := by kernel_rfl
theorem shaH_put (h : St) (x : List UInt8) (nx len : Nat) (hx : x.length = 64) : ((((((((((dgC h x nx len).setIfInBounds 0 (.int .u32 1779033703)).setIfInBounds 1 (.int .u32 3144134277)).setIfInBounds 2 (.int .u32 1013904242)).setIfInBounds 3 (.int .u32 2773480762)).setIfInBounds 4 (.int .u32 1359893119)).setIfInBounds 5 (.int .u32 2600822924)).setIfInBounds 6 (.int .u32 528734635)).setIfInBounds 7 (.int .u32 1541459225)).setIfInBounds 72 (.int .i64 0)).setIfInBounds 73 (.int .u64 0) = dgC shaH x 0 0 := by
  have h1 := dgC_set h shaH x nx len
  have e : ((((((((dgC h x nx len).setIfInBounds 0 (.int .u32 1779033703)).setIfInBounds 1 (.int .u32 3144134277)).setIfInBounds 2 (.int .u32 1013904242)).setIfInBounds 3 (.int .u32 2773480762)).setIfInBounds 4 (.int .u32 1359893119)).setIfInBounds 5 (.int .u32 2600822924)).setIfInBounds 6 (.int .u32 528734635)).setIfInBounds 7 (.int .u32 1541459225) = dgC shaH x nx len := h1
  rw [e]
  have h2 := dgC_nx shaH x nx 0 len hx
  have h3 := dgC_len shaH x 0 len 0 hx
  exact (congrArg (fun a => a.setIfInBounds 73 (Value.int .u64 0)) h2).trans h3
/-- a digest, whatever it has taken -/
def DgAny (w : World) (g : Nat) : Prop := ∃ h x nx len, x.length = 64 ∧ Blk w g 215 (dgC h x nx len)
theorem Dg.any {w : World} {g : Nat} {m : List UInt8} (h : Dg w g m) : DgAny w g := by
  obtain ⟨h0, x, nx, hk, hb⟩ := h
  exact ⟨h0, x, nx, _, hk.len, hb⟩
set_option maxRecDepth 100000 in
set_option maxHeartbeats 3200000 in
theorem reset_any (g : Nat) (w : World) (hd : DgAny w g) :
    Calls Tryd.prog 116 #[.pointer (some ⟨g, 0, none⟩)] w fun e w' => e = .returned (.tuple #[]) ∧ Dg w' g [] ∧ w.grownBy w' (some g) := by
  obtain ⟨h0, x0, nx0, len0, hx, hb⟩ := hd
  have HB := Lib.hid hb; have HX := Lib.hid hx
  obtain ⟨c0, c1, c2, c3, c4, c5, c6, c7⟩ := dgBlk hb
  unfold uv at c0 c1 c2 c3 c4 c5 c6 c7
  have cr := dgC_r h0 x0 nx0 len0 hx
  have c72 := (hb.cell 72).trans cr.1
  have c73 := (hb.cell 73).trans cr.2.1
  have c74 := (hb.cell 74).trans cr.2.2
  have hf := hb.free
  clear hb hx cr
  go_enter Tryd.func116, Tryd.ntmps116
  go_wp2_with fail
  have h1 := (((((((((HB.out.put 0 (.int .u32 1779033703)).put 1 (.int .u32 3144134277)).put 2 (.int .u32 1013904242)).put 3 (.int .u32 2773480762)).put 4 (.int .u32 1359893119)).put 5 (.int .u32 2600822924)).put 6 (.int .u32 528734635)).put 7 (.int .u32 1541459225)).put 72 (.int .i64 0)).put 73 (.int .u64 0)
  rw [shaH_put _ _ _ _ HX.out] at h1
  refine ⟨rfl, .tuple #[], results_none rfl _ _ _, rfl, ⟨shaH, x0, 0, took_nil x0 HX.out, h1⟩, ?_⟩
  exact (((((((((grown_put w g _ _).trans (grown_put _ g _ _)).trans (grown_put _ g _ _)).trans (grown_put _ g _ _)).trans (grown_put _ g _ _)).trans (grown_put _ g _ _)).trans (grown_put _ g _ _)).trans (grown_put _ g _ _)).trans (grown_put _ g _ _)).trans (grown_put _ g _ _)
theorem dgAny_new (w : World) : DgAny (w.alloc (.cells Tryd.zeroCells215 215)) w.heap.size :=
  ⟨⟨0, 0, 0, 0, 0, 0, 0, 0⟩, List.replicate 64 0, 0, 0, List.length_replicate, by rw [zeroDig]; exact Blk.new w _ _⟩
set_option maxRecDepth 100000 in
theorem new_any (w : World) : Calls Tryd.prog 96 #[] w fun e w' => e = .returned (.pointer (some ⟨w.heap.size, 0, none⟩)) ∧ Dg w' w.heap.size [] ∧ Below w.heap.size w w' := by
  have HD := Lib.hid (dgAny_new w)
  have HB := Lib.hid ((Below.refl w.heap.size w).alloc (Nat.le_refl _) (.cells Tryd.zeroCells215 215))
  go_enter Tryd.func96, Tryd.ntmps96
  go_wp2_with fail
  refine (reset_any w.heap.size _ HD.out).mono ?_
  rintro e w1 ⟨rfl, hd1, hg1⟩
  have HD1 := Lib.hid hd1; have HG1 := Lib.hid hg1
  clear hd1 hg1
  go_wp2_with fail
  go_ret
  exact ⟨rfl, HD1.out, HB.out.grown HG1.out HB.out.size (by intro k e; cases e; exact Nat.le_refl _)⟩
theorem dg_all (h : St) (x : List UInt8) (nx len : Nat) : (dgC h x nx len).all (·.oneCell') = true := by
  unfold dgC
  rw [List.all_toArray, List.all_eq_true]
  intro u hu
  rw [List.mem_append, List.mem_append] at hu
  rcases hu with (hu | hu) | hu
  · obtain ⟨y, _, rfl⟩ := List.mem_map.1 hu; rfl
  · exact bc_one x u hu
  · simp only [List.mem_cons, List.not_mem_nil, or_false] at hu
    rcases hu with rfl | rfl | rfl <;> rfl
theorem infoDig (h : St) (x : List UInt8) (nx len : Nat) (hx : x.length = 64) : (Tryd.prog.info? 215).map (·.size) = some (dgC h x nx len).size := by rw [dgC_size _ _ _ _ hx]; kernel_rfl
theorem zeroDig_size : Tryd.zeroCells215.size = 75 := by kernel_rfl
set_option maxRecDepth 100000 in
set_option maxHeartbeats 3200000 in
theorem dsum_any (g : Nat) (m : List UInt8) (w : World) (hd : Dg w g m) (hK : Kw w) (hm : m.length ≤ 70368744177664) :
    Calls Tryd.prog 130 #[.pointer (some ⟨g, 0, none⟩), .slice none 0 0] w fun e w' => ∃ A' c', e = .returned (.slice A' 32 c') ∧ Own8 w' w.heap.size A' 32 c' (shaL m) ∧ Below w.heap.size w w' := by
  obtain ⟨h0, x0, nx0, hk, hb⟩ := hd
  have HB := Lib.hid hb; have HK := Lib.hid hk
  have hnd : Dg (w.alloc (.cells (dgC h0 x0 nx0 m.length) 215)) w.heap.size m := ⟨h0, x0, nx0, hk, Blk.new w _ _⟩
  have hbl : Below w.heap.size w (w.alloc (.cells (dgC h0 x0 nx0 m.length) 215)) := (Below.refl _ _).alloc (Nat.le_refl _) _
  have HND := Lib.hid hnd; have HBL := Lib.hid hbl; have HKW := Lib.hid (hK.belowS hbl); have hkl := hK.2
  have HKL := Lib.hid hkl
  have HM := Lib.hid hm
  clear hb hk hnd hbl hK hkl hm
  go_enter Tryd.func130, Tryd.ntmps130
  go_wp2_with (first
    | (refine wpList_load_row rfl 215 (.tmp 8) rfl g rfl 215 (dgC h0 x0 nx0 m.length) (0, 0) _ HB.out Tryd.underlying215 rfl (infoDig _ _ _ _ HK.out.len) ?_)
    | (refine wpList_store_rowTo rfl 215 (.tmp 5) (.tmp 9) rfl rfl w.heap.size (dgC h0 x0 nx0 m.length) rfl rfl 215 _ (heap_alloc_new _ _) (infoDig _ _ _ _ HK.out.len) (by rw [zeroDig_size, dgC_size _ _ _ _ HK.out.len]) (dg_all _ _ _ _) ?_; rw [World.setRow_alloc_new]))
  refine (checkSum_any w.heap.size m _ HND.out HKW.out (by intro e; injection e with e; have := HKL.out; omega) HM.out).mono ?_
  rintro e w1 ⟨rfl, hg1, h1, x1, nx1, len1, hx1, hb1⟩
  have c74 : ∀ o, (w1.alloc o).cell? ⟨w.heap.size, 74, none⟩ = some (.bool false) := fun o => ((hb1.alloc o).cell 74).trans (dgC_r h1 x1 nx1 len1 hx1).2.2
  have HBL1 := Lib.hid (HBL.out.grown hg1 HBL.out.size (by intro k e; cases e; exact Nat.le_refl _))
  clear hb1 hx1 hg1
  have HRD := Lib.hid (rd_blk (Blk.new w1 227 (bc (shaL m)).toArray) 0 32 (by rw [shaL_length]; exact Nat.le_refl _))
  have HBL2 := Lib.hid (HBL1.out.alloc HBL1.out.size (.cells (bc (shaL m)).toArray 227))
  go_wp2_with (first
    | (refine wpList_store_rowTo rfl 227 (.tmp 6) (.tmp 10) rfl rfl w1.heap.size (bc (shaL m)).toArray rfl rfl 227 _ (heap_alloc_new _ _) (info32 _ (shaL_length m)) (by rw [bc_size, shaL_length]; rfl) (bc_all _) ?_; rw [World.setRow_alloc_new])
    | (at_builtin; refine app8w _ rfl (.tmp 16) (.tmp 17) rfl w.heap.size 0 0 none [] rfl (Own8.nil _ _) (w1.alloc (.cells (bc (shaL m)).toArray 227)).heap.size 32 32 (some ⟨w1.heap.size, 0, none⟩) (shaL m) rfl ?hr (by decide) ?hb ?_; (case hr => have h1 := HRD.out; rw [List.drop_zero, List.take_of_length_le (by rw [shaL_length]; exact Nat.le_refl _)] at h1; exact h1); (case hb => exact HBL2.out.size); intro A2 c2 w2 hown2 hg2))
  go_ret
  rw [Nat.zero_add, List.nil_append] at hown2
  exact ⟨A2, c2, rfl, hown2, HBL2.out.grown hg2.1 HBL2.out.size (by intro k e; cases e)⟩
end Go.Proofs.YtikikddkhikfkaaDoor

set_option linter.all false
namespace Go.Proofs.YtikikddkhikfkaaDoor
open Go.RowKit

theorem cmNew_any (w : World) : Calls Tryd.prog 108 #[] w fun e w' => e = .returned (.iface 182 (.pointer (some ⟨w.heap.size, 0, none⟩))) ∧ Dg w' w.heap.size [] ∧ Below w.heap.size w w' := by
  have HN := Lib.hid (new_any w)
  go_enter Tryd.func108, Tryd.ntmps108
  go_wp2_with fail
  refine HN.out.mono ?_
  rintro e w1 ⟨rfl, hd, hb⟩
  have HD := Lib.hid hd; have HB := Lib.hid hb
  clear hd hb
  go_wp2_with fail
  go_ret
  exact ⟨rfl, HD.out, HB.out⟩
end Go.Proofs.YtikikddkhikfkaaDoor
