/-
  The last region of blockGeneric (eight words stored back, in whatever order they are reckoned): its operations one by one. By the session. The last region of blockGeneric, over whatever frame: the eight words are stored, in whatever order they are reckoned. Printed by gen_digout.py. By the session.
-/
import Derived.Test.YtikikddkhikfkaaDoorPa6
import Derived.Test.YtikikddkhikfkaaDoorPa3
set_option linter.all false
namespace Go.Proofs.YtikikddkhikfkaaDoor
open Go.RowKit

/-- the cells of a digest -/
def dgC (h : St) (x : List UInt8) (nx len : Nat) : Array Value := (h.list.map uv ++ bc x ++ [Value.int .i64 (nx : Int), Value.int .u64 (len : Int), Value.bool false]).toArray
theorem dgC_h (h : St) (x : List UInt8) (nx len i : Nat) (y : UInt32) (hy : h.list[i]? = some y) : (dgC h x nx len)[i]? = some (uv y) := by
  have hi := (List.getElem?_eq_some_iff.1 hy).1
  unfold dgC
  rw [List.getElem?_toArray, List.append_assoc, List.getElem?_append_left (by simpa using hi), List.getElem?_map, hy]; rfl
theorem dgC_x (h : St) (x : List UInt8) (nx len i : Nat) (y : UInt8) (hy : x[i]? = some y) : (dgC h x nx len)[8 + i]? = some (.int .u8 (y.toNat : Int)) := by
  have hi := (List.getElem?_eq_some_iff.1 hy).1
  unfold dgC
  rw [List.getElem?_toArray, List.append_assoc, List.getElem?_append_right (by simp [St.list])]
  have e : 8 + i - (List.map uv h.list).length = i := by simp [St.list]
  rw [e, List.getElem?_append_left (by rw [bc_length]; exact hi)]
  unfold bc
  rw [List.getElem?_map, hy]; rfl
theorem dgC_r (h : St) (x : List UInt8) (nx len : Nat) (hx : x.length = 64) : (dgC h x nx len)[72]? = some (.int .i64 (nx : Int)) ∧ (dgC h x nx len)[73]? = some (.int .u64 (len : Int)) ∧ (dgC h x nx len)[74]? = some (.bool false) := by
  have e : (h.list.map uv ++ bc x).length = 72 := by rw [List.length_append, List.length_map, bc_length, hx]; rfl
  refine ⟨?_, ?_, ?_⟩
  all_goals
    unfold dgC
    rw [List.getElem?_toArray, List.getElem?_append_right (by rw [e]; decide), e]
    rfl
theorem dgC_set (h h' : St) (x : List UInt8) (nx len : Nat) : ((((((((dgC h x nx len).setIfInBounds 0 (uv h'.a)).setIfInBounds 1 (uv h'.b)).setIfInBounds 2 (uv h'.c)).setIfInBounds 3 (uv h'.d)).setIfInBounds 4 (uv h'.e)).setIfInBounds 5 (uv h'.f)).setIfInBounds 6 (uv h'.g)).setIfInBounds 7 (uv h'.h) = dgC h' x nx len := by
  unfold dgC
  simp [St.list]
theorem dgBlk {w : World} {g : Nat} {t : TypeId} {h : St} {x : List UInt8} {nx len : Nat} (hb : Blk w g t (dgC h x nx len)) : w.cell? ⟨g, 0, none⟩ = some (uv h.a) ∧ w.cell? ⟨g, 1, none⟩ = some (uv h.b) ∧ w.cell? ⟨g, 2, none⟩ = some (uv h.c) ∧ w.cell? ⟨g, 3, none⟩ = some (uv h.d) ∧ w.cell? ⟨g, 4, none⟩ = some (uv h.e) ∧ w.cell? ⟨g, 5, none⟩ = some (uv h.f) ∧ w.cell? ⟨g, 6, none⟩ = some (uv h.g) ∧ w.cell? ⟨g, 7, none⟩ = some (uv h.h) :=
  ⟨(hb.cell 0).trans (dgC_h _ _ _ _ _ _ rfl), (hb.cell 1).trans (dgC_h _ _ _ _ _ _ rfl), (hb.cell 2).trans (dgC_h _ _ _ _ _ _ rfl), (hb.cell 3).trans (dgC_h _ _ _ _ _ _ rfl), (hb.cell 4).trans (dgC_h _ _ _ _ _ _ rfl), (hb.cell 5).trans (dgC_h _ _ _ _ _ _ rfl), (hb.cell 6).trans (dgC_h _ _ _ _ _ _ rfl), (hb.cell 7).trans (dgC_h _ _ _ _ _ _ rfl)⟩
section
variable {P : Program}
theorem putL_rest : ∀ (l : List Oper) (k : Nat) (vs : Nat → Value) (b : Act) (s : Nat), s ∉ dstsOf l → (putL l k vs b).tmps[s]? = b.tmps[s]?
  | [], _, _, _, _ => fun _ => rfl
  | o :: r, k, vs, b, s => fun h => by
    have h1 : o.dst ≠ some s := fun e => h (by simp [dstsOf, e])
    have h2 : s ∉ dstsOf r := fun e => h (by
      obtain ⟨x, hx, hd⟩ := List.mem_filterMap.1 e
      exact List.mem_filterMap.2 ⟨x, List.mem_cons_of_mem _ hx, hd⟩)
    show (putL r (k + 1) vs (b.put o.dst (vs k))).tmps[s]? = _
    rw [putL_rest r (k + 1) vs _ s h2, put_other _ _ _ _ h1]
theorem putL_at : ∀ (l : List Oper) (k : Nat) (vs : Nat → Value) (b : Act), (dstsOf l).Nodup → (∀ d ∈ dstsOf l, d < b.tmps.size) → ∀ (i : Nat) (o : Oper) (d : Nat), l[i]? = some o → o.dst = some d → (putL l k vs b).tmps[d]? = some (vs (k + i))
  | [], _, _, _ => fun _ _ i o d h => by simp at h
  | x :: r, k, vs, b => fun hn hb i o d hi hd => by
    show (putL r (k + 1) vs (b.put x.dst (vs k))).tmps[d]? = _
    have hnr : (dstsOf r).Nodup := by
      cases hx : x.dst with
      | none => have e : dstsOf (x :: r) = dstsOf r := by simp [dstsOf, hx]
                rw [e] at hn; exact hn
      | some y => have e : dstsOf (x :: r) = y :: dstsOf r := by simp [dstsOf, hx]
                  rw [e] at hn; exact (List.nodup_cons.1 hn).2
    have hbr : ∀ d ∈ dstsOf r, d < (b.put x.dst (vs k)).tmps.size := fun d hd => by
      rw [put_size]
      obtain ⟨y, hy, e⟩ := List.mem_filterMap.1 hd
      exact hb d (List.mem_filterMap.2 ⟨y, List.mem_cons_of_mem _ hy, e⟩)
    cases i with
    | zero =>
      simp only [List.getElem?_cons_zero, Option.some.injEq] at hi
      subst hi
      have e : dstsOf (x :: r) = d :: dstsOf r := by simp [dstsOf, hd]
      rw [e] at hn
      rw [putL_rest r (k + 1) vs _ d (List.nodup_cons.1 hn).1, hd, put_same _ _ _ (hb d (by rw [e]; exact List.mem_cons_self ..)), Nat.add_zero]
    | succ i =>
      rw [putL_at r (k + 1) vs _ hnr hbr i o d (by simpa using hi) hd]
      congr 2; omega
theorem digAt {ops : Array Oper} (j slot : Nat) (vs : Nat → Value) (a0 : Act) (hn : nodupB (dstsOf ops.toList) = true) (hlt : (dstsOf ops.toList).all (fun d => decide (d < a0.tmps.size)) = true) (hj : (ops[j]?).bind Oper.dst = some slot) : (putL ops.toList 0 vs a0).eval (.tmp slot) = vs j := by
  cases ho : ops[j]? with
  | none => rw [ho] at hj; cases hj
  | some o =>
    rw [ho] at hj
    have h := putL_at ops.toList 0 vs a0 (nodupB_spec hn) (fun d hd => by simpa using List.all_eq_true.1 hlt d hd) j o slot (by rw [Array.getElem?_toList]; exact ho) hj
    rw [eval_tmp, h, Nat.zero_add]; rfl
theorem digRest {ops : Array Oper} (slot : Nat) (vs : Nat → Value) (a0 : Act) (h : (dstsOf ops.toList).contains slot = false) : (putL ops.toList 0 vs a0).eval (.tmp slot) = a0.eval (.tmp slot) := by
  rw [eval_tmp, eval_tmp, putL_rest _ _ _ _ _ (by simpa using h)]
theorem op_value {o : Oper} {a : Act} {w w' : World} {K : Act → World → Prop} {Q : Exit → Act → World → Prop} {v : Value} (h : (execOp a.eval o).run P w = .ok (.value v) w') (hk : K (a.put o.dst v) w') : o.wp P a w K Q := by
  unfold Oper.wp; rw [h]; exact hk
theorem op_skip {o : Oper} {a : Act} {w w' : World} {K : Act → World → Prop} {Q : Exit → Act → World → Prop} (h : (execOp a.eval o).run P w = .ok .skip w') (hk : K (a.put o.dst undef) w') : o.wp P a w K Q := by
  unfold Oper.wp; rw [h]; exact hk
end
theorem ex_move (ρ : Operand → Value) (d : Option Nat) (x : Operand) (t : TypeId) (p : String) (af : Array Edge) (gd : Option (Nat × Bool)) (w : World) : (execOp ρ ⟨d, .move x, t, p, af, gd⟩).run Tryd.prog w = .ok (.value (ρ x)) w := by simp [go_sem]
theorem ex_nil (ρ : Operand → Value) (d : Option Nat) (x : Operand) (t : TypeId) (p : String) (af : Array Edge) (gd : Option (Nat × Bool)) (w : World) (a : Addr) (h : ρ x = .pointer (some a)) : (execOp ρ ⟨d, .nilCheck x, t, p, af, gd⟩).run Tryd.prog w = .ok (.value (.pointer (some a))) w := by simp [go_sem, h]
theorem ex_field (ρ : Operand → Value) (d : Option Nat) (x : Operand) (t : TypeId) (p : String) (af : Array Edge) (gd : Option (Nat × Bool)) (w : World) (g : Nat) (h : ρ x = .pointer (some ⟨g, 0, none⟩)) : (execOp ρ ⟨d, .fieldAddr 215 x 0, t, p, af, gd⟩).run Tryd.prog w = .ok (.value (.pointer (some ⟨g, 0, none⟩))) w := by simp [go_sem, h]
theorem ex_index (ρ : Operand → Value) (d : Option Nat) (x : Operand) (t : TypeId) (p : String) (af : Array Edge) (gd : Option (Nat × Bool)) (w : World) (g k : Nat) (hk : k < 8) (h : ρ x = .pointer (some ⟨g, 0, none⟩)) (hc : ρ (.const (.int .i64 (k : Int))) = .int .i64 (k : Int)) : (execOp ρ ⟨d, .indexAddr 173 x (.const (.int .i64 (k : Int))), t, p, af, gd⟩).run Tryd.prog w = .ok (.value (.pointer (some ⟨g, k, none⟩))) w := by
  simp [go_sem, h, hc]
  intro h8; omega
theorem ex_store (ρ : Operand → Value) (d : Option Nat) (x y : Operand) (t : TypeId) (p : String) (af : Array Edge) (gd : Option (Nat × Bool)) (w : World) (a : Addr) (u : Int) (ov : Value) (h : ρ x = .pointer (some a)) (h2 : ρ y = .int .u32 u) (hc : w.cell? a = some ov) (hf : w.frozen? a = false) : (execOp ρ ⟨d, .store 90 x y, t, p, af, gd⟩).run Tryd.prog w = .ok .skip (w.setCell a (.int .u32 u)) := by
  simp [go_sem, h, h2, hc, hf]
/-- what each operation of the region is known to yield -/
def digF (g : Nat) (s : St) (i : Nat) (v : Value) (w : World) : Prop :=
  if i < 8 then v = .pointer (some ⟨g, 0, none⟩) else if i < 16 then v = .int .u32 ((s.list.getD (i - 8) 0).toNat : Int) else if (i - 16) % 4 = 2 then v = .pointer (some ⟨g, (i - 16) / 4, none⟩) else if (i - 16) % 4 = 3 then True else v = .pointer (some ⟨g, 0, none⟩)
/-- the digest's block while some of the words are stored -/
def digS (w : World) (g : Nat) (h0 s : St) (x : List UInt8) (nx len : Nat) (D : Nat → Bool) (w' : World) : Prop :=
  w.grownBy w' (some g) ∧ ∃ cs : Array Value, Blk w' g 215 cs ∧ ∀ i, cs[i]? = if i < 8 ∧ D (19 + 4 * i) = true then some (uv (s.list.getD i 0)) else (dgC h0 x nx len)[i]?
theorem digS_skip {w w' : World} {g : Nat} {h0 s : St} {x : List UInt8} {nx len : Nat} {D : Nat → Bool} {i : Nat} (h : digS w g h0 s x nx len D w') (hi : ∀ k, k < 8 → i ≠ 19 + 4 * k) : digS w g h0 s x nx len (fun j => D j || i == j) w' := by
  obtain ⟨h1, cs, h2, h3⟩ := h
  refine ⟨h1, cs, h2, fun k => ?_⟩
  rw [h3 k]
  by_cases hk : k < 8
  · have e : (i == 19 + 4 * k) = false := beq_eq_false_iff_ne.2 (hi k hk)
    simp only [e, Bool.or_false]
  · simp [hk]
theorem digS_cell {w w' : World} {g : Nat} {h0 s : St} {x : List UInt8} {nx len : Nat} {D : Nat → Bool} (h : digS w g h0 s x nx len D w') (k : Nat) (hk : k < 8) : (∃ ov, w'.cell? ⟨g, k, none⟩ = some ov) ∧ w'.frozen? ⟨g, k, none⟩ = false := by
  obtain ⟨h1, cs, h2, h3⟩ := h
  refine ⟨?_, h2.free k⟩
  rw [h2.cell k, h3 k]
  split
  · exact ⟨_, rfl⟩
  · exact ⟨_, dgC_h h0 x nx len k _ (List.getElem?_eq_getElem (show k < h0.list.length from hk))⟩
theorem digS_put {w w' : World} {g : Nat} {h0 s : St} {x : List UInt8} {nx len : Nat} {D : Nat → Bool} (h : digS w g h0 s x nx len D w') (k : Nat) (hk : k < 8) : digS w g h0 s x nx len (fun j => D j || 19 + 4 * k == j) (w'.setCell ⟨g, k, none⟩ (uv (s.list.getD k 0))) := by
  obtain ⟨ov, hov⟩ := (digS_cell h k hk).1
  obtain ⟨h1, cs, h2, h3⟩ := h
  have hks : k < cs.size := by
    rw [h2.cell k] at hov
    exact (Array.getElem?_eq_some_iff.1 hov).1
  refine ⟨h1.trans (grown_put _ g k _), _, h2.put k _, fun i => ?_⟩
  rw [Array.getElem?_setIfInBounds]
  by_cases hki : k = i
  · subst hki
    rw [if_pos rfl, if_pos hks, if_pos ⟨hk, by simp⟩]
  · rw [if_neg hki, h3 i]
    have e : (19 + 4 * k == 19 + 4 * i) = false := beq_eq_false_iff_ne.2 (by omega)
    simp only [e, Bool.or_false]
theorem digS_end {w w' : World} {g : Nat} {h0 s : St} {x : List UInt8} {nx len : Nat} {n : Nat} (hn : 48 ≤ n) (h : digS w g h0 s x nx len (fun j => decide (j < n)) w') : Blk w' g 215 (dgC s x nx len) ∧ w.grownBy w' (some g) := by
  obtain ⟨h1, cs, h2, h3⟩ := h
  have e : cs = dgC s x nx len := by
    apply Array.ext_getElem?
    intro i
    rw [h3 i]
    by_cases hi : i < 8
    · rw [if_pos ⟨hi, by simp; omega⟩]
      have hl : i < s.list.length := hi
      rw [dgC_h s x nx len i _ (List.getElem?_eq_getElem hl), List.getD_eq_getElem?_getD, List.getElem?_eq_getElem hl]; rfl
    · rw [if_neg (fun h => hi h.1)]
      have e1 : ∀ z : St, (dgC z x nx len)[i]? = (bc x ++ [Value.int .i64 (nx : Int), Value.int .u64 (len : Int), Value.bool false])[i - 8]? := fun z => by
        unfold dgC
        rw [List.getElem?_toArray, List.append_assoc, List.getElem?_append_right (by simp [St.list]; omega)]
        simp [St.list]
      rw [e1, e1]
  exact ⟨e ▸ h2, h1⟩
end Go.Proofs.YtikikddkhikfkaaDoor

set_option linter.all false
namespace Go.Proofs.YtikikddkhikfkaaDoor
open Go.RowKit

theorem digF_a {g : Nat} {s : St} {k : Nat} {v : Value} {w : World} (h : digF g s k v w) (hk : k < 8) : v = .pointer (some ⟨g, 0, none⟩) := by unfold digF at h; rw [if_pos hk] at h; exact h
theorem digF_b {g : Nat} {s : St} {k : Nat} {v : Value} {w : World} (h : digF g s (8 + k) v w) (hk : k < 8) : v = .int .u32 ((s.list.getD k 0).toNat : Int) := by
  unfold digF at h; rw [if_neg (by omega), if_pos (by omega), show 8 + k - 8 = k by omega] at h; exact h
theorem digF_c {g : Nat} {s : St} {k : Nat} {v : Value} {w : World} (h : digF g s (16 + 4 * k + 2) v w) (hk : k < 8) : v = .pointer (some ⟨g, k, none⟩) := by
  unfold digF at h; rw [if_neg (by omega), if_neg (by omega), if_pos (by omega), show (16 + 4 * k + 2 - 16) / 4 = k by omega] at h; exact h
theorem digF_d {g : Nat} {s : St} {i k : Nat} {v : Value} {w : World} (h : digF g s i v w) (hk : 16 ≤ i ∧ (i - 16) % 4 < 2) : v = .pointer (some ⟨g, 0, none⟩) := by
  unfold digF at h; rw [if_neg (by omega), if_neg (by omega), if_neg (by omega), if_neg (by omega)] at h; exact h
structure ShutD (p : Prop) : Prop where
  out : p
def regionsOf : Code → List (Nat × Array Oper)
  | .region i ops _ => [(i, ops)]
  | .loop c => regionsOf c
  | .seq a b => regionsOf a ++ regionsOf b
  | .block _ c => regionsOf c
  | .scope c => regionsOf c
  | .cond _ a b => regionsOf a ++ regionsOf b
  | _ => []
noncomputable def digOps : Array Oper := ((((Tryd.f133.body.map regionsOf).getD []).find? fun x => x.1 == 35).map Prod.snd).getD #[]
theorem digOps_size : digOps.size = 48 := by kernel_rfl
theorem digOps_nodup : nodupB (dstsOf digOps.toList) = true := by kernel_rfl
theorem digOps_lt : (dstsOf digOps.toList).all (fun d => decide (d < 283)) = true := by kernel_rfl
theorem digOps_reg : regB .any digOps 283 = true := by kernel_rfl
attribute [local irreducible] digOps
theorem dig_part {i : Nat} {o : Oper} (ho : digOps[i]? = some o) (d : Option Nat) (op : Op) (h : (digOps[i]?).map (fun o => (o.dst, o.op)) = some (d, op)) : ∃ t p af gd, o = ⟨d, op, t, p, af, gd⟩ := by
  rw [ho] at h
  simp only [Option.map_some, Option.some.injEq, Prod.mk.injEq] at h
  obtain ⟨rfl, rfl⟩ := h
  exact ⟨o.type, o.pos, o.after, o.guard, rfl⟩
theorem dig_dep {i : Nat} {o : Oper} (ho : digOps[i]? = some o) (j : Nat) (h : (digOps[i]?).map (fun o => depB .any o j) = some true) : depB .any o j = true := by
  rw [ho] at h; simpa using h
section
variable {a0 : Act} {g : Nat} {s : St} {vs : Nat → Value} (hsz : a0.tmps.size = 283)
theorem dAt {a0 : Act} (hsz : a0.tmps.size = 283) (j slot : Nat) (vs : Nat → Value) (hj : (digOps[j]?).bind Oper.dst = some slot) : (putL digOps.toList 0 vs a0).eval (.tmp slot) = vs j := digAt j slot vs a0 digOps_nodup (by rw [hsz]; exact digOps_lt) hj
end
set_option maxRecDepth 100000 in
set_option maxHeartbeats 8000000 in
theorem dig_hop {Q : Exit → Act → World → Prop} {a0 : Act} {wr : World} {g : Nat} {h0 s : St} {x : List UInt8} {nx len : Nat} (hsz : a0.tmps.size = 283) (e0 : a0.eval (.tmp 0) = .pointer (some ⟨g, 0, none⟩))
    (ea : a0.eval (.tmp 5) = .int .u32 (s.a.toNat : Int)) (eb : a0.eval (.tmp 6) = .int .u32 (s.b.toNat : Int)) (ec : a0.eval (.tmp 7) = .int .u32 (s.c.toNat : Int)) (ed : a0.eval (.tmp 8) = .int .u32 (s.d.toNat : Int)) (ee : a0.eval (.tmp 9) = .int .u32 (s.e.toNat : Int)) (ef : a0.eval (.tmp 10) = .int .u32 (s.f.toNat : Int)) (eg : a0.eval (.tmp 11) = .int .u32 (s.g.toNat : Int)) (eh : a0.eval (.tmp 12) = .int .u32 (s.h.toNat : Int)) :
    ∀ (i : Nat) (o : Oper), digOps[i]? = some o → ∀ (b : Nat → Bool) (vs : Nat → Value) (w : World), digS wr g h0 s x nx len b w → b i = false → (∀ j, depB .any o j = true → dstB digOps j = true → digF g s j (vs j) w) →
      o.wp Tryd.prog (putL digOps.toList 0 vs a0) w (StepF (digF g s) (fun _ _ => True) (digS wr g h0 s x nx len (fun j => b j || i == j)) (putL digOps.toList 0 vs a0) o.dst i w) Q := by
  intro i o
  match i with
  | 0 =>
    intro ho D vs w4 hS hD hdep
    refine ShutD.out ?_
    obtain ⟨t, p, af, gd, rfl⟩ := dig_part ho (some 243) (.move (.tmp 0)) (by kernel_rfl)
    refine ⟨?_⟩
    exact op_value (ex_move _ _ _ _ _ _ _ _) (StepF.of _ rfl ((digRest 0 vs a0 (by kernel_rfl)).trans e0) (digS_skip hS (fun k hk => by omega)) trivial)
  | 1 =>
    intro ho D vs w4 hS hD hdep
    refine ShutD.out ?_
    obtain ⟨t, p, af, gd, rfl⟩ := dig_part ho (some 244) (.move (.tmp 0)) (by kernel_rfl)
    refine ⟨?_⟩
    exact op_value (ex_move _ _ _ _ _ _ _ _) (StepF.of _ rfl ((digRest 0 vs a0 (by kernel_rfl)).trans e0) (digS_skip hS (fun k hk => by omega)) trivial)
  | 2 =>
    intro ho D vs w4 hS hD hdep
    refine ShutD.out ?_
    obtain ⟨t, p, af, gd, rfl⟩ := dig_part ho (some 245) (.move (.tmp 0)) (by kernel_rfl)
    refine ⟨?_⟩
    exact op_value (ex_move _ _ _ _ _ _ _ _) (StepF.of _ rfl ((digRest 0 vs a0 (by kernel_rfl)).trans e0) (digS_skip hS (fun k hk => by omega)) trivial)
  | 3 =>
    intro ho D vs w4 hS hD hdep
    refine ShutD.out ?_
    obtain ⟨t, p, af, gd, rfl⟩ := dig_part ho (some 246) (.move (.tmp 0)) (by kernel_rfl)
    refine ⟨?_⟩
    exact op_value (ex_move _ _ _ _ _ _ _ _) (StepF.of _ rfl ((digRest 0 vs a0 (by kernel_rfl)).trans e0) (digS_skip hS (fun k hk => by omega)) trivial)
  | 4 =>
    intro ho D vs w4 hS hD hdep
    refine ShutD.out ?_
    obtain ⟨t, p, af, gd, rfl⟩ := dig_part ho (some 247) (.move (.tmp 0)) (by kernel_rfl)
    refine ⟨?_⟩
    exact op_value (ex_move _ _ _ _ _ _ _ _) (StepF.of _ rfl ((digRest 0 vs a0 (by kernel_rfl)).trans e0) (digS_skip hS (fun k hk => by omega)) trivial)
  | 5 =>
    intro ho D vs w4 hS hD hdep
    refine ShutD.out ?_
    obtain ⟨t, p, af, gd, rfl⟩ := dig_part ho (some 248) (.move (.tmp 0)) (by kernel_rfl)
    refine ⟨?_⟩
    exact op_value (ex_move _ _ _ _ _ _ _ _) (StepF.of _ rfl ((digRest 0 vs a0 (by kernel_rfl)).trans e0) (digS_skip hS (fun k hk => by omega)) trivial)
  | 6 =>
    intro ho D vs w4 hS hD hdep
    refine ShutD.out ?_
    obtain ⟨t, p, af, gd, rfl⟩ := dig_part ho (some 249) (.move (.tmp 0)) (by kernel_rfl)
    refine ⟨?_⟩
    exact op_value (ex_move _ _ _ _ _ _ _ _) (StepF.of _ rfl ((digRest 0 vs a0 (by kernel_rfl)).trans e0) (digS_skip hS (fun k hk => by omega)) trivial)
  | 7 =>
    intro ho D vs w4 hS hD hdep
    refine ShutD.out ?_
    obtain ⟨t, p, af, gd, rfl⟩ := dig_part ho (some 250) (.move (.tmp 0)) (by kernel_rfl)
    refine ⟨?_⟩
    exact op_value (ex_move _ _ _ _ _ _ _ _) (StepF.of _ rfl ((digRest 0 vs a0 (by kernel_rfl)).trans e0) (digS_skip hS (fun k hk => by omega)) trivial)
  | 8 =>
    intro ho D vs w4 hS hD hdep
    refine ShutD.out ?_
    obtain ⟨t, p, af, gd, rfl⟩ := dig_part ho (some 251) (.move (.tmp 5)) (by kernel_rfl)
    refine ⟨?_⟩
    exact op_value (ex_move _ _ _ _ _ _ _ _) (StepF.of _ rfl ((digRest 5 vs a0 (by kernel_rfl)).trans ea) (digS_skip hS (fun k hk => by omega)) trivial)
  | 9 =>
    intro ho D vs w4 hS hD hdep
    refine ShutD.out ?_
    obtain ⟨t, p, af, gd, rfl⟩ := dig_part ho (some 252) (.move (.tmp 6)) (by kernel_rfl)
    refine ⟨?_⟩
    exact op_value (ex_move _ _ _ _ _ _ _ _) (StepF.of _ rfl ((digRest 6 vs a0 (by kernel_rfl)).trans eb) (digS_skip hS (fun k hk => by omega)) trivial)
  | 10 =>
    intro ho D vs w4 hS hD hdep
    refine ShutD.out ?_
    obtain ⟨t, p, af, gd, rfl⟩ := dig_part ho (some 253) (.move (.tmp 7)) (by kernel_rfl)
    refine ⟨?_⟩
    exact op_value (ex_move _ _ _ _ _ _ _ _) (StepF.of _ rfl ((digRest 7 vs a0 (by kernel_rfl)).trans ec) (digS_skip hS (fun k hk => by omega)) trivial)
  | 11 =>
    intro ho D vs w4 hS hD hdep
    refine ShutD.out ?_
    obtain ⟨t, p, af, gd, rfl⟩ := dig_part ho (some 254) (.move (.tmp 8)) (by kernel_rfl)
    refine ⟨?_⟩
    exact op_value (ex_move _ _ _ _ _ _ _ _) (StepF.of _ rfl ((digRest 8 vs a0 (by kernel_rfl)).trans ed) (digS_skip hS (fun k hk => by omega)) trivial)
  | 12 =>
    intro ho D vs w4 hS hD hdep
    refine ShutD.out ?_
    obtain ⟨t, p, af, gd, rfl⟩ := dig_part ho (some 255) (.move (.tmp 9)) (by kernel_rfl)
    refine ⟨?_⟩
    exact op_value (ex_move _ _ _ _ _ _ _ _) (StepF.of _ rfl ((digRest 9 vs a0 (by kernel_rfl)).trans ee) (digS_skip hS (fun k hk => by omega)) trivial)
  | 13 =>
    intro ho D vs w4 hS hD hdep
    refine ShutD.out ?_
    obtain ⟨t, p, af, gd, rfl⟩ := dig_part ho (some 256) (.move (.tmp 10)) (by kernel_rfl)
    refine ⟨?_⟩
    exact op_value (ex_move _ _ _ _ _ _ _ _) (StepF.of _ rfl ((digRest 10 vs a0 (by kernel_rfl)).trans ef) (digS_skip hS (fun k hk => by omega)) trivial)
  | 14 =>
    intro ho D vs w4 hS hD hdep
    refine ShutD.out ?_
    obtain ⟨t, p, af, gd, rfl⟩ := dig_part ho (some 257) (.move (.tmp 11)) (by kernel_rfl)
    refine ⟨?_⟩
    exact op_value (ex_move _ _ _ _ _ _ _ _) (StepF.of _ rfl ((digRest 11 vs a0 (by kernel_rfl)).trans eg) (digS_skip hS (fun k hk => by omega)) trivial)
  | 15 =>
    intro ho D vs w4 hS hD hdep
    refine ShutD.out ?_
    obtain ⟨t, p, af, gd, rfl⟩ := dig_part ho (some 258) (.move (.tmp 12)) (by kernel_rfl)
    refine ⟨?_⟩
    exact op_value (ex_move _ _ _ _ _ _ _ _) (StepF.of _ rfl ((digRest 12 vs a0 (by kernel_rfl)).trans eh) (digS_skip hS (fun k hk => by omega)) trivial)
  | 16 =>
    intro ho D vs w4 hS hD hdep
    have d0 := hdep 0 (dig_dep ho 0 (by kernel_rfl)) (by kernel_rfl)
    have d0 := digF_a (k := 0) d0 (by decide)
    refine ShutD.out ?_
    obtain ⟨t, p, af, gd, rfl⟩ := dig_part ho (some 259) (.nilCheck (.tmp 243)) (by kernel_rfl)
    refine ⟨?_⟩
    exact op_value (ex_nil _ _ _ _ _ _ _ _ ⟨g, 0, none⟩ ((dAt hsz 0 243 vs (by kernel_rfl)).trans d0)) (StepF.of _ rfl rfl (digS_skip hS (fun k hk => by omega)) trivial)
  | 17 =>
    intro ho D vs w4 hS hD hdep
    have d16 := hdep 16 (dig_dep ho 16 (by kernel_rfl)) (by kernel_rfl)
    have d16 := digF_d (k := 0) d16 (by decide)
    refine ShutD.out ?_
    obtain ⟨t, p, af, gd, rfl⟩ := dig_part ho (some 260) (.fieldAddr 215 (.tmp 259) 0) (by kernel_rfl)
    refine ⟨?_⟩
    exact op_value (ex_field _ _ _ _ _ _ _ _ g ((dAt hsz 16 259 vs (by kernel_rfl)).trans d16)) (StepF.of _ rfl rfl (digS_skip hS (fun k hk => by omega)) trivial)
  | 18 =>
    intro ho D vs w4 hS hD hdep
    have d17 := hdep 17 (dig_dep ho 17 (by kernel_rfl)) (by kernel_rfl)
    have d17 := digF_d (k := 0) d17 (by decide)
    refine ShutD.out ?_
    obtain ⟨t, p, af, gd, rfl⟩ := dig_part ho (some 261) (.indexAddr 173 (.tmp 260) (.const (.int .i64 0))) (by kernel_rfl)
    refine ⟨?_⟩
    exact op_value (ex_index _ _ _ _ _ _ _ _ g 0 (by decide) ((dAt hsz 17 260 vs (by kernel_rfl)).trans d17) rfl) (StepF.of _ rfl rfl (digS_skip hS (fun k hk => by omega)) trivial)
  | 19 =>
    intro ho D vs w4 hS hD hdep
    have d18 := hdep 18 (dig_dep ho 18 (by kernel_rfl)) (by kernel_rfl)
    have d18 := digF_c (k := 0) d18 (by decide)
    have d8 := hdep 8 (dig_dep ho 8 (by kernel_rfl)) (by kernel_rfl)
    have d8 := digF_b (k := 0) d8 (by decide)
    refine ShutD.out ?_
    obtain ⟨t, p, af, gd, rfl⟩ := dig_part ho none (.store 90 (.tmp 261) (.tmp 251)) (by kernel_rfl)
    obtain ⟨⟨ov, hov⟩, hfr⟩ := digS_cell hS 0 (by decide)
    refine ⟨?_⟩
    exact op_skip (ex_store _ _ _ _ _ _ _ _ _ ⟨g, 0, none⟩ _ ov ((dAt hsz 18 261 vs (by kernel_rfl)).trans d18) ((dAt hsz 8 251 vs (by kernel_rfl)).trans d8) hov hfr) (StepF.of undef rfl trivial (digS_put hS 0 (by decide)) trivial)
  | 20 =>
    intro ho D vs w4 hS hD hdep
    have d1 := hdep 1 (dig_dep ho 1 (by kernel_rfl)) (by kernel_rfl)
    have d1 := digF_a (k := 1) d1 (by decide)
    refine ShutD.out ?_
    obtain ⟨t, p, af, gd, rfl⟩ := dig_part ho (some 262) (.nilCheck (.tmp 244)) (by kernel_rfl)
    refine ⟨?_⟩
    exact op_value (ex_nil _ _ _ _ _ _ _ _ ⟨g, 0, none⟩ ((dAt hsz 1 244 vs (by kernel_rfl)).trans d1)) (StepF.of _ rfl rfl (digS_skip hS (fun k hk => by omega)) trivial)
  | 21 =>
    intro ho D vs w4 hS hD hdep
    have d20 := hdep 20 (dig_dep ho 20 (by kernel_rfl)) (by kernel_rfl)
    have d20 := digF_d (k := 1) d20 (by decide)
    refine ShutD.out ?_
    obtain ⟨t, p, af, gd, rfl⟩ := dig_part ho (some 263) (.fieldAddr 215 (.tmp 262) 0) (by kernel_rfl)
    refine ⟨?_⟩
    exact op_value (ex_field _ _ _ _ _ _ _ _ g ((dAt hsz 20 262 vs (by kernel_rfl)).trans d20)) (StepF.of _ rfl rfl (digS_skip hS (fun k hk => by omega)) trivial)
  | 22 =>
    intro ho D vs w4 hS hD hdep
    have d21 := hdep 21 (dig_dep ho 21 (by kernel_rfl)) (by kernel_rfl)
    have d21 := digF_d (k := 1) d21 (by decide)
    refine ShutD.out ?_
    obtain ⟨t, p, af, gd, rfl⟩ := dig_part ho (some 264) (.indexAddr 173 (.tmp 263) (.const (.int .i64 1))) (by kernel_rfl)
    refine ⟨?_⟩
    exact op_value (ex_index _ _ _ _ _ _ _ _ g 1 (by decide) ((dAt hsz 21 263 vs (by kernel_rfl)).trans d21) rfl) (StepF.of _ rfl rfl (digS_skip hS (fun k hk => by omega)) trivial)
  | 23 =>
    intro ho D vs w4 hS hD hdep
    have d22 := hdep 22 (dig_dep ho 22 (by kernel_rfl)) (by kernel_rfl)
    have d22 := digF_c (k := 1) d22 (by decide)
    have d9 := hdep 9 (dig_dep ho 9 (by kernel_rfl)) (by kernel_rfl)
    have d9 := digF_b (k := 1) d9 (by decide)
    refine ShutD.out ?_
    obtain ⟨t, p, af, gd, rfl⟩ := dig_part ho none (.store 90 (.tmp 264) (.tmp 252)) (by kernel_rfl)
    obtain ⟨⟨ov, hov⟩, hfr⟩ := digS_cell hS 1 (by decide)
    refine ⟨?_⟩
    exact op_skip (ex_store _ _ _ _ _ _ _ _ _ ⟨g, 1, none⟩ _ ov ((dAt hsz 22 264 vs (by kernel_rfl)).trans d22) ((dAt hsz 9 252 vs (by kernel_rfl)).trans d9) hov hfr) (StepF.of undef rfl trivial (digS_put hS 1 (by decide)) trivial)
  | 24 =>
    intro ho D vs w4 hS hD hdep
    have d2 := hdep 2 (dig_dep ho 2 (by kernel_rfl)) (by kernel_rfl)
    have d2 := digF_a (k := 2) d2 (by decide)
    refine ShutD.out ?_
    obtain ⟨t, p, af, gd, rfl⟩ := dig_part ho (some 265) (.nilCheck (.tmp 245)) (by kernel_rfl)
    refine ⟨?_⟩
    exact op_value (ex_nil _ _ _ _ _ _ _ _ ⟨g, 0, none⟩ ((dAt hsz 2 245 vs (by kernel_rfl)).trans d2)) (StepF.of _ rfl rfl (digS_skip hS (fun k hk => by omega)) trivial)
  | 25 =>
    intro ho D vs w4 hS hD hdep
    have d24 := hdep 24 (dig_dep ho 24 (by kernel_rfl)) (by kernel_rfl)
    have d24 := digF_d (k := 2) d24 (by decide)
    refine ShutD.out ?_
    obtain ⟨t, p, af, gd, rfl⟩ := dig_part ho (some 266) (.fieldAddr 215 (.tmp 265) 0) (by kernel_rfl)
    refine ⟨?_⟩
    exact op_value (ex_field _ _ _ _ _ _ _ _ g ((dAt hsz 24 265 vs (by kernel_rfl)).trans d24)) (StepF.of _ rfl rfl (digS_skip hS (fun k hk => by omega)) trivial)
  | 26 =>
    intro ho D vs w4 hS hD hdep
    have d25 := hdep 25 (dig_dep ho 25 (by kernel_rfl)) (by kernel_rfl)
    have d25 := digF_d (k := 2) d25 (by decide)
    refine ShutD.out ?_
    obtain ⟨t, p, af, gd, rfl⟩ := dig_part ho (some 267) (.indexAddr 173 (.tmp 266) (.const (.int .i64 2))) (by kernel_rfl)
    refine ⟨?_⟩
    exact op_value (ex_index _ _ _ _ _ _ _ _ g 2 (by decide) ((dAt hsz 25 266 vs (by kernel_rfl)).trans d25) rfl) (StepF.of _ rfl rfl (digS_skip hS (fun k hk => by omega)) trivial)
  | 27 =>
    intro ho D vs w4 hS hD hdep
    have d26 := hdep 26 (dig_dep ho 26 (by kernel_rfl)) (by kernel_rfl)
    have d26 := digF_c (k := 2) d26 (by decide)
    have d10 := hdep 10 (dig_dep ho 10 (by kernel_rfl)) (by kernel_rfl)
    have d10 := digF_b (k := 2) d10 (by decide)
    refine ShutD.out ?_
    obtain ⟨t, p, af, gd, rfl⟩ := dig_part ho none (.store 90 (.tmp 267) (.tmp 253)) (by kernel_rfl)
    obtain ⟨⟨ov, hov⟩, hfr⟩ := digS_cell hS 2 (by decide)
    refine ⟨?_⟩
    exact op_skip (ex_store _ _ _ _ _ _ _ _ _ ⟨g, 2, none⟩ _ ov ((dAt hsz 26 267 vs (by kernel_rfl)).trans d26) ((dAt hsz 10 253 vs (by kernel_rfl)).trans d10) hov hfr) (StepF.of undef rfl trivial (digS_put hS 2 (by decide)) trivial)
  | 28 =>
    intro ho D vs w4 hS hD hdep
    have d3 := hdep 3 (dig_dep ho 3 (by kernel_rfl)) (by kernel_rfl)
    have d3 := digF_a (k := 3) d3 (by decide)
    refine ShutD.out ?_
    obtain ⟨t, p, af, gd, rfl⟩ := dig_part ho (some 268) (.nilCheck (.tmp 246)) (by kernel_rfl)
    refine ⟨?_⟩
    exact op_value (ex_nil _ _ _ _ _ _ _ _ ⟨g, 0, none⟩ ((dAt hsz 3 246 vs (by kernel_rfl)).trans d3)) (StepF.of _ rfl rfl (digS_skip hS (fun k hk => by omega)) trivial)
  | 29 =>
    intro ho D vs w4 hS hD hdep
    have d28 := hdep 28 (dig_dep ho 28 (by kernel_rfl)) (by kernel_rfl)
    have d28 := digF_d (k := 3) d28 (by decide)
    refine ShutD.out ?_
    obtain ⟨t, p, af, gd, rfl⟩ := dig_part ho (some 269) (.fieldAddr 215 (.tmp 268) 0) (by kernel_rfl)
    refine ⟨?_⟩
    exact op_value (ex_field _ _ _ _ _ _ _ _ g ((dAt hsz 28 268 vs (by kernel_rfl)).trans d28)) (StepF.of _ rfl rfl (digS_skip hS (fun k hk => by omega)) trivial)
  | 30 =>
    intro ho D vs w4 hS hD hdep
    have d29 := hdep 29 (dig_dep ho 29 (by kernel_rfl)) (by kernel_rfl)
    have d29 := digF_d (k := 3) d29 (by decide)
    refine ShutD.out ?_
    obtain ⟨t, p, af, gd, rfl⟩ := dig_part ho (some 270) (.indexAddr 173 (.tmp 269) (.const (.int .i64 3))) (by kernel_rfl)
    refine ⟨?_⟩
    exact op_value (ex_index _ _ _ _ _ _ _ _ g 3 (by decide) ((dAt hsz 29 269 vs (by kernel_rfl)).trans d29) rfl) (StepF.of _ rfl rfl (digS_skip hS (fun k hk => by omega)) trivial)
  | 31 =>
    intro ho D vs w4 hS hD hdep
    have d30 := hdep 30 (dig_dep ho 30 (by kernel_rfl)) (by kernel_rfl)
    have d30 := digF_c (k := 3) d30 (by decide)
    have d11 := hdep 11 (dig_dep ho 11 (by kernel_rfl)) (by kernel_rfl)
    have d11 := digF_b (k := 3) d11 (by decide)
    refine ShutD.out ?_
    obtain ⟨t, p, af, gd, rfl⟩ := dig_part ho none (.store 90 (.tmp 270) (.tmp 254)) (by kernel_rfl)
    obtain ⟨⟨ov, hov⟩, hfr⟩ := digS_cell hS 3 (by decide)
    refine ⟨?_⟩
    exact op_skip (ex_store _ _ _ _ _ _ _ _ _ ⟨g, 3, none⟩ _ ov ((dAt hsz 30 270 vs (by kernel_rfl)).trans d30) ((dAt hsz 11 254 vs (by kernel_rfl)).trans d11) hov hfr) (StepF.of undef rfl trivial (digS_put hS 3 (by decide)) trivial)
  | 32 =>
    intro ho D vs w4 hS hD hdep
    have d4 := hdep 4 (dig_dep ho 4 (by kernel_rfl)) (by kernel_rfl)
    have d4 := digF_a (k := 4) d4 (by decide)
    refine ShutD.out ?_
    obtain ⟨t, p, af, gd, rfl⟩ := dig_part ho (some 271) (.nilCheck (.tmp 247)) (by kernel_rfl)
    refine ⟨?_⟩
    exact op_value (ex_nil _ _ _ _ _ _ _ _ ⟨g, 0, none⟩ ((dAt hsz 4 247 vs (by kernel_rfl)).trans d4)) (StepF.of _ rfl rfl (digS_skip hS (fun k hk => by omega)) trivial)
  | 33 =>
    intro ho D vs w4 hS hD hdep
    have d32 := hdep 32 (dig_dep ho 32 (by kernel_rfl)) (by kernel_rfl)
    have d32 := digF_d (k := 4) d32 (by decide)
    refine ShutD.out ?_
    obtain ⟨t, p, af, gd, rfl⟩ := dig_part ho (some 272) (.fieldAddr 215 (.tmp 271) 0) (by kernel_rfl)
    refine ⟨?_⟩
    exact op_value (ex_field _ _ _ _ _ _ _ _ g ((dAt hsz 32 271 vs (by kernel_rfl)).trans d32)) (StepF.of _ rfl rfl (digS_skip hS (fun k hk => by omega)) trivial)
  | 34 =>
    intro ho D vs w4 hS hD hdep
    have d33 := hdep 33 (dig_dep ho 33 (by kernel_rfl)) (by kernel_rfl)
    have d33 := digF_d (k := 4) d33 (by decide)
    refine ShutD.out ?_
    obtain ⟨t, p, af, gd, rfl⟩ := dig_part ho (some 273) (.indexAddr 173 (.tmp 272) (.const (.int .i64 4))) (by kernel_rfl)
    refine ⟨?_⟩
    exact op_value (ex_index _ _ _ _ _ _ _ _ g 4 (by decide) ((dAt hsz 33 272 vs (by kernel_rfl)).trans d33) rfl) (StepF.of _ rfl rfl (digS_skip hS (fun k hk => by omega)) trivial)
  | 35 =>
    intro ho D vs w4 hS hD hdep
    have d34 := hdep 34 (dig_dep ho 34 (by kernel_rfl)) (by kernel_rfl)
    have d34 := digF_c (k := 4) d34 (by decide)
    have d12 := hdep 12 (dig_dep ho 12 (by kernel_rfl)) (by kernel_rfl)
    have d12 := digF_b (k := 4) d12 (by decide)
    refine ShutD.out ?_
    obtain ⟨t, p, af, gd, rfl⟩ := dig_part ho none (.store 90 (.tmp 273) (.tmp 255)) (by kernel_rfl)
    obtain ⟨⟨ov, hov⟩, hfr⟩ := digS_cell hS 4 (by decide)
    refine ⟨?_⟩
    exact op_skip (ex_store _ _ _ _ _ _ _ _ _ ⟨g, 4, none⟩ _ ov ((dAt hsz 34 273 vs (by kernel_rfl)).trans d34) ((dAt hsz 12 255 vs (by kernel_rfl)).trans d12) hov hfr) (StepF.of undef rfl trivial (digS_put hS 4 (by decide)) trivial)
  | 36 =>
    intro ho D vs w4 hS hD hdep
    have d5 := hdep 5 (dig_dep ho 5 (by kernel_rfl)) (by kernel_rfl)
    have d5 := digF_a (k := 5) d5 (by decide)
    refine ShutD.out ?_
    obtain ⟨t, p, af, gd, rfl⟩ := dig_part ho (some 274) (.nilCheck (.tmp 248)) (by kernel_rfl)
    refine ⟨?_⟩
    exact op_value (ex_nil _ _ _ _ _ _ _ _ ⟨g, 0, none⟩ ((dAt hsz 5 248 vs (by kernel_rfl)).trans d5)) (StepF.of _ rfl rfl (digS_skip hS (fun k hk => by omega)) trivial)
  | 37 =>
    intro ho D vs w4 hS hD hdep
    have d36 := hdep 36 (dig_dep ho 36 (by kernel_rfl)) (by kernel_rfl)
    have d36 := digF_d (k := 5) d36 (by decide)
    refine ShutD.out ?_
    obtain ⟨t, p, af, gd, rfl⟩ := dig_part ho (some 275) (.fieldAddr 215 (.tmp 274) 0) (by kernel_rfl)
    refine ⟨?_⟩
    exact op_value (ex_field _ _ _ _ _ _ _ _ g ((dAt hsz 36 274 vs (by kernel_rfl)).trans d36)) (StepF.of _ rfl rfl (digS_skip hS (fun k hk => by omega)) trivial)
  | 38 =>
    intro ho D vs w4 hS hD hdep
    have d37 := hdep 37 (dig_dep ho 37 (by kernel_rfl)) (by kernel_rfl)
    have d37 := digF_d (k := 5) d37 (by decide)
    refine ShutD.out ?_
    obtain ⟨t, p, af, gd, rfl⟩ := dig_part ho (some 276) (.indexAddr 173 (.tmp 275) (.const (.int .i64 5))) (by kernel_rfl)
    refine ⟨?_⟩
    exact op_value (ex_index _ _ _ _ _ _ _ _ g 5 (by decide) ((dAt hsz 37 275 vs (by kernel_rfl)).trans d37) rfl) (StepF.of _ rfl rfl (digS_skip hS (fun k hk => by omega)) trivial)
  | 39 =>
    intro ho D vs w4 hS hD hdep
    have d38 := hdep 38 (dig_dep ho 38 (by kernel_rfl)) (by kernel_rfl)
    have d38 := digF_c (k := 5) d38 (by decide)
    have d13 := hdep 13 (dig_dep ho 13 (by kernel_rfl)) (by kernel_rfl)
    have d13 := digF_b (k := 5) d13 (by decide)
    refine ShutD.out ?_
    obtain ⟨t, p, af, gd, rfl⟩ := dig_part ho none (.store 90 (.tmp 276) (.tmp 256)) (by kernel_rfl)
    obtain ⟨⟨ov, hov⟩, hfr⟩ := digS_cell hS 5 (by decide)
    refine ⟨?_⟩
    exact op_skip (ex_store _ _ _ _ _ _ _ _ _ ⟨g, 5, none⟩ _ ov ((dAt hsz 38 276 vs (by kernel_rfl)).trans d38) ((dAt hsz 13 256 vs (by kernel_rfl)).trans d13) hov hfr) (StepF.of undef rfl trivial (digS_put hS 5 (by decide)) trivial)
  | 40 =>
    intro ho D vs w4 hS hD hdep
    have d6 := hdep 6 (dig_dep ho 6 (by kernel_rfl)) (by kernel_rfl)
    have d6 := digF_a (k := 6) d6 (by decide)
    refine ShutD.out ?_
    obtain ⟨t, p, af, gd, rfl⟩ := dig_part ho (some 277) (.nilCheck (.tmp 249)) (by kernel_rfl)
    refine ⟨?_⟩
    exact op_value (ex_nil _ _ _ _ _ _ _ _ ⟨g, 0, none⟩ ((dAt hsz 6 249 vs (by kernel_rfl)).trans d6)) (StepF.of _ rfl rfl (digS_skip hS (fun k hk => by omega)) trivial)
  | 41 =>
    intro ho D vs w4 hS hD hdep
    have d40 := hdep 40 (dig_dep ho 40 (by kernel_rfl)) (by kernel_rfl)
    have d40 := digF_d (k := 6) d40 (by decide)
    refine ShutD.out ?_
    obtain ⟨t, p, af, gd, rfl⟩ := dig_part ho (some 278) (.fieldAddr 215 (.tmp 277) 0) (by kernel_rfl)
    refine ⟨?_⟩
    exact op_value (ex_field _ _ _ _ _ _ _ _ g ((dAt hsz 40 277 vs (by kernel_rfl)).trans d40)) (StepF.of _ rfl rfl (digS_skip hS (fun k hk => by omega)) trivial)
  | 42 =>
    intro ho D vs w4 hS hD hdep
    have d41 := hdep 41 (dig_dep ho 41 (by kernel_rfl)) (by kernel_rfl)
    have d41 := digF_d (k := 6) d41 (by decide)
    refine ShutD.out ?_
    obtain ⟨t, p, af, gd, rfl⟩ := dig_part ho (some 279) (.indexAddr 173 (.tmp 278) (.const (.int .i64 6))) (by kernel_rfl)
    refine ⟨?_⟩
    exact op_value (ex_index _ _ _ _ _ _ _ _ g 6 (by decide) ((dAt hsz 41 278 vs (by kernel_rfl)).trans d41) rfl) (StepF.of _ rfl rfl (digS_skip hS (fun k hk => by omega)) trivial)
  | 43 =>
    intro ho D vs w4 hS hD hdep
    have d42 := hdep 42 (dig_dep ho 42 (by kernel_rfl)) (by kernel_rfl)
    have d42 := digF_c (k := 6) d42 (by decide)
    have d14 := hdep 14 (dig_dep ho 14 (by kernel_rfl)) (by kernel_rfl)
    have d14 := digF_b (k := 6) d14 (by decide)
    refine ShutD.out ?_
    obtain ⟨t, p, af, gd, rfl⟩ := dig_part ho none (.store 90 (.tmp 279) (.tmp 257)) (by kernel_rfl)
    obtain ⟨⟨ov, hov⟩, hfr⟩ := digS_cell hS 6 (by decide)
    refine ⟨?_⟩
    exact op_skip (ex_store _ _ _ _ _ _ _ _ _ ⟨g, 6, none⟩ _ ov ((dAt hsz 42 279 vs (by kernel_rfl)).trans d42) ((dAt hsz 14 257 vs (by kernel_rfl)).trans d14) hov hfr) (StepF.of undef rfl trivial (digS_put hS 6 (by decide)) trivial)
  | 44 =>
    intro ho D vs w4 hS hD hdep
    have d7 := hdep 7 (dig_dep ho 7 (by kernel_rfl)) (by kernel_rfl)
    have d7 := digF_a (k := 7) d7 (by decide)
    refine ShutD.out ?_
    obtain ⟨t, p, af, gd, rfl⟩ := dig_part ho (some 280) (.nilCheck (.tmp 250)) (by kernel_rfl)
    refine ⟨?_⟩
    exact op_value (ex_nil _ _ _ _ _ _ _ _ ⟨g, 0, none⟩ ((dAt hsz 7 250 vs (by kernel_rfl)).trans d7)) (StepF.of _ rfl rfl (digS_skip hS (fun k hk => by omega)) trivial)
  | 45 =>
    intro ho D vs w4 hS hD hdep
    have d44 := hdep 44 (dig_dep ho 44 (by kernel_rfl)) (by kernel_rfl)
    have d44 := digF_d (k := 7) d44 (by decide)
    refine ShutD.out ?_
    obtain ⟨t, p, af, gd, rfl⟩ := dig_part ho (some 281) (.fieldAddr 215 (.tmp 280) 0) (by kernel_rfl)
    refine ⟨?_⟩
    exact op_value (ex_field _ _ _ _ _ _ _ _ g ((dAt hsz 44 280 vs (by kernel_rfl)).trans d44)) (StepF.of _ rfl rfl (digS_skip hS (fun k hk => by omega)) trivial)
  | 46 =>
    intro ho D vs w4 hS hD hdep
    have d45 := hdep 45 (dig_dep ho 45 (by kernel_rfl)) (by kernel_rfl)
    have d45 := digF_d (k := 7) d45 (by decide)
    refine ShutD.out ?_
    obtain ⟨t, p, af, gd, rfl⟩ := dig_part ho (some 282) (.indexAddr 173 (.tmp 281) (.const (.int .i64 7))) (by kernel_rfl)
    refine ⟨?_⟩
    exact op_value (ex_index _ _ _ _ _ _ _ _ g 7 (by decide) ((dAt hsz 45 281 vs (by kernel_rfl)).trans d45) rfl) (StepF.of _ rfl rfl (digS_skip hS (fun k hk => by omega)) trivial)
  | 47 =>
    intro ho D vs w4 hS hD hdep
    have d46 := hdep 46 (dig_dep ho 46 (by kernel_rfl)) (by kernel_rfl)
    have d46 := digF_c (k := 7) d46 (by decide)
    have d15 := hdep 15 (dig_dep ho 15 (by kernel_rfl)) (by kernel_rfl)
    have d15 := digF_b (k := 7) d15 (by decide)
    refine ShutD.out ?_
    obtain ⟨t, p, af, gd, rfl⟩ := dig_part ho none (.store 90 (.tmp 282) (.tmp 258)) (by kernel_rfl)
    obtain ⟨⟨ov, hov⟩, hfr⟩ := digS_cell hS 7 (by decide)
    refine ⟨?_⟩
    exact op_skip (ex_store _ _ _ _ _ _ _ _ _ ⟨g, 7, none⟩ _ ov ((dAt hsz 46 282 vs (by kernel_rfl)).trans d46) ((dAt hsz 15 258 vs (by kernel_rfl)).trans d15) hov hfr) (StepF.of undef rfl trivial (digS_put hS 7 (by decide)) trivial)
  | k + 48 =>
    intro ho
    rw [Array.getElem?_eq_none (by rw [digOps_size]; omega)] at ho
    cases ho
theorem dig_region {Q : Exit → Act → World → Prop} {a0 : Act} {wr : World} {g : Nat} {h0 s : St} {x : List UInt8} {nx len : Nat} (hsz : a0.tmps.size = 283) (e0 : a0.eval (.tmp 0) = .pointer (some ⟨g, 0, none⟩))
    (ea : a0.eval (.tmp 5) = .int .u32 (s.a.toNat : Int)) (eb : a0.eval (.tmp 6) = .int .u32 (s.b.toNat : Int)) (ec : a0.eval (.tmp 7) = .int .u32 (s.c.toNat : Int)) (ed : a0.eval (.tmp 8) = .int .u32 (s.d.toNat : Int)) (ee : a0.eval (.tmp 9) = .int .u32 (s.e.toNat : Int)) (ef : a0.eval (.tmp 10) = .int .u32 (s.f.toNat : Int)) (eg : a0.eval (.tmp 11) = .int .u32 (s.g.toNat : Int)) (eh : a0.eval (.tmp 12) = .int .u32 (s.h.toNat : Int))
    (hb : Blk wr g 215 (dgC h0 x nx len)) (hend : ∀ (a : Act) (w' : World), a.defers = a0.defers → a.tmps.size = 283 → Blk w' g 215 (dgC s x nx len) → wr.grownBy w' (some g) → Q .normal a w') :
    (Code.region 35 digOps true).wp Tryd.prog Q a0 wr := by
  refine wp_region_factsS (digF g s) (fun _ _ => True) (fun i v w w' h _ => h) (digS wr g h0 s x nx len) (by kernel_rfl) (by rw [hsz]; exact digOps_reg) ?_ (dig_hop hsz e0 ea eb ec ed ee ef eg eh) ?_
  · refine ⟨⟨rfl, rfl, rfl, Nat.le_refl _, fun _ _ _ => rfl⟩, dgC h0 x nx len, hb.drew, fun i => ?_⟩
    simp
  · intro vs w4 hS _
    obtain ⟨hbl, hgr⟩ := digS_end (by rw [digOps_size]; omega) hS
    exact hend _ _ (putL_defers _ _ _ _) (by rw [putL_size]; exact hsz) hbl hgr
end Go.Proofs.YtikikddkhikfkaaDoor
