/-
  FnSums: the world's shape while both sums are made: two boxed variables, the reference's commit, two rows of what is said. By the session. laws.FnSums: its last region, which draws its order: both sums of the commit, both of the header, compared as strings. Printed by gen_lsend.py. By the session.
-/
import Derived.Test.YtikikddkhikfkaaDoorSu33
import Derived.Test.YtikikddkhikfkaaDoorSu30
import Derived.Test.YtikikddkhikfkaaDoorSu10
import Derived.Laws.Rows
import Derived.Laws.CopyOwn
import Derived.Test.YtikikddkhikfkaaDoorSu12
import Derived.Deep.Cut
set_option linter.all false
namespace Go.Proofs.YtikikddkhikfkaaDoor
open Go.RowKit

theorem conv_row {w : World} {B m c : Nat} {A : Option Addr} {l : List UInt8} (h : Rd w B 1 A m (bc l)) : (convert 22 9 (.slice A m c)).run Tryd.prog w = .ok (.string ⟨l.toArray⟩) w := by
  have hm := h.len1
  subst hm
  cases A with
  | none =>
    have hl : l = [] := by
      cases l with
      | nil => rfl
      | cons x r =>
        obtain ⟨ad, e, _⟩ := h.2 0 _ (bc_get (show (x :: r)[0]? = some x from rfl))
        cases e
    subst hl
    exact run_convert_bytes_nil w 22 5 Tryd.underlying22 Tryd.underlying5 _ c 9 Tryd.underlying9
  | some ad =>
    refine run_convert_bytes_back w _ _ 5 ad c l Tryd.underlying22 Tryd.underlying5 Tryd.underlying9 fun j hj => ?_
    obtain ⟨ad', e, _, hc⟩ := h.2 j _ (bc_get (List.getElem?_eq_getElem hj))
    obtain rfl := Option.some.inj e
    exact hc
theorem Rd.below' {w w' : World} {size n : Nat} {A : Option Addr} {xs : List Value} (h : Rd w w.heap.size size A n xs) (hb : Below w.heap.size w w') : Rd w' w'.heap.size size A n xs := (h.below hb).more hb.size
section
variable {P : Program} {ops : Array Oper} {Q : Exit → Act → World → Prop} {S S' : World → Prop} {md : Region.Mode} {s : Nat}
theorem wpAnyL_imp (hS : ∀ w, S w → S' w) : ∀ {fuel : Nat} {listed : Array Bool} {a : Act} {w : World}, wpAnyL P md ops Q S s fuel listed a w → wpAnyL P md ops Q S' s fuel listed a w
  | 0, _, _, _, h => h
  | fuel + 1, _, _, _, h => ⟨h.1, fun i hi => wpOp_mono (fun _ _ h' => ⟨fun hne => hS _ (h'.1 hne), wpAnyL_imp hS h'.2⟩) (h.2 i hi)⟩
end
section
variable {P : Program} {w : World}
theorem exec_load_row {o : Oper} {a : Act} (ty : TypeId) (x : Operand) (ho : o.op = .load ty x) (g : Nat) (hx : a.eval x = .pointer (some ⟨g, 0, none⟩)) (t : TypeId) (cs : Array Value) (d : TypeDesc) (hg : Blk w g t cs)
    (hu : P.underlying ty = some d) (hd : (match d with | .struct _ | .array _ _ => true | _ => false) = true) (hi : (P.info? ty).map (·.size) = some cs.size) : (execOp a.eval o).run P w = .ok (.value (.agg cs)) w := by
  unfold execOp
  simp only [ho, hx, Instr.loadAt, Instr.sureAddr, Sem.run_bind, Sem.run_pure, Result.andThen_ok, run_loadVar_row w g t ty cs (0, 0) d hg hu hd hi]
theorem wpList_build_to {ops : Array Oper} {rest : List Oper} {o : Oper} {a : Act} {Q : Exit → Act → World → Prop} (hg : o.guard = none) (t : TypeId) (parts : Array (Nat × Operand)) (ho : o.op = .build t parts) (cs : Array Value)
    (hf : P.built t (parts.toList.map fun x => (x.1, a.eval x.2)) = some cs) (h : wpList P ops Q rest (a.put o.dst (.agg cs)) w) : wpList P ops Q (o :: rest) a w := by
  have e : (parts.map fun (i, x) => (i, a.eval x)).toList = parts.toList.map fun x => (x.1, a.eval x.2) := by rw [Array.toList_map]
  exact wpList_build hg t parts ho (by rw [e, hf]; rfl) (by rw [e, hf]; exact h)
theorem wpList_load_row_on {ops : Array Oper} {rest : List Oper} {o : Oper} {a : Act} {Q : Exit → Act → World → Prop} (hw : Region.wanted o (yielded ops a.tmps) = true) (ty : TypeId) (x : Operand) (ho : o.op = .load ty x)
    (g : Nat) (hx : a.eval x = .pointer (some ⟨g, 0, none⟩)) (t : TypeId) (cs : Array Value) (d : TypeDesc) (hg : Blk w g t cs)
    (hu : P.underlying ty = some d) (hd : (match d with | .struct _ | .array _ _ => true | _ => false) = true) (hi : (P.info? ty).map (·.size) = some cs.size)
    (h : wpList P ops Q rest (a.put o.dst (.agg cs)) w) : wpList P ops Q (o :: rest) a w := by
  unfold wpList
  rw [if_pos hw]
  exact .inl (wp_load_row ty x ho g hx t cs (0, 0) d hg hu hd hi h)
end
theorem build_header (v0 v1 v3 v4 v5 v7 : Int) (s2 s17 : ByteArray) (A B : Option Addr) (a b c d : Nat) (a0 : Option Addr) (n0 c0 : Nat) (a1 : Option Addr) (n1 c1 : Nat) (a2 : Option Addr) (n2 c2 : Nat) (a3 : Option Addr) (n3 c3 : Nat) (a4 : Option Addr) (n4 c4 : Nat) (a5 : Option Addr) (n5 c5 : Nat) (a6 : Option Addr) (n6 c6 : Nat) (a7 : Option Addr) (n7 c7 : Nat) : Tryd.prog.built 43 [(0, .int .i64 v0), (1, .int .i64 v1), (2, .string s2), (3, .int .i64 v3), (4, .agg #[.int .i64 v4, .int .i64 v5]), (5, .agg #[.slice A a b, .int .i64 v7, .slice B c d]), (6, .agg #[.slice a0 n0 c0, .slice a1 n1 c1, .slice a2 n2 c2, .slice a3 n3 c3, .slice a4 n4 c4, .slice a5 n5 c5, .slice a6 n6 c6, .slice a7 n7 c7]), (7, .string s17)] = some #[.int .i64 v0, .int .i64 v1, .string s2, .int .i64 v3, .int .i64 v4, .int .i64 v5, .slice A a b, .int .i64 v7, .slice B c d, .slice a0 n0 c0, .slice a1 n1 c1, .slice a2 n2 c2, .slice a3 n3 c3, .slice a4 n4 c4, .slice a5 n5 c5, .slice a6 n6 c6, .slice a7 n7 c7, .string s17] := by kernel_rfl
/-- two boxed variables behind w -/
def SS (w : World) (cs hs : Array Value) (w' : World) : Prop := Blk w' w.heap.size 27 cs ∧ Blk w' (w.heap.size + 1) 32 hs ∧ Below w.heap.size w w'
theorem SS.call {w w1 w2 : World} {cs hs : Array Value} (h : SS w cs hs w1) (hb : Below w1.heap.size w1 w2) : SS w cs hs w2 := ⟨h.1.belowS hb, h.2.1.belowS hb, h.2.2.trans (hb.mono (Nat.le_of_lt h.1.lt))⟩
theorem SS.start (w : World) (cs hs : Array Value) : SS w cs hs ((w.alloc (.cells cs 27)).alloc (.cells hs 32)) :=
  ⟨(Blk.new _ _ _).alloc _, by have := Blk.new (w.alloc (.cells cs 27)) 32 hs; simpa using this, ((Below.refl _ _).alloc (Nat.le_refl _) _).alloc (by simp) _⟩
/-- a row that does not lie in block g (or is none) -/
def Apart (A : Option Addr) (xs : List Value) (g : Nat) : Prop := xs = [] ∨ ∀ ad, A = some ad → ad.block ≠ g
theorem Rd.apart {w w' : World} {B g size n : Nat} {A : Option Addr} {xs : List Value} (h : Rd w B size A n xs) (ho : Other g w w') (hB : B ≤ w.heap.size) (hg : Apart A xs g) : Rd w' w'.heap.size size A n xs := by
  rcases hg with hg | hg
  · subst hg; exact ⟨h.1, fun j u hu => by simp at hu⟩
  · exact Rd.other h ho hB hg
/-- the signs' row does not lie in the commit's block -/
theorem signs_apart {w : World} {B g n : Nat} {A A' : Option Addr} {l : List Sg} {t : TypeId} {h r p : Int} {S R : Option Addr} {a b c d e f : Nat} (hr : Rd w B 5 A n (signsOf l)) (hb : Blk w g t #[.int .i64 h, .int .i64 r, .slice S a b, .int .i64 p, .slice R c d, .slice A' e f]) : Apart A (signsOf l) g := by
  cases l with
  | nil => exact .inl rfl
  | cons x l => exact .inr (signs_not_in hr hb (by have := Rd.slen hr; simp at this; omega))
/-- nor in the header's -/
theorem signs_apart_head {w : World} {B g n : Nat} {A : Option Addr} {l : List Sg} {t : TypeId} {y : Hd} {ver app hgt sec nan parts : Int} (hr : Rd w B 5 A n (signsOf l)) (hb : Blk w g t (y.raw ver app hgt sec nan parts)) : Apart A (signsOf l) g := by
  cases l with
  | nil => exact .inl rfl
  | cons x l =>
    refine .inr fun ad hA he => ?_
    have key : ∀ (j : Nat) (u : Value), 0 < j → (signsOf (x :: l))[j]? = some u → (y.raw ver app hgt sec nan parts)[ad.off + j]? = some u := by
      intro j u hj hu
      obtain ⟨ad', hA', _, hc⟩ := hr.2 j u hu
      rw [hA] at hA'
      obtain rfl := Option.some.inj hA'
      have e : ad.add j = ⟨g, ad.off + j, none⟩ := by
        unfold Addr.add
        rw [if_neg (by omega), ← he]
      rw [e, hb.cell] at hc
      exact hc
    have h1 := key 1 (.string x.adr) (by omega) ((flat_get Sg.cells 5 Sg.cells_length (x :: l) 0 1 x rfl (by omega)).trans rfl)
    have h4 := key 4 (.slice x.S x.sig.length x.sc) (by omega) ((flat_get Sg.cells 5 Sg.cells_length (x :: l) 0 4 x rfl (by omega)).trans rfl)
    unfold Hd.raw at h1 h4
    generalize ad.off = o at h1 h4
    match o with
    | 0 | 2 | 3 | 4 | 5 | 6 | 7 | 8 | 9 | 10 | 11 | 12 | 13 | 14 | 15 => simp at h1
    | 1 => simp at h4
    | 16 => simp at h4
    | k + 17 => simp at h1
/-- the world between the copies and the sums -/
structure SumS (w : World) (g : Nat) (cs hs xs : Array Value) (A1 A2 : Option Addr) (m : Nat) (ls : List Sg) (w' : World) : Prop where
  com : Blk w' w.heap.size 27 cs
  hed : Blk w' (w.heap.size + 1) 32 hs
  ref : Blk w' g 38 xs
  below : Below w.heap.size w w'
  row : Rd w' w'.heap.size 5 A1 m (signsOf ls)
  row2 : Rd w' w'.heap.size 5 A2 m (signsOf ls)
  ap1 : Apart A1 (signsOf ls) (w.heap.size + 1)
  ap2 : Apart A2 (signsOf ls) (w.heap.size + 1)
theorem SumS.call {w : World} {g : Nat} {cs hs xs : Array Value} {A1 A2 : Option Addr} {m : Nat} {ls : List Sg} {w1 w2 : World} (h : SumS w g cs hs xs A1 A2 m ls w1) (hb : Below w1.heap.size w1 w2) : SumS w g cs hs xs A1 A2 m ls w2 :=
  ⟨h.com.belowS hb, h.hed.belowS hb, h.ref.belowS hb, h.below.trans (hb.mono (Nat.le_of_lt h.com.lt)), (h.row.below hb).more hb.size, (h.row2.below hb).more hb.size, h.ap1, h.ap2⟩
theorem SumS.put {w : World} {g : Nat} {cs hs xs : Array Value} {A1 A2 : Option Addr} {m : Nat} {ls : List Sg} {w1 : World} (h : SumS w g cs hs xs A1 A2 m ls w1) (i : Nat) (u : Value) : SumS w g cs (hs.setIfInBounds i u) xs A1 A2 m ls (w1.setCell ⟨w.heap.size + 1, i, none⟩ u) :=
  have ho := (Other.refl (w.heap.size + 1) w1).set i u
  ⟨h.com.far (p := ⟨w.heap.size + 1, i, none⟩) (by show w.heap.size ≠ w.heap.size + 1; omega) u, h.hed.put i u, h.ref.far (p := ⟨w.heap.size + 1, i, none⟩) (Blk.ne h.ref h.hed (by decide)) u, h.below.setCell (p := ⟨w.heap.size + 1, i, none⟩) (Nat.le_succ _) _, h.row.apart ho (Nat.le_refl _) h.ap1, h.row2.apart ho (Nat.le_refl _) h.ap2, h.ap1, h.ap2⟩
/-- behind the tuple of both commits -/
theorem SumS.start {w w6 : World} {hgt rnd p : Int} {S R A : Option Addr} {a b c d n e : Nat} {y : Hd} {ver app hh sec nan parts : Int} {u0 u1 u3 : Int} {c1 c2 m : Nat} {A1 A2 : Option Addr} {ls : List Sg}
    (h : SS w #[.int .i64 hgt, .int .i64 rnd, .slice S a b, .int .i64 p, .slice R c d, .slice A n e] (y.raw ver app hh sec nan parts) w6) (hr1 : Rd w6 w6.heap.size 5 A1 m (signsOf ls)) (hr2 : Rd w6 w6.heap.size 5 A2 m (signsOf ls)) :
    SumS w w6.heap.size #[.int .i64 u0, .int .i64 u1, .slice S a b, .int .i64 u3, .slice R c d, .slice A1 m c1] (y.raw ver app hh sec nan parts) #[.int .i64 u0, .int .i64 u1, .slice S a b, .int .i64 u3, .slice R c d, .slice A2 m c2] A1 A2 m ls
      (storedW w6 38 w.heap.size (.int .i64 u0) (.int .i64 u1) (.slice S a b) (.int .i64 u3) (.slice R c d) (.slice A1 m c1) (.int .i64 u0) (.int .i64 u1) (.slice S a b) (.int .i64 u3) (.slice R c d) (.slice A2 m c2)) := by
  have hst := storedW_facts (t := 38) (u0 := .int .i64 u0) (u1 := .int .i64 u1) (u2 := .slice S a b) (u3 := .int .i64 u3) (u4 := .slice R c d) (u5 := .slice A1 m c1) (v0 := .int .i64 u0) (v1 := .int .i64 u1) (v2 := .slice S a b) (v3 := .int .i64 u3) (v4 := .slice R c d) (v5 := .slice A2 m c2) (t' := 27) (w0 := w) ⟨h.1, h.2.2⟩
  have hlt := h.2.1.lt
  exact ⟨hst.1, (hst.2.2.2.2 (w.heap.size + 1) hlt (by omega)).trans h.2.1, hst.2.1, hst.2.2.1, hr1.apart hst.2.2.2 (Nat.le_refl _) (signs_apart hr1 h.1), hr2.apart hst.2.2.2 (Nat.le_refl _) (signs_apart hr2 h.1), signs_apart_head hr1 h.2.1, signs_apart_head hr2 h.2.1⟩
theorem SumS.start2 {w w6 : World} {hgt rnd p : Int} {S R A : Option Addr} {a b c d n e : Nat} {y : Hd} {ver app hh sec nan parts : Int} {Z C1 X1 : Array Value} {m : Nat} {A1 A2 : Option Addr} {ls : List Sg}
    (h : SS w #[.int .i64 hgt, .int .i64 rnd, .slice S a b, .int .i64 p, .slice R c d, .slice A n e] (y.raw ver app hh sec nan parts) w6) (hr1 : Rd w6 w6.heap.size 5 A1 m (signsOf ls)) (hr2 : Rd w6 w6.heap.size 5 A2 m (signsOf ls)) :
    SumS w w6.heap.size C1 (y.raw ver app hh sec nan parts) X1 A1 A2 m ls (((w6.alloc (.cells Z 38)).setRow w.heap.size C1).setRow w6.heap.size X1) := by
  have hl1 := h.1.lt
  have hl2 := h.2.1.lt
  have ho : Other w.heap.size w6 (((w6.alloc (.cells Z 38)).setRow w.heap.size C1).setRow w6.heap.size X1) :=
    ⟨by rw [setRow_size, setRow_size]; simp, fun k hk hn => (setRow_other _ _ _ _ (by omega)).trans ((setRow_other _ _ _ _ hn).trans (Below.heap_alloc w6 _ k hk))⟩
  refine ⟨(setRow_other _ _ _ _ (by omega)).trans (setRow_heap _ _ _ _ _ _ (h.1.alloc _)), (ho.2 _ hl2 (by omega)).trans h.2.1, setRow_heap _ _ _ _ _ _ ((setRow_other _ _ _ _ (by omega)).trans (Blk.new _ _ _)), below_setRow (below_setRow (h.2.2.alloc (by omega) _) (Nat.le_refl _) _) (by omega) _, hr1.apart ho (Nat.le_refl _) (signs_apart hr1 h.1), hr2.apart ho (Nat.le_refl _) (signs_apart hr2 h.1), signs_apart_head hr1 h.2.1, signs_apart_head hr2 h.2.1⟩
end Go.Proofs.YtikikddkhikfkaaDoor

set_option linter.all false
namespace Go.Proofs.YtikikddkhikfkaaDoor
open Go.RowKit

noncomputable def sumsOps : Array Oper := ((((Tryd.f3.body.map regionsOf).getD []).find? fun x => x.1 == 8).map Prod.snd).getD #[]
set_option maxRecDepth 100000 in
set_option maxHeartbeats 12800000 in
theorem sums_end {Q : Exit → Act → World → Prop} {C : Code} (hC : C = .region 8 sumsOps true) {N g7 g10 : Nat} {ds : List Deferred} {v0 v1 v4 v7 v8 v9 v10 v11 v12 v13 v14 v15 v16 v17 v18 v19 v20 v21 v22 v23 v24 v25 v26 v27 v28 v29 v30 v31 v32 v33 v34 v35 v36 v37 v38 v39 v40 v41 v42 v43 v44 v45 v46 v47 v48 v49 v50 v51 v52 v53 v54 v55 v56 v57 v58 v59 v60 v61 v62 v63 v64 v65 v66 v67 v68 v69 v70 v71 v72 v73 v74 v75 v76 v77 v78 v79 v80 v81 v82 v83 v84 v85 v86 v87 v88 v89 v90 v91 v92 v93 v94 v95 v96 v97 v98 v99 v100 v101 v102 v103 v104 v105 v106 : Value} {CG XG HZ : Array Value} {rt1 rt2 : List UInt8} {w11 : World}
    (hp : ∀ c (a : Act) (d : Option Nat) (v : Value) w, Q (.panic c) (a.put d v) w → Q (.panic c) a w)
    (KC1 : Hid (∀ W, Below w11.heap.size w11 W → Calls Tryd.prog 9 #[.agg CG] W fun e w' => ∃ A' c', e = .returned (.slice A' 32 c') ∧ Rd w' w'.heap.size 1 A' 32 (bc rt1) ∧ Below W.heap.size W w'))
    (KC2 : Hid (∀ W, Below w11.heap.size w11 W → Calls Tryd.prog 10 #[.agg XG] W (MadeQ W rt1)))
    (KC3 : Hid (∀ W, Below w11.heap.size w11 W → Calls Tryd.prog 11 #[.agg HZ] W fun e w' => ∃ A' m c', e = .returned (.slice A' m c') ∧ Rd w' w'.heap.size 1 A' m (bc rt2) ∧ Below W.heap.size W w'))
    (KC4 : Hid (∀ W, Below w11.heap.size w11 W → Calls Tryd.prog 12 #[.agg HZ] W (MadeQ W rt2)))
    (HQ : Hid (∀ W, Below w11.heap.size w11 W → Blk W N 27 CG ∧ Blk W (N + 1) 32 HZ ∧ Blk W g7 38 XG ∧ Blk W g10 43 HZ))
    (hs1 : CG.size = 6) (hs2 : XG.size = 6) (hs3 : HZ.size = 18)
    (h : ∀ (r91 r92 r93 r94 r95 r96 r97 r98 r99 r100 r101 r102 r103 r104 r105 r106 : Value) (w' : World), Below w11.heap.size w11 w' → Q .normal ⟨List.toArray (v0 :: v1 :: (.pointer (some ⟨N, 0, none⟩)) :: (.pointer (some ⟨N + 1, 0, none⟩)) :: (.bool true) :: (.pointer (some ⟨g7, 0, none⟩)) :: (.pointer (some ⟨g10, 0, none⟩)) :: v7 :: v8 :: v9 :: v10 :: v11 :: v12 :: v13 :: v14 :: v15 :: v16 :: v17 :: v18 :: v19 :: v20 :: v21 :: v22 :: v23 :: v24 :: v25 :: v26 :: v27 :: v28 :: v29 :: v30 :: v31 :: v32 :: v33 :: v34 :: v35 :: v36 :: v37 :: v38 :: v39 :: v40 :: v41 :: v42 :: v43 :: v44 :: v45 :: v46 :: v47 :: v48 :: v49 :: v50 :: v51 :: v52 :: v53 :: v54 :: v55 :: v56 :: v57 :: v58 :: v59 :: v60 :: v61 :: v62 :: v63 :: v64 :: v65 :: v66 :: v67 :: v68 :: v69 :: v70 :: v71 :: v72 :: v73 :: v74 :: v75 :: v76 :: v77 :: v78 :: v79 :: v80 :: v81 :: v82 :: v83 :: v84 :: v85 :: v86 :: v87 :: v88 :: v89 :: v90 :: r91 :: r92 :: r93 :: r94 :: r95 :: r96 :: r97 :: r98 :: r99 :: r100 :: r101 :: r102 :: r103 :: r104 :: r105 :: r106 :: []), ds⟩ w') :
    C.wp Tryd.prog Q ⟨List.toArray (v0 :: v1 :: (.pointer (some ⟨N, 0, none⟩)) :: (.pointer (some ⟨N + 1, 0, none⟩)) :: v4 :: (.pointer (some ⟨g7, 0, none⟩)) :: (.pointer (some ⟨g10, 0, none⟩)) :: v7 :: v8 :: v9 :: v10 :: v11 :: v12 :: v13 :: v14 :: v15 :: v16 :: v17 :: v18 :: v19 :: v20 :: v21 :: v22 :: v23 :: v24 :: v25 :: v26 :: v27 :: v28 :: v29 :: v30 :: v31 :: v32 :: v33 :: v34 :: v35 :: v36 :: v37 :: v38 :: v39 :: v40 :: v41 :: v42 :: v43 :: v44 :: v45 :: v46 :: v47 :: v48 :: v49 :: v50 :: v51 :: v52 :: v53 :: v54 :: v55 :: v56 :: v57 :: v58 :: v59 :: v60 :: v61 :: v62 :: v63 :: v64 :: v65 :: v66 :: v67 :: v68 :: v69 :: v70 :: v71 :: v72 :: v73 :: v74 :: v75 :: v76 :: v77 :: v78 :: v79 :: v80 :: v81 :: v82 :: v83 :: v84 :: v85 :: v86 :: v87 :: v88 :: v89 :: v90 :: v91 :: v92 :: v93 :: v94 :: v95 :: v96 :: v97 :: v98 :: v99 :: v100 :: v101 :: v102 :: v103 :: v104 :: v105 :: v106 :: []), ds⟩ w11 := by
  subst hC
  have eo : sumsOps = sumsOps := rfl
  conv at eo =>
    rhs
    whnf
  rw [eo]
  clear eo
  have HS0 : Hid (Below w11.heap.size w11 w11.drew) := Lib.hid (Below.refl _ _).drew
  have HH := Lib.hid h
  clear h
  obtain ⟨s1, he1⟩ : ∃ s : ByteArray, s = ⟨rt1.toArray⟩ := ⟨_, rfl⟩
  obtain ⟨s2, he2⟩ : ∃ s : ByteArray, s = ⟨rt2.toArray⟩ := ⟨_, rfl⟩
  have HE1 := Lib.hid he1; have HE2 := Lib.hid he2
  clear he1 he2
  refine wp_region_L (fun w' : World => Below w11.heap.size w11 w') 16 (by kernel_rfl) ?_
  refine wpAnyL_take 0 (v := .agg CG) rfl (by kernel_rfl) (fun c a w h => hp c a _ _ w h) (yields_on (by kernel_rfl) (fun w' hw' => exec_load_row 27 (.tmp 2) rfl N rfl 27 CG _ ((HQ.out w' hw').1) Tryd.underlying27 rfl (by rw [hs1]; kernel_rfl))) HS0.out ?_
  simp only [Act.put, List.setIfInBounds_toArray, List.set_cons_zero, List.set_cons_succ]
  refine wpAnyL_take 3 (v := .agg XG) rfl (by kernel_rfl) (fun c a w h => hp c a _ _ w h) (yields_on (by kernel_rfl) (fun w' hw' => exec_load_row 38 (.tmp 5) rfl g7 rfl 38 XG _ ((HQ.out w' hw').2.2.1) Tryd.underlying38 rfl (by rw [hs2]; kernel_rfl))) HS0.out ?_
  simp only [Act.put, List.setIfInBounds_toArray, List.set_cons_zero, List.set_cons_succ]
  refine wpAnyL_one 1 rfl (by kernel_rfl) rfl ?_
  go_simp
  refine (KC1.out _ HS0.out).mono ?_
  rintro e wa ⟨Aa, ca', rfl, hr, hb⟩
  have HSa : Hid (Below w11.heap.size w11 wa) := Lib.hid (HS0.out.trans (hb.mono HS0.out.size))
  have HCa : Hid (∀ w', Below wa.heap.size wa w' → (convert 22 9 (.slice Aa 32 ca')).run Tryd.prog w' = .ok (.string s1) w') := Lib.hid fun w' h => by rw [HE1.out]; exact conv_row ((hr).below' h)
  have HTa : Hid (∀ w', Below wa.heap.size wa w' → Below w11.heap.size w11 w') := Lib.hid fun w' h => HSa.out.trans (h.mono HSa.out.size)
  have HZa : Hid (Below wa.heap.size wa wa) := Lib.hid (Below.refl _ _)
  have HPa : Hid (Below w11.heap.size w11 wa) := Lib.hid HSa.out
  clear hr hb
  refine ⟨HPa.out, wpAnyL_imp (S := fun w' : World => Below wa.heap.size wa w') (fun w' h => HPa.out.trans (h.mono HPa.out.size)) ?_⟩
  as_aux_lemma =>
    refine wpAnyL_take 2 (v := .string s1) rfl (by kernel_rfl) (fun c a w h => hp c a _ _ w h) (yields_on (by kernel_rfl) (fun w' hw' => by have hc := HCa.out w' hw'; go_simp)) HZa.out ?_
    simp only [Act.put, List.setIfInBounds_toArray, List.set_cons_zero, List.set_cons_succ]
    refine wpAnyL_one 4 rfl (by kernel_rfl) rfl ?_
    go_simp
    refine (KC2.out _ HSa.out).mono ?_
    rintro e wb ⟨Ab, mb, cb', rfl, hr, hb⟩
    have HSb : Hid (Below w11.heap.size w11 wb) := Lib.hid (HSa.out.trans (hb.mono HSa.out.size))
    have HCb : Hid (∀ w', Below wb.heap.size wb w' → (convert 22 9 (.slice Ab mb cb')).run Tryd.prog w' = .ok (.string s1) w') := Lib.hid fun w' h => by rw [HE1.out]; exact conv_row ((hr.rd).below' h)
    have HTb : Hid (∀ w', Below wb.heap.size wb w' → Below w11.heap.size w11 w') := Lib.hid fun w' h => HSb.out.trans (h.mono HSb.out.size)
    have HZb : Hid (Below wb.heap.size wb wb) := Lib.hid (Below.refl _ _)
    have HPb : Hid (Below wa.heap.size wa wb) := Lib.hid hb
    clear hr hb
    refine ⟨HPb.out, wpAnyL_imp (S := fun w' : World => Below wb.heap.size wb w') (fun w' h => HPb.out.trans (h.mono HPb.out.size)) ?_⟩
    as_aux_lemma =>
      refine wpAnyL_take 5 (v := .string s1) rfl (by kernel_rfl) (fun c a w h => hp c a _ _ w h) (yields_on (by kernel_rfl) (fun w' hw' => by have hc := HCb.out w' hw'; go_simp)) HZb.out ?_
      simp only [Act.put, List.setIfInBounds_toArray, List.set_cons_zero, List.set_cons_succ]
      refine wpAnyL_take 6 (v := .bool true) rfl (by kernel_rfl) (fun c a w h => hp c a _ _ w h) (yields_on (by kernel_rfl) (fun w' hw' => by go_simp)) HZb.out ?_
      simp only [Act.put, List.setIfInBounds_toArray, List.set_cons_zero, List.set_cons_succ]
      refine wpAnyL_take 7 (v := .bool true) rfl (by kernel_rfl) (fun c a w h => hp c a _ _ w h) (yields_on (by kernel_rfl) (fun w' hw' => by go_simp)) HZb.out ?_
      simp only [Act.put, List.setIfInBounds_toArray, List.set_cons_zero, List.set_cons_succ]
      as_aux_lemma =>
        refine wpAnyL_take 8 (v := .agg HZ) rfl (by kernel_rfl) (fun c a w h => hp c a _ _ w h) (yields_on (by kernel_rfl) (fun w' hw' => exec_load_row 32 (.tmp 3) rfl (N + 1) rfl 32 HZ _ ((HQ.out w' (HTb.out w' hw')).2.1) Tryd.underlying32 rfl (by rw [hs3]; kernel_rfl))) HZb.out ?_
        simp only [Act.put, List.setIfInBounds_toArray, List.set_cons_zero, List.set_cons_succ]
        refine wpAnyL_take 11 (v := .agg HZ) rfl (by kernel_rfl) (fun c a w h => hp c a _ _ w h) (yields_on (by kernel_rfl) (fun w' hw' => exec_load_row 43 (.tmp 6) rfl g10 rfl 43 HZ _ ((HQ.out w' (HTb.out w' hw')).2.2.2) Tryd.underlying43 rfl (by rw [hs3]; kernel_rfl))) HZb.out ?_
        simp only [Act.put, List.setIfInBounds_toArray, List.set_cons_zero, List.set_cons_succ]
        as_aux_lemma =>
          refine wpAnyL_on 9 rfl (by kernel_rfl) (by kernel_rfl) ?_
          go_simp
          refine (KC3.out _ HSb.out).mono ?_
          rintro e wc ⟨Ac, mc, cc', rfl, hr, hb⟩
          have HSc : Hid (Below w11.heap.size w11 wc) := Lib.hid (HSb.out.trans (hb.mono HSb.out.size))
          have HCc : Hid (∀ w', Below wc.heap.size wc w' → (convert 22 9 (.slice Ac mc cc')).run Tryd.prog w' = .ok (.string s2) w') := Lib.hid fun w' h => by rw [HE2.out]; exact conv_row ((hr).below' h)
          have HTc : Hid (∀ w', Below wc.heap.size wc w' → Below w11.heap.size w11 w') := Lib.hid fun w' h => HSc.out.trans (h.mono HSc.out.size)
          have HZc : Hid (Below wc.heap.size wc wc) := Lib.hid (Below.refl _ _)
          have HPc : Hid (Below wb.heap.size wb wc) := Lib.hid hb
          clear hr hb
          refine ⟨HPc.out, wpAnyL_imp (S := fun w' : World => Below wc.heap.size wc w') (fun w' h => HPc.out.trans (h.mono HPc.out.size)) ?_⟩
          as_aux_lemma =>
            refine wpAnyL_take 10 (v := .string s2) rfl (by kernel_rfl) (fun c a w h => hp c a _ _ w h) (yields_on (by kernel_rfl) (fun w' hw' => by have hc := HCc.out w' hw'; go_simp)) HZc.out ?_
            simp only [Act.put, List.setIfInBounds_toArray, List.set_cons_zero, List.set_cons_succ]
            refine wpAnyL_on 12 rfl (by kernel_rfl) (by kernel_rfl) ?_
            go_simp
            refine (KC4.out _ HSc.out).mono ?_
            rintro e wd ⟨Ad, md, cd', rfl, hr, hb⟩
            have HSd : Hid (Below w11.heap.size w11 wd) := Lib.hid (HSc.out.trans (hb.mono HSc.out.size))
            have HCd : Hid (∀ w', Below wd.heap.size wd w' → (convert 22 9 (.slice Ad md cd')).run Tryd.prog w' = .ok (.string s2) w') := Lib.hid fun w' h => by rw [HE2.out]; exact conv_row ((hr.rd).below' h)
            have HTd : Hid (∀ w', Below wd.heap.size wd w' → Below w11.heap.size w11 w') := Lib.hid fun w' h => HSd.out.trans (h.mono HSd.out.size)
            have HZd : Hid (Below wd.heap.size wd wd) := Lib.hid (Below.refl _ _)
            have HPd : Hid (Below wc.heap.size wc wd) := Lib.hid hb
            clear hr hb
            refine ⟨HPd.out, wpAnyL_imp (S := fun w' : World => Below wd.heap.size wd w') (fun w' h => HPd.out.trans (h.mono HPd.out.size)) ?_⟩
            as_aux_lemma =>
              refine wpAnyL_take 13 (v := .string s2) rfl (by kernel_rfl) (fun c a w h => hp c a _ _ w h) (yields_on (by kernel_rfl) (fun w' hw' => by have hc := HCd.out w' hw'; go_simp)) HZd.out ?_
              simp only [Act.put, List.setIfInBounds_toArray, List.set_cons_zero, List.set_cons_succ]
              refine wpAnyL_take 14 (v := .bool true) rfl (by kernel_rfl) (fun c a w h => hp c a _ _ w h) (yields_on (by kernel_rfl) (fun w' hw' => by go_simp)) HZd.out ?_
              simp only [Act.put, List.setIfInBounds_toArray, List.set_cons_zero, List.set_cons_succ]
              as_aux_lemma =>
                refine wpAnyL_take 15 (v := .bool true) rfl (by kernel_rfl) (fun c a w h => hp c a _ _ w h) (yields_on (by kernel_rfl) (fun w' hw' => by go_simp)) HZd.out ?_
                simp only [Act.put, List.setIfInBounds_toArray, List.set_cons_zero, List.set_cons_succ]
                refine wpAnyL_one 16 rfl (by kernel_rfl) rfl ?_
                go_simp
                refine wpAnyL_done (by kernel_rfl) ?_ _
                exact HH.out _ _ _ _ _ _ _ _ _ _ _ _ _ _ _ _ _ HSd.out
end Go.Proofs.YtikikddkhikfkaaDoor
