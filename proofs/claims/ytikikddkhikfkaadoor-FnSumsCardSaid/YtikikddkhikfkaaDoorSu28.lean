/-
  The sum of a header by the package: impl.HeaderSum: the walk. Printed by gen_head3.py. By the session.
-/
import Derived.Test.YtikikddkhikfkaaDoorSu27
import Derived.Test.YtikikddkhikfkaaDoorSu11
set_option linter.all false
namespace Go.Proofs.YtikikddkhikfkaaDoor
open Go.RowKit

theorem hd_one (h : Hd) (PA : Option Addr) (pc : Nat) : (h.pcells PA pc).all (·.oneCell') = true := by simp [Hd.pcells, Value.oneCell']
theorem hd_info (h : Hd) (PA : Option Addr) (pc : Nat) : (Tryd.prog.info? 97).map (·.size) = some (h.pcells PA pc).size := by kernel_rfl
theorem put_none (a : Act) (v : Value) : a.put none v = a := rfl
structure ShutH (p : Prop) : Prop where
  out : p
inductive Hx where
  | any
  | is (v : Value)
  | conv
  | aggr
def Hx.holds (h : Hd) : Hx → Bool → Value → World → Prop
  | .any, _, _, _ => True
  | .is u, _, v, _ => v = u
  | .conv, b, v, w => b = false → ∃ (PA : Option Addr) (pc : Nat), v = .slice PA h.prop.size pc ∧ Byt w PA h.prop
  | .aggr, b, v, w => b = false → ∃ (PA : Option Addr) (pc : Nat), v = .agg (h.pcells PA pc) ∧ Byt w PA h.prop
def blkH (h : Hd) (N : Nat) : Bool → Value → World → Prop
  | false, v, w => ∃ g, v = .pointer (some ⟨g, 0, none⟩) ∧ N < g ∧ Blk w g 97 #[.int .u64 0, .int .u64 0, .string { data := #[] }, .int .i64 0, .int .i64 0, .int .i32 0, .slice none 0 0, .int .u32 0, .slice none 0 0, .slice none 0 0, .slice none 0 0, .slice none 0 0, .slice none 0 0, .slice none 0 0, .slice none 0 0, .slice none 0 0, .slice none 0 0, .slice none 0 0]
  | true, v, w => ∃ (g : Nat) (PA : Option Addr) (pc : Nat), v = .pointer (some ⟨g, 0, none⟩) ∧ N < g ∧ Blk w g 97 (h.pcells PA pc) ∧ Byt w PA h.prop
def hF (h : Hd) (N : Nat) (l : List Hx) (b : Bool) (i : Nat) (v : Value) (w : World) : Prop := bif i == 45 then blkH h N b v w else (l.getD i .any).holds h b v w
theorem hF_below (h : Hd) (N : Nat) (l : List Hx) (b : Bool) (i : Nat) (v : Value) (w w' : World) (hf : hF h N l b i v w) (hb : Below w.heap.size w w') : hF h N l b i v w' := by
  unfold hF at *
  cases hi : (i == 45) with
  | true =>
    rw [hi] at hf
    cases b with
    | false => obtain ⟨g, e, hg, hk⟩ := hf; exact ⟨g, e, hg, hk.belowS hb⟩
    | true => obtain ⟨g, PA, pc, e, hg, hk, hp⟩ := hf; exact ⟨g, PA, pc, e, hg, hk.belowS hb, hp.keep (KeepB.of_below hb)⟩
  | false =>
    rw [hi] at hf
    simp only [cond_false] at hf ⊢
    cases hx : l.getD i .any with
    | any => trivial
    | is u => rw [hx] at hf; exact hf
    | conv => rw [hx] at hf; intro hbf; obtain ⟨PA, pc, e, hp⟩ := hf hbf; exact ⟨PA, pc, e, hp.keep (KeepB.of_below hb)⟩
    | aggr => rw [hx] at hf; intro hbf; obtain ⟨PA, pc, e, hp⟩ := hf hbf; exact ⟨PA, pc, e, hp.keep (KeepB.of_below hb)⟩
theorem keepB_setRow {w : World} {g : Nat} {t : TypeId} {cs cs' : Array Value} (hb : Blk w g t cs) (ht : t ≠ 5) : KeepB w (w.setRow g cs') := by
  intro k ks m hk
  by_cases hkg : k = g
  · subst hkg; rw [show w.heap[k]? = _ from hb] at hk; injection hk with hk; injection hk with _ h2; exact absurd h2 ht
  · exact setRow_other _ _ _ _ hkg
set_option maxRecDepth 100000 in
set_option maxHeartbeats 12800000 in
theorem ihsum_any (h : Hd) (w : World) (hok : h.ok w) (hcan : h.can) (hK : Kw w) :
    Calls Tryd.prog 11 #[.agg h.cells] w fun e w' => ∃ A' m c', e = .returned (.slice A' m c') ∧ Rd w' w'.heap.size 1 A' m (bc h.sumB) ∧ Below w.heap.size w w' := by
  have HOK := Lib.hid hok; have HC := Lib.hid hcan; have HKW := Lib.hid hK
  have KM := Lib.hid (fun W => moment_any h.sec h.nan W hcan.sec (by have := hcan.nan; omega))
  have KB := Lib.hid (fun W => iblock_any ⟨h.S, h.sc, h.sum, (h.parts : Int), h.R, h.rc, h.root⟩ W (by have := hcan.parts; show (0 : Int) ≤ (h.parts : Int) ∧ (h.parts : Int) ≤ 4294967295; omega))
  obtain ⟨f, kc⟩ := run_conv (P := Tryd.prog) 9 22 Tryd.underlying9 Tryd.underlying22 Tryd.underlying5 h.prop
  unfold Hd.cells
  unfold cbidCells at KB
  simp only at KB
  have hsx : Blk (w.alloc (.cells #[.int .i64 (h.ver : Int), .int .i64 (h.app : Int), .string h.chain, .int .i64 h.hgt, .int .i64 h.sec, .int .i64 h.nan, .slice h.S h.sum.length h.sc, .int .i64 (h.parts : Int), .slice h.R h.root.length h.rc, .slice h.q0.a h.q0.s.length h.q0.c, .slice h.q1.a h.q1.s.length h.q1.c, .slice h.q2.a h.q2.s.length h.q2.c, .slice h.q3.a h.q3.s.length h.q3.c, .slice h.q4.a h.q4.s.length h.q4.c, .slice h.q5.a h.q5.s.length h.q5.c, .slice h.q6.a h.q6.s.length h.q6.c, .slice h.q7.a h.q7.s.length h.q7.c, .string h.prop] 32)).drew w.heap.size 32 #[.int .i64 (h.ver : Int), .int .i64 (h.app : Int), .string h.chain, .int .i64 h.hgt, .int .i64 h.sec, .int .i64 h.nan, .slice h.S h.sum.length h.sc, .int .i64 (h.parts : Int), .slice h.R h.root.length h.rc, .slice h.q0.a h.q0.s.length h.q0.c, .slice h.q1.a h.q1.s.length h.q1.c, .slice h.q2.a h.q2.s.length h.q2.c, .slice h.q3.a h.q3.s.length h.q3.c, .slice h.q4.a h.q4.s.length h.q4.c, .slice h.q5.a h.q5.s.length h.q5.c, .slice h.q6.a h.q6.s.length h.q6.c, .slice h.q7.a h.q7.s.length h.q7.c, .string h.prop] := (Blk.new w _ _).drew
  have hbx : Below w.heap.size w (w.alloc (.cells #[.int .i64 (h.ver : Int), .int .i64 (h.app : Int), .string h.chain, .int .i64 h.hgt, .int .i64 h.sec, .int .i64 h.nan, .slice h.S h.sum.length h.sc, .int .i64 (h.parts : Int), .slice h.R h.root.length h.rc, .slice h.q0.a h.q0.s.length h.q0.c, .slice h.q1.a h.q1.s.length h.q1.c, .slice h.q2.a h.q2.s.length h.q2.c, .slice h.q3.a h.q3.s.length h.q3.c, .slice h.q4.a h.q4.s.length h.q4.c, .slice h.q5.a h.q5.s.length h.q5.c, .slice h.q6.a h.q6.s.length h.q6.c, .slice h.q7.a h.q7.s.length h.q7.c, .string h.prop] 32)).drew := ((Below.refl _ _).alloc (Nat.le_refl _) _).drew
  have HSX := Lib.hid hsx; have HBX := Lib.hid hbx
  clear hok hcan hK hsx hbx
  go_enter Tryd.func11, Tryd.ntmps11
  go_wp2_with fail
  refine wp_region_factsG2 46 (by kernel_rfl) (hF h w.heap.size [.is (.pointer (some ⟨w.heap.size, 0, none⟩)), .is (.int .i64 (h.ver : Int)), .is (.int .u64 (h.ver : Int)), .is (.pointer (some ⟨w.heap.size, 1, none⟩)), .is (.int .i64 (h.app : Int)), .is (.int .u64 (h.app : Int)), .is (.agg #[.int .u64 (h.ver : Int), .int .u64 (h.app : Int)]), .is (.pointer (some ⟨w.heap.size, 2, none⟩)), .is (.string h.chain), .is (.pointer (some ⟨w.heap.size, 3, none⟩)), .is (.int .i64 h.hgt), .is (.pointer (some ⟨w.heap.size, 4, none⟩)), .is (.agg #[.int .i64 h.sec, .int .i64 h.nan]), .is (.agg #[.int .i64 (h.sec + 62135596800), .int .i32 h.nan]), .is (.pointer (some ⟨w.heap.size, 6, none⟩)), .is (.agg #[.slice h.S h.sum.length h.sc, .int .i64 (h.parts : Int), .slice h.R h.root.length h.rc]), .is (.agg #[.slice h.S h.sum.length h.sc, .int .u32 (h.parts : Int), .slice h.R h.root.length h.rc]), .is (.pointer (some ⟨w.heap.size, 9, none⟩)), .is (.pointer (some ⟨w.heap.size, 9, none⟩)), .is (.slice h.q0.a h.q0.s.length h.q0.c), .is (.pointer (some ⟨w.heap.size, 9, none⟩)), .is (.pointer (some ⟨w.heap.size, 10, none⟩)), .is (.slice h.q1.a h.q1.s.length h.q1.c), .is (.pointer (some ⟨w.heap.size, 9, none⟩)), .is (.pointer (some ⟨w.heap.size, 11, none⟩)), .is (.slice h.q2.a h.q2.s.length h.q2.c), .is (.pointer (some ⟨w.heap.size, 9, none⟩)), .is (.pointer (some ⟨w.heap.size, 12, none⟩)), .is (.slice h.q3.a h.q3.s.length h.q3.c), .is (.pointer (some ⟨w.heap.size, 9, none⟩)), .is (.pointer (some ⟨w.heap.size, 13, none⟩)), .is (.slice h.q4.a h.q4.s.length h.q4.c), .is (.pointer (some ⟨w.heap.size, 9, none⟩)), .is (.pointer (some ⟨w.heap.size, 14, none⟩)), .is (.slice h.q5.a h.q5.s.length h.q5.c), .is (.pointer (some ⟨w.heap.size, 9, none⟩)), .is (.pointer (some ⟨w.heap.size, 15, none⟩)), .is (.slice h.q6.a h.q6.s.length h.q6.c), .is (.pointer (some ⟨w.heap.size, 9, none⟩)), .is (.pointer (some ⟨w.heap.size, 16, none⟩)), .is (.slice h.q7.a h.q7.s.length h.q7.c), .is (.pointer (some ⟨w.heap.size, 17, none⟩)), .is (.string h.prop), .conv, .aggr]) (fun w1 w2 => Below w1.heap.size w1 w2) (hF_below h w.heap.size _) (fun _ w' => Blk w' w.heap.size 32 #[.int .i64 (h.ver : Int), .int .i64 (h.app : Int), .string h.chain, .int .i64 h.hgt, .int .i64 h.sec, .int .i64 h.nan, .slice h.S h.sum.length h.sc, .int .i64 (h.parts : Int), .slice h.R h.root.length h.rc, .slice h.q0.a h.q0.s.length h.q0.c, .slice h.q1.a h.q1.s.length h.q1.c, .slice h.q2.a h.q2.s.length h.q2.c, .slice h.q3.a h.q3.s.length h.q3.c, .slice h.q4.a h.q4.s.length h.q4.c, .slice h.q5.a h.q5.s.length h.q5.c, .slice h.q6.a h.q6.s.length h.q6.c, .slice h.q7.a h.q7.s.length h.q7.c, .string h.prop] ∧ Below w.heap.size w w') (by kernel_rfl) (by kernel_rfl) ⟨HSX.out, HBX.out⟩ ?_ ?_ ?_
  · intro i o
    match i with
    | 0 =>
      intro ho hne b vs w4 hS4 hb hD
      obtain rfl := Option.some.inj ho
      simp only [putL, Act.put, List.setIfInBounds_toArray, List.set_cons_zero, List.set_cons_succ, Nat.zero_add, Nat.reduceAdd]
      go_simp
      exact StepF.of _ rfl rfl hS4 (Below.refl _ _)
    | 1 =>
      intro ho hne b vs w4 hS4 hb hD
      obtain rfl := Option.some.inj ho
      have d0 := hD 0 (by kernel_rfl) (by kernel_rfl)
      change vs 0 = _ at d0
      have q0 : w4.cell? ⟨w.heap.size, 0, none⟩ = some (.int .i64 (h.ver : Int)) := hS4.1.cell 0
      simp only [putL, Act.put, List.setIfInBounds_toArray, List.set_cons_zero, List.set_cons_succ, Nat.zero_add, Nat.reduceAdd]
      go_simp
      exact StepF.of _ rfl rfl hS4 (Below.refl _ _)
    | 2 =>
      intro ho hne b vs w4 hS4 hb hD
      obtain rfl := Option.some.inj ho
      have d1 := hD 1 (by kernel_rfl) (by kernel_rfl)
      change vs 1 = _ at d1
      have hw : IntKind.u64.wrap (h.ver : Int) = (h.ver : Int) := (by have := HC.out.ver; rw [IntKind.wrap_u64]; omega)
      simp only [putL, Act.put, List.setIfInBounds_toArray, List.set_cons_zero, List.set_cons_succ, Nat.zero_add, Nat.reduceAdd]
      go_simp
      exact StepF.of _ rfl rfl hS4 (Below.refl _ _)
    | 3 =>
      intro ho hne b vs w4 hS4 hb hD
      obtain rfl := Option.some.inj ho
      simp only [putL, Act.put, List.setIfInBounds_toArray, List.set_cons_zero, List.set_cons_succ, Nat.zero_add, Nat.reduceAdd]
      go_simp
      exact StepF.of _ rfl rfl hS4 (Below.refl _ _)
    | 4 =>
      intro ho hne b vs w4 hS4 hb hD
      obtain rfl := Option.some.inj ho
      have d3 := hD 3 (by kernel_rfl) (by kernel_rfl)
      change vs 3 = _ at d3
      have q0 : w4.cell? ⟨w.heap.size, 1, none⟩ = some (.int .i64 (h.app : Int)) := hS4.1.cell 1
      simp only [putL, Act.put, List.setIfInBounds_toArray, List.set_cons_zero, List.set_cons_succ, Nat.zero_add, Nat.reduceAdd]
      go_simp
      exact StepF.of _ rfl rfl hS4 (Below.refl _ _)
    | 5 =>
      intro ho hne b vs w4 hS4 hb hD
      obtain rfl := Option.some.inj ho
      have d4 := hD 4 (by kernel_rfl) (by kernel_rfl)
      change vs 4 = _ at d4
      have hw : IntKind.u64.wrap (h.app : Int) = (h.app : Int) := (by have := HC.out.app; rw [IntKind.wrap_u64]; omega)
      simp only [putL, Act.put, List.setIfInBounds_toArray, List.set_cons_zero, List.set_cons_succ, Nat.zero_add, Nat.reduceAdd]
      go_simp
      exact StepF.of _ rfl rfl hS4 (Below.refl _ _)
    | 6 =>
      intro ho hne b vs w4 hS4 hb hD
      obtain rfl := Option.some.inj ho
      have d2 := hD 2 (by kernel_rfl) (by kernel_rfl)
      change vs 2 = _ at d2
      have d5 := hD 5 (by kernel_rfl) (by kernel_rfl)
      change vs 5 = _ at d5
      simp only [putL, Act.put, List.setIfInBounds_toArray, List.set_cons_zero, List.set_cons_succ, Nat.zero_add, Nat.reduceAdd]
      go_simp
      exact StepF.of _ rfl rfl hS4 (Below.refl _ _)
    | 7 =>
      intro ho hne b vs w4 hS4 hb hD
      obtain rfl := Option.some.inj ho
      simp only [putL, Act.put, List.setIfInBounds_toArray, List.set_cons_zero, List.set_cons_succ, Nat.zero_add, Nat.reduceAdd]
      go_simp
      exact StepF.of _ rfl rfl hS4 (Below.refl _ _)
    | 8 =>
      intro ho hne b vs w4 hS4 hb hD
      obtain rfl := Option.some.inj ho
      have d7 := hD 7 (by kernel_rfl) (by kernel_rfl)
      change vs 7 = _ at d7
      have q0 : w4.cell? ⟨w.heap.size, 2, none⟩ = some (.string h.chain) := hS4.1.cell 2
      simp only [putL, Act.put, List.setIfInBounds_toArray, List.set_cons_zero, List.set_cons_succ, Nat.zero_add, Nat.reduceAdd]
      go_simp
      exact StepF.of _ rfl rfl hS4 (Below.refl _ _)
    | 9 =>
      intro ho hne b vs w4 hS4 hb hD
      obtain rfl := Option.some.inj ho
      simp only [putL, Act.put, List.setIfInBounds_toArray, List.set_cons_zero, List.set_cons_succ, Nat.zero_add, Nat.reduceAdd]
      go_simp
      exact StepF.of _ rfl rfl hS4 (Below.refl _ _)
    | 10 =>
      intro ho hne b vs w4 hS4 hb hD
      obtain rfl := Option.some.inj ho
      have d9 := hD 9 (by kernel_rfl) (by kernel_rfl)
      change vs 9 = _ at d9
      have q0 : w4.cell? ⟨w.heap.size, 3, none⟩ = some (.int .i64 h.hgt) := hS4.1.cell 3
      simp only [putL, Act.put, List.setIfInBounds_toArray, List.set_cons_zero, List.set_cons_succ, Nat.zero_add, Nat.reduceAdd]
      go_simp
      exact StepF.of _ rfl rfl hS4 (Below.refl _ _)
    | 11 =>
      intro ho hne b vs w4 hS4 hb hD
      obtain rfl := Option.some.inj ho
      simp only [putL, Act.put, List.setIfInBounds_toArray, List.set_cons_zero, List.set_cons_succ, Nat.zero_add, Nat.reduceAdd]
      go_simp
      exact StepF.of _ rfl rfl hS4 (Below.refl _ _)
    | 12 =>
      intro ho hne b vs w4 hS4 hb hD
      obtain rfl := Option.some.inj ho
      have d11 := hD 11 (by kernel_rfl) (by kernel_rfl)
      change vs 11 = _ at d11
      have q0 : w4.cell? ⟨w.heap.size, 4, none⟩ = some (.int .i64 h.sec) := hS4.1.cell 4
      have q1 : w4.cell? ⟨w.heap.size, 5, none⟩ = some (.int .i64 h.nan) := hS4.1.cell 5
      simp only [putL, Act.put, List.setIfInBounds_toArray, List.set_cons_zero, List.set_cons_succ, Nat.zero_add, Nat.reduceAdd]
      go_simp
      exact StepF.of _ rfl rfl hS4 (Below.refl _ _)
    | 13 =>
      intro ho hne b vs w4 hS4 hb hD
      obtain rfl := Option.some.inj ho
      have d12 := hD 12 (by kernel_rfl) (by kernel_rfl)
      change vs 12 = _ at d12
      simp only [putL, Act.put, List.setIfInBounds_toArray, List.set_cons_zero, List.set_cons_succ, Nat.zero_add, Nat.reduceAdd]
      go_simp
      refine (KM.out _).mono ?_
      rintro e w5 ⟨rfl, hb'⟩
      exact StepF.of _ rfl rfl ⟨hS4.1.belowS hb', hS4.2.trans (hb'.mono (Nat.le_of_lt hS4.1.lt))⟩ hb'
    | 14 =>
      intro ho hne b vs w4 hS4 hb hD
      obtain rfl := Option.some.inj ho
      simp only [putL, Act.put, List.setIfInBounds_toArray, List.set_cons_zero, List.set_cons_succ, Nat.zero_add, Nat.reduceAdd]
      go_simp
      exact StepF.of _ rfl rfl hS4 (Below.refl _ _)
    | 15 =>
      intro ho hne b vs w4 hS4 hb hD
      obtain rfl := Option.some.inj ho
      have d14 := hD 14 (by kernel_rfl) (by kernel_rfl)
      change vs 14 = _ at d14
      have q0 : w4.cell? ⟨w.heap.size, 6, none⟩ = some (.slice h.S h.sum.length h.sc) := hS4.1.cell 6
      have q1 : w4.cell? ⟨w.heap.size, 7, none⟩ = some (.int .i64 (h.parts : Int)) := hS4.1.cell 7
      have q2 : w4.cell? ⟨w.heap.size, 8, none⟩ = some (.slice h.R h.root.length h.rc) := hS4.1.cell 8
      simp only [putL, Act.put, List.setIfInBounds_toArray, List.set_cons_zero, List.set_cons_succ, Nat.zero_add, Nat.reduceAdd]
      go_simp
      exact StepF.of _ rfl rfl hS4 (Below.refl _ _)
    | 16 =>
      intro ho hne b vs w4 hS4 hb hD
      obtain rfl := Option.some.inj ho
      have d15 := hD 15 (by kernel_rfl) (by kernel_rfl)
      change vs 15 = _ at d15
      simp only [putL, Act.put, List.setIfInBounds_toArray, List.set_cons_zero, List.set_cons_succ, Nat.zero_add, Nat.reduceAdd]
      go_simp
      refine (KB.out _).mono ?_
      rintro e w5 ⟨rfl, hb'⟩
      exact StepF.of _ rfl rfl ⟨hS4.1.belowS hb', hS4.2.trans (hb'.mono (Nat.le_of_lt hS4.1.lt))⟩ hb'
    | 17 =>
      intro ho hne b vs w4 hS4 hb hD
      obtain rfl := Option.some.inj ho
      simp only [putL, Act.put, List.setIfInBounds_toArray, List.set_cons_zero, List.set_cons_succ, Nat.zero_add, Nat.reduceAdd]
      go_simp
      exact StepF.of _ rfl rfl hS4 (Below.refl _ _)
    | 18 =>
      intro ho hne b vs w4 hS4 hb hD
      obtain rfl := Option.some.inj ho
      have d17 := hD 17 (by kernel_rfl) (by kernel_rfl)
      change vs 17 = _ at d17
      simp only [putL, Act.put, List.setIfInBounds_toArray, List.set_cons_zero, List.set_cons_succ, Nat.zero_add, Nat.reduceAdd]
      go_simp
      exact StepF.of _ rfl rfl hS4 (Below.refl _ _)
    | 19 =>
      intro ho hne b vs w4 hS4 hb hD
      obtain rfl := Option.some.inj ho
      have d18 := hD 18 (by kernel_rfl) (by kernel_rfl)
      change vs 18 = _ at d18
      have q0 : w4.cell? ⟨w.heap.size, 9, none⟩ = some (.slice h.q0.a h.q0.s.length h.q0.c) := hS4.1.cell 9
      simp only [putL, Act.put, List.setIfInBounds_toArray, List.set_cons_zero, List.set_cons_succ, Nat.zero_add, Nat.reduceAdd]
      go_simp
      exact StepF.of _ rfl rfl hS4 (Below.refl _ _)
    | 20 =>
      intro ho hne b vs w4 hS4 hb hD
      obtain rfl := Option.some.inj ho
      simp only [putL, Act.put, List.setIfInBounds_toArray, List.set_cons_zero, List.set_cons_succ, Nat.zero_add, Nat.reduceAdd]
      go_simp
      exact StepF.of _ rfl rfl hS4 (Below.refl _ _)
    | 21 =>
      intro ho hne b vs w4 hS4 hb hD
      obtain rfl := Option.some.inj ho
      have d20 := hD 20 (by kernel_rfl) (by kernel_rfl)
      change vs 20 = _ at d20
      simp only [putL, Act.put, List.setIfInBounds_toArray, List.set_cons_zero, List.set_cons_succ, Nat.zero_add, Nat.reduceAdd]
      go_simp
      exact StepF.of _ rfl rfl hS4 (Below.refl _ _)
    | 22 =>
      intro ho hne b vs w4 hS4 hb hD
      obtain rfl := Option.some.inj ho
      have d21 := hD 21 (by kernel_rfl) (by kernel_rfl)
      change vs 21 = _ at d21
      have q0 : w4.cell? ⟨w.heap.size, 10, none⟩ = some (.slice h.q1.a h.q1.s.length h.q1.c) := hS4.1.cell 10
      simp only [putL, Act.put, List.setIfInBounds_toArray, List.set_cons_zero, List.set_cons_succ, Nat.zero_add, Nat.reduceAdd]
      go_simp
      exact StepF.of _ rfl rfl hS4 (Below.refl _ _)
    | 23 =>
      intro ho hne b vs w4 hS4 hb hD
      obtain rfl := Option.some.inj ho
      simp only [putL, Act.put, List.setIfInBounds_toArray, List.set_cons_zero, List.set_cons_succ, Nat.zero_add, Nat.reduceAdd]
      go_simp
      exact StepF.of _ rfl rfl hS4 (Below.refl _ _)
    | 24 =>
      intro ho hne b vs w4 hS4 hb hD
      obtain rfl := Option.some.inj ho
      have d23 := hD 23 (by kernel_rfl) (by kernel_rfl)
      change vs 23 = _ at d23
      simp only [putL, Act.put, List.setIfInBounds_toArray, List.set_cons_zero, List.set_cons_succ, Nat.zero_add, Nat.reduceAdd]
      go_simp
      exact StepF.of _ rfl rfl hS4 (Below.refl _ _)
    | 25 =>
      intro ho hne b vs w4 hS4 hb hD
      obtain rfl := Option.some.inj ho
      have d24 := hD 24 (by kernel_rfl) (by kernel_rfl)
      change vs 24 = _ at d24
      have q0 : w4.cell? ⟨w.heap.size, 11, none⟩ = some (.slice h.q2.a h.q2.s.length h.q2.c) := hS4.1.cell 11
      simp only [putL, Act.put, List.setIfInBounds_toArray, List.set_cons_zero, List.set_cons_succ, Nat.zero_add, Nat.reduceAdd]
      go_simp
      exact StepF.of _ rfl rfl hS4 (Below.refl _ _)
    | 26 =>
      intro ho hne b vs w4 hS4 hb hD
      obtain rfl := Option.some.inj ho
      simp only [putL, Act.put, List.setIfInBounds_toArray, List.set_cons_zero, List.set_cons_succ, Nat.zero_add, Nat.reduceAdd]
      go_simp
      exact StepF.of _ rfl rfl hS4 (Below.refl _ _)
    | 27 =>
      intro ho hne b vs w4 hS4 hb hD
      obtain rfl := Option.some.inj ho
      have d26 := hD 26 (by kernel_rfl) (by kernel_rfl)
      change vs 26 = _ at d26
      simp only [putL, Act.put, List.setIfInBounds_toArray, List.set_cons_zero, List.set_cons_succ, Nat.zero_add, Nat.reduceAdd]
      go_simp
      exact StepF.of _ rfl rfl hS4 (Below.refl _ _)
    | 28 =>
      intro ho hne b vs w4 hS4 hb hD
      obtain rfl := Option.some.inj ho
      have d27 := hD 27 (by kernel_rfl) (by kernel_rfl)
      change vs 27 = _ at d27
      have q0 : w4.cell? ⟨w.heap.size, 12, none⟩ = some (.slice h.q3.a h.q3.s.length h.q3.c) := hS4.1.cell 12
      simp only [putL, Act.put, List.setIfInBounds_toArray, List.set_cons_zero, List.set_cons_succ, Nat.zero_add, Nat.reduceAdd]
      go_simp
      exact StepF.of _ rfl rfl hS4 (Below.refl _ _)
    | 29 =>
      intro ho hne b vs w4 hS4 hb hD
      obtain rfl := Option.some.inj ho
      simp only [putL, Act.put, List.setIfInBounds_toArray, List.set_cons_zero, List.set_cons_succ, Nat.zero_add, Nat.reduceAdd]
      go_simp
      exact StepF.of _ rfl rfl hS4 (Below.refl _ _)
    | 30 =>
      intro ho hne b vs w4 hS4 hb hD
      obtain rfl := Option.some.inj ho
      have d29 := hD 29 (by kernel_rfl) (by kernel_rfl)
      change vs 29 = _ at d29
      simp only [putL, Act.put, List.setIfInBounds_toArray, List.set_cons_zero, List.set_cons_succ, Nat.zero_add, Nat.reduceAdd]
      go_simp
      exact StepF.of _ rfl rfl hS4 (Below.refl _ _)
    | 31 =>
      intro ho hne b vs w4 hS4 hb hD
      obtain rfl := Option.some.inj ho
      have d30 := hD 30 (by kernel_rfl) (by kernel_rfl)
      change vs 30 = _ at d30
      have q0 : w4.cell? ⟨w.heap.size, 13, none⟩ = some (.slice h.q4.a h.q4.s.length h.q4.c) := hS4.1.cell 13
      simp only [putL, Act.put, List.setIfInBounds_toArray, List.set_cons_zero, List.set_cons_succ, Nat.zero_add, Nat.reduceAdd]
      go_simp
      exact StepF.of _ rfl rfl hS4 (Below.refl _ _)
    | 32 =>
      intro ho hne b vs w4 hS4 hb hD
      obtain rfl := Option.some.inj ho
      simp only [putL, Act.put, List.setIfInBounds_toArray, List.set_cons_zero, List.set_cons_succ, Nat.zero_add, Nat.reduceAdd]
      go_simp
      exact StepF.of _ rfl rfl hS4 (Below.refl _ _)
    | 33 =>
      intro ho hne b vs w4 hS4 hb hD
      obtain rfl := Option.some.inj ho
      have d32 := hD 32 (by kernel_rfl) (by kernel_rfl)
      change vs 32 = _ at d32
      simp only [putL, Act.put, List.setIfInBounds_toArray, List.set_cons_zero, List.set_cons_succ, Nat.zero_add, Nat.reduceAdd]
      go_simp
      exact StepF.of _ rfl rfl hS4 (Below.refl _ _)
    | 34 =>
      intro ho hne b vs w4 hS4 hb hD
      obtain rfl := Option.some.inj ho
      have d33 := hD 33 (by kernel_rfl) (by kernel_rfl)
      change vs 33 = _ at d33
      have q0 : w4.cell? ⟨w.heap.size, 14, none⟩ = some (.slice h.q5.a h.q5.s.length h.q5.c) := hS4.1.cell 14
      simp only [putL, Act.put, List.setIfInBounds_toArray, List.set_cons_zero, List.set_cons_succ, Nat.zero_add, Nat.reduceAdd]
      go_simp
      exact StepF.of _ rfl rfl hS4 (Below.refl _ _)
    | 35 =>
      intro ho hne b vs w4 hS4 hb hD
      obtain rfl := Option.some.inj ho
      simp only [putL, Act.put, List.setIfInBounds_toArray, List.set_cons_zero, List.set_cons_succ, Nat.zero_add, Nat.reduceAdd]
      go_simp
      exact StepF.of _ rfl rfl hS4 (Below.refl _ _)
    | 36 =>
      intro ho hne b vs w4 hS4 hb hD
      obtain rfl := Option.some.inj ho
      have d35 := hD 35 (by kernel_rfl) (by kernel_rfl)
      change vs 35 = _ at d35
      simp only [putL, Act.put, List.setIfInBounds_toArray, List.set_cons_zero, List.set_cons_succ, Nat.zero_add, Nat.reduceAdd]
      go_simp
      exact StepF.of _ rfl rfl hS4 (Below.refl _ _)
    | 37 =>
      intro ho hne b vs w4 hS4 hb hD
      obtain rfl := Option.some.inj ho
      have d36 := hD 36 (by kernel_rfl) (by kernel_rfl)
      change vs 36 = _ at d36
      have q0 : w4.cell? ⟨w.heap.size, 15, none⟩ = some (.slice h.q6.a h.q6.s.length h.q6.c) := hS4.1.cell 15
      simp only [putL, Act.put, List.setIfInBounds_toArray, List.set_cons_zero, List.set_cons_succ, Nat.zero_add, Nat.reduceAdd]
      go_simp
      exact StepF.of _ rfl rfl hS4 (Below.refl _ _)
    | 38 =>
      intro ho hne b vs w4 hS4 hb hD
      obtain rfl := Option.some.inj ho
      simp only [putL, Act.put, List.setIfInBounds_toArray, List.set_cons_zero, List.set_cons_succ, Nat.zero_add, Nat.reduceAdd]
      go_simp
      exact StepF.of _ rfl rfl hS4 (Below.refl _ _)
    | 39 =>
      intro ho hne b vs w4 hS4 hb hD
      obtain rfl := Option.some.inj ho
      have d38 := hD 38 (by kernel_rfl) (by kernel_rfl)
      change vs 38 = _ at d38
      simp only [putL, Act.put, List.setIfInBounds_toArray, List.set_cons_zero, List.set_cons_succ, Nat.zero_add, Nat.reduceAdd]
      go_simp
      exact StepF.of _ rfl rfl hS4 (Below.refl _ _)
    | 40 =>
      intro ho hne b vs w4 hS4 hb hD
      obtain rfl := Option.some.inj ho
      have d39 := hD 39 (by kernel_rfl) (by kernel_rfl)
      change vs 39 = _ at d39
      have q0 : w4.cell? ⟨w.heap.size, 16, none⟩ = some (.slice h.q7.a h.q7.s.length h.q7.c) := hS4.1.cell 16
      simp only [putL, Act.put, List.setIfInBounds_toArray, List.set_cons_zero, List.set_cons_succ, Nat.zero_add, Nat.reduceAdd]
      go_simp
      exact StepF.of _ rfl rfl hS4 (Below.refl _ _)
    | 41 =>
      intro ho hne b vs w4 hS4 hb hD
      obtain rfl := Option.some.inj ho
      simp only [putL, Act.put, List.setIfInBounds_toArray, List.set_cons_zero, List.set_cons_succ, Nat.zero_add, Nat.reduceAdd]
      go_simp
      exact StepF.of _ rfl rfl hS4 (Below.refl _ _)
    | 42 =>
      intro ho hne b vs w4 hS4 hb hD
      obtain rfl := Option.some.inj ho
      have d41 := hD 41 (by kernel_rfl) (by kernel_rfl)
      change vs 41 = _ at d41
      have q0 : w4.cell? ⟨w.heap.size, 17, none⟩ = some (.string h.prop) := hS4.1.cell 17
      simp only [putL, Act.put, List.setIfInBounds_toArray, List.set_cons_zero, List.set_cons_succ, Nat.zero_add, Nat.reduceAdd]
      go_simp
      exact StepF.of _ rfl rfl hS4 (Below.refl _ _)
    | 43 =>
      intro ho hne b vs w4 hS4 hb hD
      obtain rfl := Option.some.inj ho
      have d42 := hD 42 (by kernel_rfl) (by kernel_rfl)
      change vs 42 = _ at d42
      simp only [putL, Act.put, List.setIfInBounds_toArray, List.set_cons_zero, List.set_cons_succ, Nat.zero_add, Nat.reduceAdd]
      go_simp
      have hb' : Below w4.heap.size w4 (w4.alloc (bObj h.prop (f w4))).drew := ((Below.refl _ _).alloc (Nat.le_refl _) _).drew
      exact StepF.of _ rfl (fun _ => ⟨_, _, rfl, Byt.conv _ _ _ _ rfl⟩) ⟨hS4.1.belowS hb', hS4.2.trans (hb'.mono (Nat.le_of_lt hS4.1.lt))⟩ hb'
    | 44 =>
      intro ho hne b vs w4 hS4 hb hD
      obtain rfl := Option.some.inj ho
      cases b
      case true => exact absurd (hb rfl _ rfl) (by rw [show depB .any _ _ = true by kernel_rfl]; decide)
      case false =>
        have d6 := hD 6 (by kernel_rfl) (by kernel_rfl)
        change vs 6 = _ at d6
        have d8 := hD 8 (by kernel_rfl) (by kernel_rfl)
        change vs 8 = _ at d8
        have d10 := hD 10 (by kernel_rfl) (by kernel_rfl)
        change vs 10 = _ at d10
        have d13 := hD 13 (by kernel_rfl) (by kernel_rfl)
        change vs 13 = _ at d13
        have d16 := hD 16 (by kernel_rfl) (by kernel_rfl)
        change vs 16 = _ at d16
        have d19 := hD 19 (by kernel_rfl) (by kernel_rfl)
        change vs 19 = _ at d19
        have d22 := hD 22 (by kernel_rfl) (by kernel_rfl)
        change vs 22 = _ at d22
        have d25 := hD 25 (by kernel_rfl) (by kernel_rfl)
        change vs 25 = _ at d25
        have d28 := hD 28 (by kernel_rfl) (by kernel_rfl)
        change vs 28 = _ at d28
        have d31 := hD 31 (by kernel_rfl) (by kernel_rfl)
        change vs 31 = _ at d31
        have d34 := hD 34 (by kernel_rfl) (by kernel_rfl)
        change vs 34 = _ at d34
        have d37 := hD 37 (by kernel_rfl) (by kernel_rfl)
        change vs 37 = _ at d37
        have d40 := hD 40 (by kernel_rfl) (by kernel_rfl)
        change vs 40 = _ at d40
        obtain ⟨PA, pc, d43, hpr⟩ := hD 43 (by kernel_rfl) (by kernel_rfl) rfl
        simp only [putL, Act.put, List.setIfInBounds_toArray, List.set_cons_zero, List.set_cons_succ, Nat.zero_add, Nat.reduceAdd]
        go_simp
        exact StepF.of _ rfl (fun _ => ⟨PA, pc, rfl, hpr⟩) hS4 (Below.refl _ _)
    | 45 =>
      intro ho hne b vs w4 hS4 hb hD
      obtain rfl := Option.some.inj ho
      cases b
      case true => exact absurd (hb rfl _ rfl) (by rw [show depB .any _ _ = true by kernel_rfl]; decide)
      case false =>
        simp only [putL, Act.put, List.setIfInBounds_toArray, List.set_cons_zero, List.set_cons_succ, Nat.zero_add, Nat.reduceAdd]
        go_simp
        exact StepF.of _ rfl ⟨w4.heap.size, rfl, hS4.1.lt, Blk.new _ _ _⟩ ⟨hS4.1.alloc _, hS4.2.alloc (Nat.le_of_lt hS4.1.lt) _⟩ ((Below.refl _ _).alloc (Nat.le_refl _) _)
    | 46 => intro ho hne; exact absurd rfl hne
    | k + 47 => intro ho; simp at ho
  · intro o ho vs w4 hS4 hD
    refine ShutH.out ?_
    obtain ⟨PA, pc, d44, hpr⟩ := hD 44 (by obtain rfl := Option.some.inj ho; kernel_rfl) (by kernel_rfl) rfl
    obtain ⟨g, d45, hg, hz⟩ := hD 45 (by obtain rfl := Option.some.inj ho; kernel_rfl) (by kernel_rfl)
    have hop : o.op = .store 97 (.tmp 3) (.tmp 48) := by obtain rfl := Option.some.inj ho; rfl
    have hdst : o.dst = none := by obtain rfl := Option.some.inj ho; rfl
    clear ho hD
    refine ⟨?_⟩
    refine wp_store_row 97 (.tmp 3) (.tmp 48) hop g (h.pcells PA pc) (Eq.trans ?hx d45) (Eq.trans ?hy d44) 97 _ hz (hd_info h PA pc) rfl (hd_one h PA pc) ⟨by rw [hdst]; exact put_none _ _, ⟨(setRow_other _ _ _ _ (by omega)).trans hS4.1, below_setRow hS4.2 (Nat.le_of_lt hg) _⟩, fun j hj => ?_⟩
    case hx => kernel_rfl
    case hy => kernel_rfl
    unfold hF at hj ⊢
    cases hi : (j == 45) with
    | true =>
      have : j = 45 := by simpa using hi
      subst this
      exact ⟨g, PA, pc, d45, hg, setRow_heap _ _ _ _ _ _ hz, hpr.keep (keepB_setRow hz (by decide))⟩
    | false =>
      rw [hi] at hj
      simp only [cond_false] at hj ⊢
      generalize List.getD _ j _ = y at hj ⊢
      cases y with
      | any => trivial
      | is u => exact hj
      | conv => intro hbf; cases hbf
      | aggr => intro hbf; cases hbf
  · intro vs w4 hS4 hE
    refine ShutH.out ?_
    obtain ⟨g, PA, pc, d45, hg, hz, hpr⟩ := hE 45 _ _ rfl rfl
    refine ⟨?_⟩
    simp only [putL, Act.put, List.setIfInBounds_toArray, List.set_cons_zero, List.set_cons_succ, Nat.zero_add, Nat.reduceAdd]
    rw [d45]
    have KH := Lib.hid (hhash_any g h PA pc w4 hz (HOK.out.below hS4.2) hpr HC.out (HKW.out.belowS hS4.2))
    have HB4 := Lib.hid hS4.2
    clear hE hS4 hz hpr d45
    unfold ptrTo at KH
    go_wp2_with fail
    refine KH.out.mono ?_
    rintro e w5 ⟨A5, m5, c5, rfl, hr5, hb5⟩
    have HR5 := Lib.hid hr5; have HB5 := Lib.hid (HB4.out.trans (hb5.mono HB4.out.size))
    clear hr5 hb5
    go_wp2_with fail
    go_ret
    exact ⟨A5, m5, c5, rfl, HR5.out, HB5.out⟩
end Go.Proofs.YtikikddkhikfkaaDoor
