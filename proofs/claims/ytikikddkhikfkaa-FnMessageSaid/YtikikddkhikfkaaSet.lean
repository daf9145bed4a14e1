/-
  The set that a law makes of a list of seats (laws.set without its last call), and what it calls: walks. By the session.
-/
import Derived.Test.YtikikddkhikfkaaRows
import Derived.Test.YtikikddkhikfkaaMem
namespace Go.Proofs.Ytikikddkhikfkaa
open Go.RowKit

/-- are a seat's address or key those of another? -/
def sameB (x s : Sd) : Bool := x.adr.toList == s.adr.toList || x.key.toList == s.key.toList

set_option maxHeartbeats 400000 in
theorem cl_set (x s : Sd) (sb : Nat) (w : World) (h0 : w.cell? ⟨sb, 0, none⟩ = some (.string s.adr)) (h1 : w.cell? ⟨sb, 1, none⟩ = some (.string s.key)) (hsb : sb < w.heap.size) :
    Calls Try.prog 40 #[.agg #[.string x.adr, .string x.key, .int .i64 x.pow, .int .i64 x.pri], .pointer (some ⟨sb, 0, none⟩)] w fun e w' => e = .returned (.bool (sameB x s)) ∧ Below w.heap.size w w' := by
  by_cases ha : x.adr.toList = s.adr.toList
  · go_enter Try.func40, Try.ntmps40
    go_wp2
    go_ret
    exact ⟨by simp [sameB, ha], (Below.refl _ _).alloc (Nat.le_refl _) _⟩
  · have ha' : (x.adr.toList == s.adr.toList) = false := by simpa using ha
    go_enter Try.func40, Try.ntmps40
    go_wp2
    go_ret
    exact ⟨by simp [sameB, ha'], (Below.refl _ _).alloc (Nat.le_refl _) _⟩

/-- the first place in a list for which p holds, from k on -/
def findAt {α : Type} (p : α → Bool) : List α → Nat → Int
  | [], _ => -1
  | x :: r, k => if p x then k else findAt p r (k + 1)
theorem findAt_drop {α : Type} (p : α → Bool) (l : List α) (k : Nat) (x : α) (hx : l[k]? = some x) : findAt p (l.drop k) k = if p x then (k : Int) else findAt p (l.drop (k + 1)) (k + 1) := by
  have hk : k < l.length := (List.getElem?_eq_some_iff.1 hx).1
  rw [List.drop_eq_getElem_cons hk]
  have : l[k] = x := (List.getElem?_eq_some_iff.1 hx).2
  simp only [findAt, this]
theorem findAt_any {α : Type} (p : α → Bool) (l : List α) : ∀ k : Nat, decide (0 ≤ findAt p l k) = l.any p := by
  induction l with
  | nil => intro k; simp [findAt]
  | cons x r ih =>
    intro k
    simp only [findAt, List.any_cons]
    by_cases h : p x = true
    · simp only [h, if_true, Bool.true_or]; simp
    · simp only [h, Bool.false_or]; exact ih (k + 1)

set_option maxHeartbeats 800000 in
theorem index_set (l : List Sd) (A : Option Addr) (n c : Nat) (s : Sd) (sb : Nat) (w : World) (hr : Rd w w.heap.size 4 A n (cellsOf l)) (hn : n ≤ 1000000)
    (h0 : w.cell? ⟨sb, 0, none⟩ = some (.string s.adr)) (h1 : w.cell? ⟨sb, 1, none⟩ = some (.string s.key)) (hsb : sb < w.heap.size) :
    Calls Try.prog 61 #[.slice A n c, .func (.func 40) #[] #[.pointer (some ⟨sb, 0, none⟩)]] w fun e w' => e = .returned (.int .i64 (findAt (fun x => sameB x s) l 0)) ∧ Below w.heap.size w w' := by
  have hl := hr.len
  have HR := Lib.hid hr; clear hr
  have HL := Lib.hid hl; clear hl
  have H0 := Lib.hid h0; have H1 := Lib.hid h1; clear h0 h1
  go_enter Try.func61, Try.ntmps61
  go_wp2
  go_loopw [5, 8] (fun _ i wr => ∃ k : Nat, k ≤ n ∧ i = .int .i64 k ∧ Hid (findAt (fun x => sameB x s) (l.drop k) k = findAt (fun x => sameB x s) l 0) ∧ Below w.heap.size w wr) (fun _ i _ => n - (intOf i).toNat)
  case atStart => exact ⟨0, Nat.zero_le _, rfl, rfl, Below.refl _ _⟩
  case round =>
    obtain ⟨k, hk, rfl, HF, hb⟩ := hrel
    have hz := hb.size
    have h0 : wr.cell? ⟨sb, 0, none⟩ = some (.string s.adr) := (hb.cell (p := ⟨sb, 0, none⟩) hsb).trans H0.out
    have h1 : wr.cell? ⟨sb, 1, none⟩ = some (.string s.key) := (hb.cell (p := ⟨sb, 1, none⟩) hsb).trans H1.out
    have hs' : sb < wr.heap.size := by omega
    by_cases hlt : k < n
    · have hk' : k < l.length := by have := HL.out; omega
      have hx : l[k]? = some l[k] := List.getElem?_eq_getElem hk'
      obtain ⟨ad, rfl, _, c0, c1, c2, c3⟩ := (HR.out.below hb).seat hx
      have hd := findAt_drop (fun x => sameB x s) l k _ hx
      rw [HF.out] at hd
      clear HF
      generalize l[k] = x at *
      have HX := Lib.hid hx; clear hx
      cases hp : sameB x s with
      | true =>
        rw [hp, if_pos rfl] at hd
        have HD := Lib.hid hd; clear hd
        have HP := Lib.hid hp; clear hp
        go_wp2_with (go_at_call 40; refine (cl_set x s sb _ h0 h1 hs').mono ?_; rw [HP.out]; rintro e w1 ⟨rfl, hb1⟩)
        go_ret
        exact ⟨ret_int HD.out.symm, hb.trans (hb1.mono hz)⟩
      | false =>
        rw [hp, if_neg (by simp)] at hd
        have HD := Lib.hid hd; clear hd
        have HP := Lib.hid hp; clear hp
        go_wp2_with (go_at_call 40; refine (cl_set x s sb _ h0 h1 hs').mono ?_; rw [HP.out]; rintro e w1 ⟨rfl, hb1⟩)
        go_roundw
        case rel => exact ⟨k + 1, by omega, by go_num, HD.out.symm, hb.trans (hb1.mono hz)⟩
        case measure => simp [intOf]; omega
    · have e : k = n := by omega
      have hd : findAt (fun x => sameB x s) l 0 = -1 := by rw [← HF.out, List.drop_of_length_le (by have := HL.out; omega)]; rfl
      have HD := Lib.hid hd; clear hd
      have HE := Lib.hid e; clear e
      go_wp2
      go_ret
      exact ⟨ret_int HD.out.symm, hb⟩

theorem contains_set (l : List Sd) (A : Option Addr) (n c : Nat) (s : Sd) (sb : Nat) (w : World) (hr : Rd w w.heap.size 4 A n (cellsOf l)) (hn : n ≤ 1000000)
    (h0 : w.cell? ⟨sb, 0, none⟩ = some (.string s.adr)) (h1 : w.cell? ⟨sb, 1, none⟩ = some (.string s.key)) (hsb : sb < w.heap.size) :
    Calls Try.prog 39 #[.slice A n c, .func (.func 40) #[] #[.pointer (some ⟨sb, 0, none⟩)]] w fun e w' => e = .returned (.bool (l.any fun x => sameB x s)) ∧ Below w.heap.size w w' := by
  have HI := Lib.hid (index_set l A n c s sb w hr hn h0 h1 hsb)
  have HA := Lib.hid (findAt_any (fun x => sameB x s) l 0)
  clear hr h0 h1
  go_enter Try.func39, Try.ntmps39
  go_wp2_with (go_at_call 61; refine HI.out.mono ?_; rintro e w1 ⟨rfl, hb1⟩)
  go_ret
  exact ⟨ret_bool HA.out, hb1⟩
end Go.Proofs.Ytikikddkhikfkaa
