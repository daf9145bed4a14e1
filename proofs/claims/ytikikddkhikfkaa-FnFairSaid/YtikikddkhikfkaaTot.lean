/-
  The set's power and its mean priority: updateTotalVotingPower, TotalVotingPower, computeAvgProposerPriority: walks. By the session.
-/
import Derived.Test.YtikikddkhikfkaaDiv
import Derived.Test.YtikikddkhikfkaaResc
set_option linter.unusedSimpArgs false
namespace Go.Proofs.Ytikikddkhikfkaa
open Go.RowKit

def powsOf (l : List Sd) : List Int := l.map Sd.pow
def sumI (l : List Int) : Int := l.foldl (· + ·) 0
theorem sumI_snoc (l : List Int) (x : Int) : sumI (l ++ [x]) = sumI l + x := by unfold sumI; rw [List.foldl_append]; rfl
theorem sumI_acc (l : List Int) (a : Int) : l.foldl (· + ·) a = a + sumI l := by
  unfold sumI
  induction l generalizing a with
  | nil => simp
  | cons x r ih => simp only [List.foldl_cons]; rw [ih (a + x), ih (0 + x)]; omega
theorem sumI_cons (l : List Int) (x : Int) : sumI (x :: l) = x + sumI l := by
  unfold sumI; rw [List.foldl_cons, sumI_acc]; unfold sumI; omega
theorem sumI_bd (l : List Int) (lo hi : Int) (h : ∀ x ∈ l, lo ≤ x ∧ x ≤ hi) : l.length * lo ≤ sumI l ∧ sumI l ≤ l.length * hi := by
  induction l with
  | nil => simp [sumI]
  | cons x r ih =>
    have h1 := h x (List.mem_cons_self ..)
    have h2 := ih fun y hy => h y (List.mem_cons_of_mem _ hy)
    rw [sumI_cons, List.length_cons, Int.natCast_add, Int.add_mul, Int.add_mul]
    omega
/-- the power of all -/
def totL (l : List Sd) : Int := sumI (powsOf l)
/-- the mean priority, to the lower whole number -/
def avgL (l : List Sd) : Int := sumI (prisOf l) / l.length

theorem map_take_succ {f : Sd → Int} {ts : List Tv} {k : Nat} {t : Tv} (ht : ts[k]? = some t) : ((ts.map Tv.x).map f).take (k + 1) = ((ts.map Tv.x).map f).take k ++ [f t.x] := by
  have h := List.getElem?_eq_some_iff.1 ht
  have hl : k < ((ts.map Tv.x).map f).length := by simp; exact h.1
  rw [List.take_succ_eq_append_getElem hl]
  have := h.2
  simp [this]

set_option maxRecDepth 100000 in
set_option maxHeartbeats 1600000 in
theorem updTotal_any (lo g : Nat) (A : Option Addr) (c : Nat) (bs : List Nat) (ts : List Tv) (prop : Value) (tot : Int) (same : Bool) (w : World) (h : VSet w lo g A c bs ts prop tot same) (hn : bs.length ≤ 1000)
    (hp : ∀ t ∈ ts, 0 ≤ t.x.pow ∧ t.x.pow ≤ 1125899906842624) :
    Calls Try.prog 82 #[ptrTo g] w fun e w' => e = .returned (.tuple #[]) ∧ w' = w.setCell ⟨g, 2, none⟩ (.int .i64 (totL (ts.map Tv.x))) := by
  unfold ptrTo
  have h0 : w.cell? ⟨g, 0, none⟩ = some (.slice A bs.length c) := h.head.cell 0
  have h2 : w.cell? ⟨g, 2, none⟩ = some (.int .i64 tot) := h.head.cell 2
  have hf := h.head.free 2
  have H := Lib.hid h; have HP := Lib.hid hp; clear h hp
  go_enter Try.func82, Try.ntmps82
  go_wp2
  go_loop [2, 10] (fun s i => ∃ k : Nat, k ≤ bs.length ∧ i = .int .i64 k ∧ s = .int .i64 (sumI ((powsOf (ts.map Tv.x)).take k))) (fun _ i => bs.length - (intOf i).toNat)
  case atStart => exact ⟨0, Nat.zero_le _, rfl, rfl⟩
  case round =>
    obtain ⟨k, hk, rfl, rfl⟩ := hrel
    by_cases hlt : k < bs.length
    · obtain ⟨b, t, hb, ht⟩ := H.out.at_ hlt
      obtain ⟨r, rfl, _, hp⟩ := H.out.ptr hb
      obtain ⟨_, hbv, hok⟩ := H.out.vals k b t hb ht
      obtain ⟨c0, c1, c2, c3⟩ := t.val_cells hbv
      have hst : (powsOf (ts.map Tv.x)).take (k + 1) = (powsOf (ts.map Tv.x)).take k ++ [t.x.pow] := map_take_succ ht
      have hpt := HP.out t (List.mem_of_getElem? ht)
      have hbd := sumI_bd ((powsOf (ts.map Tv.x)).take k) 0 1125899906842624 (fun x hx => by
        obtain ⟨s, hs, rfl⟩ := List.mem_map.1 (List.mem_of_mem_take hx)
        obtain ⟨u, hu, rfl⟩ := List.mem_map.1 hs
        exact HP.out u hu)
      have hlen : ((powsOf (ts.map Tv.x)).take k).length ≤ k := List.length_take_le _ _
      generalize ((powsOf (ts.map Tv.x)).take k).length = m at *
      have hs := sumI_snoc ((powsOf (ts.map Tv.x)).take k) t.x.pow
      rw [← hst] at hs
      generalize sumI ((powsOf (ts.map Tv.x)).take k) = s at *
      have hcl : clip (s + t.x.pow) = s + t.x.pow := clip_of ⟨by omega, by omega⟩
      have kc := fun W => addClip_any s t.x.pow W ⟨by omega, by omega⟩ ⟨by omega, by omega⟩
      rw [hcl] at kc
      have HS := Lib.hid hs; have HBV := Lib.hid hbv; have HOK := Lib.hid hok
      have KC := Lib.hid kc; clear kc hcl hs hbv hok hst hb ht
      go_wp2_with fail
      refine (KC.out _).mono ?_
      rintro e w1 ⟨rfl, rfl⟩
      go_wp2
      go_round
      case rel => exact ⟨k + 1, by omega, by go_num, by rw [HS.out]⟩
      case measure => simp [intOf]; omega
    · have hkn : k = bs.length := by omega
      have hsum : sumI ((powsOf (ts.map Tv.x)).take k) = totL (ts.map Tv.x) := by
        unfold totL; rw [List.take_of_length_le (by simp [powsOf, H.out.len]; omega)]
      rw [hsum]
      clear hsum
      go_wp2
      go_end0
      exact ⟨rfl, rfl⟩

/-- TotalVotingPower, where the total is cached -/
theorem tot_any (lo g : Nat) (A : Option Addr) (c : Nat) (bs : List Nat) (ts : List Tv) (prop : Value) (tot : Int) (same : Bool) (w : World) (h : VSet w lo g A c bs ts prop tot same) (h0 : tot ≠ 0) :
    Calls Try.prog 67 #[ptrTo g] w fun e w' => e = .returned (.int .i64 tot) ∧ w = w' := by
  unfold ptrTo
  have h2 : w.cell? ⟨g, 2, none⟩ = some (.int .i64 tot) := h.head.cell 2
  have hz : (tot == 0) = false := by simpa using h0
  clear h
  go_enter Try.func67, Try.ntmps67
  go_wp2
  go_ret
  exact ⟨rfl, rfl⟩
/-- TotalVotingPower, where it is not -/
theorem tot_new (lo g : Nat) (A : Option Addr) (c : Nat) (bs : List Nat) (ts : List Tv) (prop : Value) (same : Bool) (w : World) (h : VSet w lo g A c bs ts prop 0 same) (hn : bs.length ≤ 1000)
    (hp : ∀ t ∈ ts, 0 ≤ t.x.pow ∧ t.x.pow ≤ 1125899906842624) :
    Calls Try.prog 67 #[ptrTo g] w fun e w' => e = .returned (.int .i64 (totL (ts.map Tv.x))) ∧ w' = w.setCell ⟨g, 2, none⟩ (.int .i64 (totL (ts.map Tv.x))) := by
  have KC := Lib.hid (updTotal_any lo g A c bs ts prop 0 same w h hn hp)
  unfold ptrTo at *
  have h2 : w.cell? ⟨g, 2, none⟩ = some (.int .i64 0) := h.head.cell 2
  have h3 : (w.setCell ⟨g, 2, none⟩ (.int .i64 (totL (ts.map Tv.x)))).cell? ⟨g, 2, none⟩ = some (.int .i64 (totL (ts.map Tv.x))) := (h.setTot _).head.cell 2
  clear h
  go_enter Try.func67, Try.ntmps67
  go_wp2_with fail
  refine KC.out.mono ?_
  rintro e w1 ⟨rfl, rfl⟩
  go_wp2
  go_ret
  exact ⟨rfl, rfl⟩
end Go.Proofs.Ytikikddkhikfkaa
