/-
  The comparison of changes by what they add to the power (verifyUpdates$2), and TotalVotingPower whichever way: walks. By the session.
-/
import Derived.Test.YtikikddkhikfkaaGreatDoorCh5
import Derived.Test.YtikikddkhikfkaaGreatDoorCh11
import Derived.Test.YtikikddkhikfkaaGreatDoorCh8
set_option linter.all false
namespace Go.Proofs.YtikikddkhikfkaaGreatDoor
open Go.RowKit

theorem keepV_drew {lo g : Nat} {A : Option Addr} {c : Nat} {bs : List Nat} {ts : List Tv} {prop : Value} {tot : Int} {same : Bool} {w : World} (h : VSet w lo g A c bs ts prop tot same) (q : Nat) : VSet (w.drewN q) lo g A c bs ts prop tot same := h.keep (KeepV.drewN lo w q)
set_option maxHeartbeats 3200000 in
theorem lessD_any (lo g : Nat) (A : Option Addr) (c : Nat) (bs : List Nat) (ts : List Tv) (prop : Value) (tot : Int) (same : Bool) (w : World) (h : VSet w lo g A c bs ts prop tot same) (hn : bs.length ≤ 1000000)
    (hp : ∀ t ∈ ts, 0 ≤ t.x.pow ∧ t.x.pow ≤ 2305843009213693952) (b1 b2 b3 r n cu i j b b' : Nat) (t t' : Tv) (hi : i < n) (hj : j < n) (hnn : n ≤ 1000000)
    (k1 : w.cell? ⟨b1, 0, none⟩ = some (.pointer (some ⟨g, 0, none⟩))) (k2 : w.cell? ⟨b2, 0, none⟩ = some (.func (.func 132) #[] #[])) (k3 : w.cell? ⟨b3, 0, none⟩ = some (.slice (some ⟨r, 0, none⟩) n cu))
    (ci : w.cell? ⟨r, i, none⟩ = some (.pointer (some ⟨b, 0, none⟩))) (cj : w.cell? ⟨r, j, none⟩ = some (.pointer (some ⟨b', 0, none⟩)))
    (hb : Blk w b 136 t.val) (hb' : Blk w b' 136 t'.val) (ho : t.ok w) (ho' : t'.ok w) (hq : 0 ≤ t.x.pow ∧ t.x.pow ≤ 2305843009213693952) (hq' : 0 ≤ t'.x.pow ∧ t'.x.pow ≤ 2305843009213693952) (hbb : b = b' → t = t') :
    Calls Tryz.prog 134 #[.int .i64 i, .int .i64 j, .pointer (some ⟨b2, 0, none⟩), .pointer (some ⟨b3, 0, none⟩), .pointer (some ⟨b1, 0, none⟩)] w fun e w' => e = .returned (.bool (decide (deltaL (ts.map Tv.x) t.x < deltaL (ts.map Tv.x) t'.x))) ∧ ∃ q, w' = w.drewN q := by
  obtain ⟨K, hK⟩ : ∃ K : Nat → Int, K = fun b0 => if b0 = b then deltaL (ts.map Tv.x) t.x else deltaL (ts.map Tv.x) t'.x := ⟨_, rfl⟩
  have hKb : K b = deltaL (ts.map Tv.x) t.x := by rw [hK]; simp
  have hKb' : K b' = deltaL (ts.map Tv.x) t'.x := by
    rw [hK]
    by_cases e : b' = b
    · rw [hbb e.symm]; simp
    · simp [e]
  have KD : ∀ (q b0 : Nat), b0 = b ∨ b0 = b' → Calls Tryz.prog 132 #[.pointer (some ⟨b0, 0, none⟩), .pointer (some ⟨g, 0, none⟩)] (w.drewN q) fun e w' => e = .returned (.int .i64 (K b0)) ∧ ∃ k, w' = (w.drewN q).drewN k := fun q b0 h0 => by
    rcases h0 with rfl | rfl
    · rw [hKb]; exact delta_any lo g A c bs ts prop tot same _ (keepV_drew h q) hn _ t hb (ho.drewN q) hp hq
    · rw [hKb']; exact delta_any lo g A c bs ts prop tot same _ (keepV_drew h q) hn _ t' hb' (ho'.drewN q) hp hq'
  rw [← hKb, ← hKb']
  clear h hp hb hb' ho ho' hq hq' hbb hKb hKb' hK
  go_enter Tryz.func134, Tryz.ntmps134
  go_wp2
  go_quiet ((exact quietLN (KD _ _ (by simp))))
  go_wp2
  go_ret
  exact ⟨rfl, _, rfl⟩
/-- TotalVotingPower: cached or not -/
theorem totG_any (lo g : Nat) (A : Option Addr) (c : Nat) (bs : List Nat) (ts : List Tv) (prop : Value) (tot : Int) (same : Bool) (w : World) (h : VSet w lo g A c bs ts prop tot same) (hn : bs.length ≤ 1000) (ht : tot = 0 ∨ tot = totL (ts.map Tv.x))
    (hp : ∀ t ∈ ts, 0 ≤ t.x.pow ∧ t.x.pow ≤ 1125899906842624) :
    Calls Tryz.prog 87 #[ptrTo g] w fun e w' => e = .returned (.int .i64 (totL (ts.map Tv.x))) ∧ VSet w' lo g A c bs ts prop (totL (ts.map Tv.x)) same ∧ OnlyL [g] w w' := by
  by_cases h0 : tot = 0
  · subst h0
    refine (tot_new lo g A c bs ts prop same w h hn hp).mono ?_
    rintro e w' ⟨rfl, rfl⟩
    refine ⟨rfl, h.setTot _, ⟨rfl, rfl, rfl, by simp [World.setCell], fun k _ hk => Below.heap_setCell w ⟨g, 2, none⟩ _ k (fun e => hk (by rw [e]; simp)), KeepB.setCell (p := ⟨g, 2, none⟩) h.head (by decide) _⟩⟩
  · obtain rfl : tot = totL (ts.map Tv.x) := by rcases ht with h | h; exact absurd h h0; exact h
    refine (tot_any lo g A c bs ts prop _ same w h h0).mono ?_
    rintro e w' ⟨rfl, rfl⟩
    exact ⟨rfl, h, OnlyL.refl _ _⟩
end Go.Proofs.YtikikddkhikfkaaGreatDoor
