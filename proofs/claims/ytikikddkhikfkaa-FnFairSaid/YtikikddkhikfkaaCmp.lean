/-
  Comparing bytes and validators: walks. By the session.
-/
import Derived.Test.YtikikddkhikfkaaRows
import Derived.Test.YtikikddkhikfkaaMem
import Derived.RegionTactic
import Derived.BigRegion
namespace Go.Proofs.Ytikikddkhikfkaa
open Go.RowKit

set_option maxRecDepth 100000 in
set_option maxHeartbeats 800000 in
theorem bequal_any (a b : ByteArray) (A B : Option Addr) (c d : Nat) (w : World) (ha : Byt w A a) (hb : Byt w B b) :
    Calls Try.prog 80 #[.slice A a.size c, .slice B b.size d] w fun e w' => e = .returned (.bool (a.toList == b.toList)) ∧ w = w' := by
  have kc := ha.back (P := Try.prog) 22 9 c Try.underlying22 Try.underlying5 Try.underlying9
  have kd := hb.back (P := Try.prog) 22 9 d Try.underlying22 Try.underlying5 Try.underlying9
  clear ha hb
  go_enter Try.func80, Try.ntmps80
  go_wp2
  go_ret
  exact ⟨rfl, rfl⟩
set_option maxRecDepth 100000 in
set_option maxHeartbeats 800000 in
theorem bcompare_any (a b : ByteArray) (A B : Option Addr) (c d : Nat) (w : World) (ha : Byt w A a) (hb : Byt w B b) :
    Calls Try.prog 98 #[.slice A a.size c, .slice B b.size d] w fun e w' => e = .returned (.int .i64 (Lib.compareBytes a.data.toList b.data.toList)) ∧ w = w' := by
  have H := Lib.hid (run_compare (P := Try.prog) ha hb c d)
  clear ha hb
  go_enter Try.func98, Try.ntmps98
  go_wp2
  rw [run_callFunc_extern Try.func106 (by kernel_rfl) (by kernel_rfl) (by kernel_rfl) (e := Extern.BytealgCompare.compare) (by kernel_rfl), H.out]
  simp only [Result.andThen]
  rw [Oper.upon_value]
  go_wp2
  go_ret
  exact ⟨rfl, rfl⟩

/-- Go's '<' on strings, and the library's compare -/
theorem bytesLess_eq : ∀ a b : List UInt8, Op.bytesLess a b = decide (Lib.compareBytes a b < 0) := by
  intro a
  induction a with
  | nil => intro b; cases b <;> simp [Op.bytesLess, Lib.compareBytes]
  | cons x r ih =>
    intro b
    cases b with
    | nil => simp [Op.bytesLess, Lib.compareBytes]
    | cons y s =>
      simp only [Op.bytesLess, Lib.compareBytes]
      by_cases h1 : x < y
      · simp [h1]
      · by_cases h2 : y < x
        · have : x ≠ y := by rintro rfl; exact h1 h2
          simp [h1, h2, this]
        · have : x = y := UInt8.le_antisymm (UInt8.not_lt.1 h2) (UInt8.not_lt.1 h1)
          subst this
          simp [h1, ih]
theorem compare_zero : ∀ a b : List UInt8, Lib.compareBytes a b = 0 → a = b := by
  intro a
  induction a with
  | nil => intro b; cases b <;> simp [Lib.compareBytes]
  | cons x r ih =>
    intro b
    cases b with
    | nil => simp [Lib.compareBytes]
    | cons y s =>
      simp only [Lib.compareBytes]
      by_cases h1 : x < y
      · simp [h1]
      · by_cases h2 : y < x
        · simp [h1, h2]
        · have : x = y := UInt8.le_antisymm (UInt8.not_lt.1 h2) (UInt8.not_lt.1 h1)
          subst this
          simp only [h1, if_false]
          intro h; rw [ih s h]

/-- is x ahead of y as a proposer? -/
def aheadB (x y : Sd) : Bool := decide (y.pri < x.pri) || (decide (x.pri = y.pri) && Op.bytesLess x.adr.toList y.adr.toList)

set_option maxHeartbeats 400000 in
theorem cmp_nil (b : Nat) (w : World) : Calls Try.prog 81 #[.pointer none, ptrTo b] w fun e w' => e = .returned (ptrTo b) ∧ w = w' := by
  unfold ptrTo
  go_enter Try.func81, Try.ntmps81
  go_wp2
  go_ret
  exact ⟨rfl, rfl⟩

set_option maxRecDepth 100000 in
set_option maxHeartbeats 1600000 in
theorem cmp_yes (a b : Nat) (s t : Tv) (w : World) (ha : Blk w a 136 s.val) (hb : Blk w b 136 t.val) (hs : s.ok w) (ht : t.ok w) (h : aheadB s.x t.x = true) :
    Calls Try.prog 81 #[ptrTo a, ptrTo b] w fun e w' => e = .returned (ptrTo a) ∧ ∃ n, w' = w.drewN n := by
  unfold ptrTo
  have a0 : w.cell? ⟨a, 0, none⟩ = some (.slice s.A s.x.adr.size s.c) := ha.cell 0
  have a3 : w.cell? ⟨a, 3, none⟩ = some (.int .i64 s.x.pri) := ha.cell 3
  have b0 : w.cell? ⟨b, 0, none⟩ = some (.slice t.A t.x.adr.size t.c) := hb.cell 0
  have b3 : w.cell? ⟨b, 3, none⟩ = some (.int .i64 t.x.pri) := hb.cell 3
  have HA := Lib.hid ha; have HB := Lib.hid hb; have HS := Lib.hid hs; have HT := Lib.hid ht
  clear ha hb hs ht
  by_cases h1 : t.x.pri < s.x.pri
  · clear h
    go_enter Try.func81, Try.ntmps81
    go_wp2_with fail
    go_quiet (fail)
    go_wp2
    go_ret
    exact ⟨rfl, _, rfl⟩
  · have h2 : s.x.pri = t.x.pri ∧ Op.bytesLess s.x.adr.toList t.x.adr.toList = true := by simpa [aheadB, h1] using h
    have h3 : Lib.compareBytes s.x.adr.data.toList t.x.adr.data.toList < 0 := by
      have := h2.2; rw [bytesLess_eq, toList_data, toList_data] at this; simpa using this
    have e1 : decide (t.x.pri < s.x.pri) = false := by simpa using h1
    have e2 : decide (s.x.pri < t.x.pri) = false := by simp; omega
    have HC := Lib.hid (fun W (hW : s.ok W ∧ t.ok W) => bcompare_any s.x.adr t.x.adr s.A t.A s.c t.c W hW.1.1 hW.2.1)
    generalize Lib.compareBytes s.x.adr.data.toList t.x.adr.data.toList = r at *
    clear h h1 h2
    go_enter Try.func81, Try.ntmps81
    go_wp2_with fail
    go_quiet (fail)
    go_wp2_with fail
    go_quiet (fail)
    go_wp2_with fail
    go_quiet ((go_at_call 98; first | exact quietA (HC.out _ ⟨HS.out, HT.out⟩) | exact quietL (HC.out _ ⟨HS.out, HT.out⟩)))
    go_wp2
    go_ret
    exact ⟨rfl, _, rfl⟩

set_option maxRecDepth 100000 in
set_option maxHeartbeats 1600000 in
theorem cmp_no (a b : Nat) (s t : Tv) (w : World) (ha : Blk w a 136 s.val) (hb : Blk w b 136 t.val) (hs : s.ok w) (ht : t.ok w) (h : aheadB s.x t.x = false) (hne : s.x.pri ≠ t.x.pri ∨ s.x.adr.toList ≠ t.x.adr.toList) :
    Calls Try.prog 81 #[ptrTo a, ptrTo b] w fun e w' => e = .returned (ptrTo b) ∧ ∃ n, w' = w.drewN n := by
  unfold ptrTo
  have a0 : w.cell? ⟨a, 0, none⟩ = some (.slice s.A s.x.adr.size s.c) := ha.cell 0
  have a3 : w.cell? ⟨a, 3, none⟩ = some (.int .i64 s.x.pri) := ha.cell 3
  have b0 : w.cell? ⟨b, 0, none⟩ = some (.slice t.A t.x.adr.size t.c) := hb.cell 0
  have b3 : w.cell? ⟨b, 3, none⟩ = some (.int .i64 t.x.pri) := hb.cell 3
  have HA := Lib.hid ha; have HB := Lib.hid hb; have HS := Lib.hid hs; have HT := Lib.hid ht
  clear ha hb hs ht
  have h0 : ¬ t.x.pri < s.x.pri := by intro h1; simp [aheadB, h1] at h
  have e1 : decide (t.x.pri < s.x.pri) = false := by simpa using h0
  by_cases h1 : s.x.pri < t.x.pri
  · clear h h0 hne
    go_enter Try.func81, Try.ntmps81
    go_wp2_with fail
    go_quiet (fail)
    go_wp2_with fail
    go_quiet (fail)
    go_wp2
    go_ret
    exact ⟨rfl, _, World.drewN_drewN ..⟩
  · have e2 : decide (s.x.pri < t.x.pri) = false := by simpa using h1
    have h2 : s.x.pri = t.x.pri := by omega
    have h3 : ¬ Lib.compareBytes s.x.adr.data.toList t.x.adr.data.toList < 0 := by
      intro h3
      have : Op.bytesLess s.x.adr.toList t.x.adr.toList = true := by rw [bytesLess_eq, toList_data, toList_data]; simpa using h3
      simp [aheadB, h2, this] at h
    have h4 : Lib.compareBytes s.x.adr.data.toList t.x.adr.data.toList ≠ 0 := fun h4 => by
      have := compare_zero _ _ h4
      rcases hne with h5 | h5
      · exact h5 h2
      · exact h5 (by rw [toList_data, toList_data]; exact this)
    have h5 : 0 < Lib.compareBytes s.x.adr.data.toList t.x.adr.data.toList := by omega
    have HC := Lib.hid (fun W (hW : s.ok W ∧ t.ok W) => bcompare_any s.x.adr t.x.adr s.A t.A s.c t.c W hW.1.1 hW.2.1)
    generalize Lib.compareBytes s.x.adr.data.toList t.x.adr.data.toList = r at *
    clear h h1 h2 h0 h4 h3 hne
    go_enter Try.func81, Try.ntmps81
    go_wp2_with fail
    go_quiet (fail)
    go_wp2_with fail
    go_quiet (fail)
    go_wp2_with fail
    go_quiet ((go_at_call 98; first | exact quietA (HC.out _ ⟨HS.out, HT.out⟩) | exact quietL (HC.out _ ⟨HS.out, HT.out⟩)))
    go_wp2
    go_ret
    exact ⟨rfl, _, rfl⟩
end Go.Proofs.Ytikikddkhikfkaa
