/-
  checkAllKeysHaveSameType, and the methods of a plain key: walks. By the session.
-/
import Derived.Test.YtikikddkhikfkaaRows
import Derived.Test.YtikikddkhikfkaaMem
namespace Go.Proofs.Ytikikddkhikfkaa
open Go.RowKit

def plainS : ByteArray := ⟨#[112, 108, 97, 105, 110]⟩
theorem method_type (A B : Option Addr) (n c m d : Nat) (w : World) : (method 300 132 (.agg #[.slice A n c, .slice B m d, .bool false]) "Type").run Try.prog w = .ok (136, .agg #[.slice A n c, .slice B m d, .bool false]) w := by kernel_rfl
theorem method_bytes (A B : Option Addr) (n c m d : Nat) (w : World) : (method 300 132 (.agg #[.slice A n c, .slice B m d, .bool false]) "Bytes").run Try.prog w = .ok (135, .agg #[.slice A n c, .slice B m d, .bool false]) w := by kernel_rfl

set_option maxHeartbeats 400000 in
theorem type_any (A B : Option Addr) (n c m d : Nat) (w : World) :
    Calls Try.prog 136 #[.agg #[.slice A n c, .slice B m d, .bool false]] w fun e w' => e = .returned (.string ⟨#[112, 108, 97, 105, 110]⟩) ∧ Below w.heap.size w w' := by
  go_enter Try.func136, Try.ntmps136
  go_wp2
  go_ret
  exact ⟨rfl, (Below.refl _ _).alloc (Nat.le_refl _) _⟩
set_option maxHeartbeats 400000 in
theorem kbytes_any (A B : Option Addr) (n c m d : Nat) (w : World) :
    Calls Try.prog 135 #[.agg #[.slice A n c, .slice B m d, .bool false]] w fun e w' => e = .returned (.slice A n c) ∧ Below w.heap.size w w' := by
  go_enter Try.func135, Try.ntmps135
  go_wp2
  go_ret
  exact ⟨rfl, (Below.refl _ _).alloc (Nat.le_refl _) _⟩

set_option maxHeartbeats 400000 in
theorem size_any (g n c : Nat) (A : Option Addr) (w : World) (h : w.cell? ⟨g, 0, none⟩ = some (.slice A n c)) :
    Calls Try.prog 79 #[.pointer (some ⟨g, 0, none⟩)] w fun e w' => e = .returned (.int .i64 n) ∧ w = w' := by
  go_enter Try.func79, Try.ntmps79
  go_wp2
  go_ret
  exact ⟨rfl, rfl⟩

set_option maxRecDepth 100000 in
set_option maxHeartbeats 1600000 in
theorem keys_any (lo g : Nat) (A : Option Addr) (c : Nat) (bs : List Nat) (ts : List Tv) (prop : Value) (tot : Int) (same : Bool) (w : World) (h : VSet w lo g A c bs ts prop tot same) (hn : bs.length ≤ 1000000) :
    Calls Try.prog 62 #[ptrTo g] w fun e w' => e = .returned (.tuple #[]) ∧ VSet w' lo g A c bs ts prop tot true ∧ w.grownBy w' (some g) := by
  unfold ptrTo
  have h0 : w.cell? ⟨g, 0, none⟩ = some (.slice A bs.length c) := h.head.cell 0
  have h3 : w.cell? ⟨g, 3, none⟩ = some (.bool same) := h.head.cell 3
  have hf := h.head.free
  have hg := h.head.lt
  have H := Lib.hid h; clear h
  have fin : ∀ wr, Below w.heap.size w wr → Hid (VSet (wr.setCell ⟨g, 3, none⟩ (.bool true)) lo g A c bs ts prop tot true ∧ w.grownBy (wr.setCell ⟨g, 3, none⟩ (.bool true)) (some g)) := fun wr hb => by
    have hv := H.out.keep (KeepV.of_below lo hb (Nat.le_refl _))
    exact ⟨hv.mark, (grownAny_of hb (some g)).trans (grown_put wr g 3 _)⟩
  have FIN := Lib.hid fin; clear fin
  by_cases hz : bs.length = 0
  · have hz' : ((bs.length : Int) == 0) = true := by simpa using hz
    have HZ := Lib.hid hz; clear hz
    go_enter Try.func62, Try.ntmps62
    go_wp2_with (go_at_call 79; refine (size_any g bs.length c A w h0).mono ?_; rintro e w' ⟨rfl, rfl⟩)
    refine bodyPost_ret (results_none rfl _ _ _) rfl ?_
    exact ⟨rfl, FIN.out w (Below.refl _ _)⟩
  · have hz' : ((bs.length : Int) == 0) = false := by simpa using hz
    go_enter Try.func62, Try.ntmps62
    go_wp2_with (go_at_call 79; refine (size_any g bs.length c A w h0).mono ?_; rintro e w' ⟨rfl, rfl⟩)
    go_loopw [2, 16] (fun v i wr => ∃ k : Nat, k ≤ bs.length ∧ i = .int .i64 k ∧ Hid (v = if k = 0 then .string ⟨#[]⟩ else .string ⟨#[112, 108, 97, 105, 110]⟩) ∧ Hid (Below w.heap.size w wr)) (fun _ i _ => bs.length - (intOf i).toNat)
    case atStart => exact ⟨0, Nat.zero_le _, rfl, rfl, Below.refl _ _⟩
    case round =>
      obtain ⟨k, hk, rfl, HV, HW⟩ := hrel
      have hg' : g < wr.heap.size := by have := HW.out.size; omega
      have hzz := HW.out.size
      have h0' : wr.cell? ⟨g, 0, none⟩ = some (.slice A bs.length c) := (HW.out.cell (p := ⟨g, 0, none⟩) hg).trans h0
      have h3' : wr.cell? ⟨g, 3, none⟩ = some (.bool same) := (HW.out.cell (p := ⟨g, 3, none⟩) hg).trans h3
      have hf' : wr.frozen? ⟨g, 3, none⟩ = false := (HW.out.frozen (p := ⟨g, 3, none⟩) hg).trans (hf 3)
      by_cases hlt : k < bs.length
      · have hv := H.out.keep (KeepV.of_below lo HW.out (Nat.le_refl _))
        obtain ⟨b, t, hb, ht⟩ := hv.at_ hlt
        obtain ⟨r, rfl, _, hp⟩ := hv.ptr hb
        obtain ⟨_, hbv, hok⟩ := hv.vals k b t hb ht
        obtain ⟨c0, c1, c2, c3⟩ := t.val_cells hbv
        have hbl := hbv.lt
        have c1' : ∀ W, Below wr.heap.size wr W → W.cell? ⟨b, 1, none⟩ = some (.iface 132 (.agg #[.slice t.K t.x.key.size t.d, .slice t.A t.x.adr.size t.c, .bool false])) := fun W hW => (hW.cell (p := ⟨b, 1, none⟩) hbl).trans c1
        have HC1 := Lib.hid c1'
        have HB := Lib.hid hb; have HT := Lib.hid ht; have HBV := Lib.hid hbv; have HOK := Lib.hid hok; have HVV := Lib.hid hv
        clear hb ht hbv hok hv c1'
        have km := fun W => method_type t.K t.A t.x.key.size t.d t.x.adr.size t.c W
        by_cases hk0 : k = 0
        · have e : u2 = .string ⟨#[]⟩ := by have := HV.out; rw [if_pos hk0] at this; exact this
          subst e
          have HK0 := Lib.hid hk0; clear hk0 HV
          go_wp2_with fail
          refine (type_any _ _ _ _ _ _ _).mono ?_
          rintro e w1 ⟨rfl, hb1⟩
          have d1 := HC1.out _ hb1
          go_wp2_with fail
          refine (type_any _ _ _ _ _ _ _).mono ?_
          rintro e w2 ⟨rfl, hb2⟩
          go_wp2
          go_roundw
          case rel => exact ⟨k + 1, by omega, by go_num, (by show _ = _; rw [if_neg (by omega)]), HW.out.trans ((hb1.trans (hb2.mono hb1.size)).mono hzz)⟩
          case measure => simp [intOf]; omega
        · have e : u2 = .string ⟨#[112, 108, 97, 105, 110]⟩ := by have := HV.out; rw [if_neg hk0] at this; exact this
          subst e
          have HK0 := Lib.hid hk0; clear hk0 HV
          go_wp2_with fail
          refine (type_any _ _ _ _ _ _ _).mono ?_
          rintro e w2 ⟨rfl, hb2⟩
          go_wp2
          go_roundw
          case rel => exact ⟨k + 1, by omega, by go_num, (by show _ = _; rw [if_neg (by omega)]), HW.out.trans (hb2.mono hzz)⟩
          case measure => simp [intOf]; omega
      · have HF := Lib.hid (FIN.out wr HW.out)
        clear HV
        go_wp2
        go_end0
        exact ⟨rfl, HF.out.out⟩
end Go.Proofs.Ytikikddkhikfkaa
