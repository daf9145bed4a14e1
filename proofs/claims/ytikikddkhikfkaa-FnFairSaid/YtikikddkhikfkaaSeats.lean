/-
  impl.seats: the walk. By the session.
-/
import Derived.Test.YtikikddkhikfkaaRows
import Derived.Test.YtikikddkhikfkaaMem
import Derived.Laws.IdiomStrings
namespace Go.Proofs.Ytikikddkhikfkaa
open Go.RowKit

theorem infoTSeat : (Try.prog.info? 130).map (fun i => (i.zero, i.size, i.bytes)) = some (some (.agg #[.slice none 0 0, .slice none 0 0, .int .i64 0, .int .i64 0]), 4, 64) := by kernel_rfl

set_option maxRecDepth 100000 in
set_option maxHeartbeats 1600000 in
theorem seats_any (l : List Sd) (A : Option Addr) (n c : Nat) (w : World) (hr : Rd w w.heap.size 4 A n (cellsOf l)) (hn : n ≤ 1000000) :
    Calls Try.prog 44 #[.slice A n c] w fun e w' => ∃ (A' : Option Addr) (c' : Nat) (ts : List Tv), e = .returned (.slice A' n c') ∧ Rd w' w'.heap.size 4 A' n (ts.flatMap Tv.seat) ∧ ts.map Tv.x = l ∧ (∀ t ∈ ts, t.ok w') ∧ Below w.heap.size w w' := by
  obtain ⟨i0, hi0, hz0, hz1, hz2⟩ := info_parts infoTSeat
  have HI := Lib.hid hi0; have HZ0 := Lib.hid hz0; have HZ1 := Lib.hid hz1; have HZ2 := Lib.hid hz2
  clear hi0 hz0 hz1 hz2
  have HL := Lib.hid hr.len
  have HR := Lib.hid hr; clear hr
  go_enter Try.func44, Try.ntmps44
  go_wp2
  go_loopw [3, 8] (fun v i wr => ∃ (k : Nat) (A1 : Option Addr) (c1 : Nat) (ts : List Tv), k ≤ n ∧ i = .int .i64 k ∧ v = .slice A1 k c1 ∧ Hid (ts.map Tv.x = l.take k) ∧ Hid (∀ t ∈ ts, t.ok wr) ∧ Hid (wr.ownsRow w.heap.size 130 4 (.slice A1 k c1) k (ts.flatMap Tv.seat)) ∧ Hid (Below w.heap.size w wr)) (fun _ i _ => n - (intOf i).toNat)
  case atStart => exact ⟨0, none, 0, [], Nat.zero_le _, rfl, rfl, rfl, (by intro t h; cases h), World.ownsRow_nil w w.heap.size _ _, Below.refl _ _⟩
  case round =>
    obtain ⟨k, A1, c1, ts, hk, rfl, rfl, HM, HK, HO, HB⟩ := hrel
    have hz := HB.out.size
    by_cases hlt : k < n
    · have hk' : k < l.length := by have := HL.out; omega
      have hx : l[k]? = some l[k] := List.getElem?_eq_getElem hk'
      obtain ⟨ad, rfl, _, c0, c1', c2, c3⟩ := (HR.out.below HB.out).seat hx
      have hst : l.take (k + 1) = l.take k ++ [l[k]] := List.take_succ_eq_append_getElem hk'
      generalize l[k] = x at *
      have HST := Lib.hid hst; have HXX := Lib.hid hx
      clear hst hx
      obtain ⟨f1, kc⟩ := run_conv (P := Try.prog) 9 22 Try.underlying9 Try.underlying22 Try.underlying5 x.adr
      obtain ⟨f2, kd⟩ := run_conv (P := Try.prog) 9 22 Try.underlying9 Try.underlying22 Try.underlying5 x.key
      go_wp2_with (at_builtin; refine wpList_app _ rfl (.tmp 12) (.tmp 24) 87 rfl w.heap.size 130 i0 _ 4 64 Try.underlying87 HI.out HZ0.out HZ1.out HZ2.out rfl (by decide) (.slice A1 k c1) k (ts.flatMap Tv.seat) rfl ?ho (wr.heap.size + 1 + 1 + 1 + 1) (some ⟨wr.heap.size + 1 + 1 + 1, 0, none⟩) 1 1 (Tv.seat ⟨x, some ⟨wr.heap.size + 1, 0, none⟩, f1 (wr.alloc (.cells #[.string x.adr, .string x.key, .int .i64 x.pow, .int .i64 x.pri] 79)), some ⟨wr.heap.size + 1 + 1, 0, none⟩, f2 (((wr.alloc (.cells #[.string x.adr, .string x.key, .int .i64 x.pow, .int .i64 x.pri] 79)).alloc (bObj x.adr (f1 (wr.alloc (.cells #[.string x.adr, .string x.key, .int .i64 x.pow, .int .i64 x.pri] 79))))).drew)⟩) rfl ?hr (Tv.seat_one _) ?q1 ?q2 ?hb ?_; (case q1 => simp only [maxLen]; omega); (case q2 => omega); (case hr => refine Rd.drew (Rd.drew (Rd.new _ _ _ 4 1 _ rfl ?_)); simp); (case ho => exact ((((HO.out.alloc _).alloc _).alloc _).alloc _)); (case hb => simp; omega); intro A2 c2 w2 hown2 hg2 _; rw [flat_snoc] at hown2)
      go_roundw
      case rel =>
        refine ⟨k + 1, A2, c2, _, by omega, by go_num, rfl, ?_, ?_, hown2, ?_⟩
        · show List.map _ _ = _
          rw [HST.out, ← HM.out]; simp
        · have k2 : KeepB (((wr.alloc (.cells #[.string x.adr, .string x.key, .int .i64 x.pow, .int .i64 x.pri] 79)).alloc (bObj x.adr (f1 (wr.alloc (.cells #[.string x.adr, .string x.key, .int .i64 x.pow, .int .i64 x.pri] 79))))).alloc (bObj x.key (f2 (((wr.alloc (.cells #[.string x.adr, .string x.key, .int .i64 x.pow, .int .i64 x.pri] 79)).alloc (bObj x.adr (f1 (wr.alloc (.cells #[.string x.adr, .string x.key, .int .i64 x.pow, .int .i64 x.pri] 79))))).drew)))) w2 := KeepB.trans (b := World.alloc _ _) (KeepB.alloc _ _) (KeepB.of_grown (w := World.drew (World.drew _)) hg2 (own_block_ne (w := wr) HO.out (by decide) (((((Below.refl wr.heap.size wr).alloc (Nat.le_refl _) _).alloc (by simp) _).alloc (by simp; omega) _).alloc (by simp; omega) _).block))
          intro t ht
          rcases List.mem_append.1 ht with ht | ht
          · exact ((((HK.out t ht).keep (KeepB.alloc _ _)).keep (KeepB.alloc _ _)).keep (KeepB.alloc _ _)).keep k2
          · obtain rfl := List.mem_singleton.1 ht
            exact ⟨((Byt.conv _ _ _ _ (by simp)).keep (KeepB.alloc _ _)).keep k2, (Byt.conv _ _ _ _ (by simp)).keep k2⟩
        · exact ((((HB.out.alloc hz _).alloc (by simp; omega) _).alloc (by simp; omega) _).alloc (by simp; omega) _).drew.drew.grown hg2 (by simp; omega) (own_base HO.out)
      case measure => simp [intOf]; omega
    · obtain rfl : k = n := by omega
      have h1 := HO.out
      have h2 := HM.out
      rw [List.take_of_length_le (by have := HL.out; omega)] at h2
      have H1 := Lib.hid (Rd.of_own h1); clear h1
      have H2 := Lib.hid h2; clear h2
      go_wp2
      go_ret
      exact ⟨A1, c1, ts, rfl, H1.out, H2.out, HK.out, HB.out⟩
end Go.Proofs.Ytikikddkhikfkaa
