/-
  Seat b6602110aM: a plan that holds the steps is told so.
-/
import Derived.Test.Qxb6602110aModsXHold
namespace Go.Proofs.Qxb6602110aMods
attribute [local go_sem ↓] Go.wp_at_zero Go.wp_at_succ
open Go.RowKit
set_option linter.unusedVariables false

/-- The plan and the list, both as they were laid. -/
def Both (w : World) (p : Nat) (n : Nat) (f : Nat → St) (pa : Option Addr) (cp : Nat) (F D L Z : Int) (a : Option Addr) (x : World) : Prop := Below w.heap.size w x ∧ Ready x p n f pa cp F D L Z ∧ Stps x a n f

theorem Both.next {w : World} {p : Nat} {n : Nat} {f : Nat → St} {pa : Option Addr} {cp : Nat} {F D L Z : Int} {a : Option Addr} {x y : World} (h : Both w p n f pa cp F D L Z a x) (hb : Below x.heap.size x y) : Both w p n f pa cp F D L Z a y :=
  ⟨h.1.trans (hb.mono h.1.size), h.2.1.kept hb, h.2.2.below' hb⟩

theorem Stps.at {w : World} {b off n : Nat} {f : Nat → St} (h : Stps w (some ⟨b, off, none⟩) n f) {t : Nat} (ht : t < n) : w.rangeAt b (off + t * 6) (f t).cells := by
  obtain ⟨b', off', e, _, h3⟩ := h.get (by omega)
  cases e
  exact h3 t ht

theorem Ready.drew {w : World} {p n : Nat} {f : Nat → St} {a : Option Addr} {cp : Nat} {F D L Z : Int} (h : Ready w p n f a cp F D L Z) : Ready w.drew p n f a cp F D L Z := h.kept ⟨rfl, rfl, rfl, Nat.le_refl _, fun _ _ => rfl⟩
theorem Both.after {w : World} {p : Nat} {n : Nat} {f : Nat → St} {pa : Option Addr} {cp : Nat} {F D L Z : Int} {a : Option Addr} {x y : World} (h : Both w p n f pa cp F D L Z a x) (hb : Below x.drew.heap.size x.drew y) : Both w p n f pa cp F D L Z a y :=
  h.next ⟨hb.os, hb.tape, hb.output, hb.size, hb.block⟩

set_option maxRecDepth 100000 in
set_option maxHeartbeats 1000000 in
theorem holds16 (p : Nat) (a : Option Addr) (n c : Nat) (f : Nat → St) (pa : Option Addr) (cp : Nat) (F D L Z : Int) (w : World) (hn : n ≤ 13107) (hr : Ready w p n f pa cp F D L Z) (hs : Stps w a n f) :
    Calls Trym.prog 16 #[.pointer (some ⟨p, 0, none⟩), .slice a n c] w (TruePost w) := by
  have HB : Hid (Both w p n f pa cp F D L Z a w) := ⟨Below.refl _ _, hr, hs⟩
  have HC : Hid _ := len35 p pa n cp F D L Z w hr.1
  clear hr hs
  go_enter Trym.func16, Trym.ntmps16
  go_wp2_with fail
  refine Calls.mono HC.out ?_
  clear HC
  rintro e wx ⟨rfl, hwx⟩
  have hwx := hwx.symm
  subst hwx
  go_wp2
  go_loopw [5] (fun i wr => ∃ t : Nat, i = .int .i64 t ∧ t ≤ n ∧ Both w p n f pa cp F D L Z a wr) (fun i _ => n - (intOf i).toNat)
  case atStart => exact ⟨0, rfl, Nat.zero_le _, HB.out⟩
  case round =>
    clear HB
    obtain ⟨t, rfl, ht, hB⟩ := hrel
    have HB : Hid (Both w p n f pa cp F D L Z a wr) := hB
    clear hB
    by_cases hlt : t < n
    · obtain ⟨b, off, rfl, hb, h3⟩ := HB.out.2.2.get (by omega)
      obtain ⟨c0, c1, c2, c3, c4, c5⟩ := six (h3 t hlt)
      have i1 : (0 : Int) ≤ (t : Int) := by omega
      have i2 : (t : Int) < (n : Int) := by omega
      clear h3
      go_wp2_with fail
      rename_i K hK
      have HK : ∀ w3 : World, Both w p n f pa cp F D L Z (some ⟨b, off, none⟩) w3 → K { tmps := #[.pointer (some ⟨p, 0, none⟩), .slice (some ⟨b, off, none⟩) n c, undef, undef, u4, .int .i64 t, .pointer (some ⟨p, 0, none⟩), .int .i64 n, .slice (some ⟨b, off, none⟩) n c, .int .i64 n, .bool false, .int .i64 t, .slice (some ⟨b, off, none⟩) n c, .int .i64 n, .bool true, u15, u16, .pointer (some ⟨p, 0, none⟩), .int .i64 t, .agg #[.int .i64 (f t).k, .string (f t).a, .string (f t).b, .string (f t).c, .string (f t).d, .bool (f t).m], .slice (some ⟨b, off, none⟩) n c, .int .i64 t, .pointer (some ⟨b, off + t * 6, none⟩), .agg #[.int .i64 (f t).k, .string (f t).a, .string (f t).b, .string (f t).c, .string (f t).d, .bool (f t).m], .bool true, .bool false], defers := [] } w3 := by
        intro w3 hm
        apply hK
        clear hK
        have HM : Hid (Both w p n f pa cp F D L Z (some ⟨b, off, none⟩) w3) := hm
        clear hm c0 c1 c2 c3 c4 c5 hb
        go_wp2
        go_roundw
        case rel => exact ⟨t + 1, by go_num, by omega, HM.out⟩
        case measure => simp [intOf]; omega
      have HC : Hid _ := step37 p pa n cp F D L Z f t wr.drew hlt hn HB.out.2.1.drew.1 HB.out.2.1.drew.2
      go_region_with (first
        | (go_at_call 37; refine Calls.mono HC.out ?_; rintro e wx ⟨rfl, hbx⟩; have hB2 : Both w p n f pa cp F D L Z (some ⟨b, off, none⟩) wx := HB.out.after hbx; have hcc := six (hB2.2.2.at hlt); have d0 := hcc.1; have d1 := hcc.2.1; have d2 := hcc.2.2.1; have d3 := hcc.2.2.2.1; have d4 := hcc.2.2.2.2.1; have d5 := hcc.2.2.2.2.2; have HB2 : Hid (Both w p n f pa cp F D L Z (some ⟨b, off, none⟩) wx) := hB2; clear hcc hB2 hbx)
        | (go_at_call 36; refine (same36 (f t) _).mono ?_; rintro e wy ⟨rfl, hby⟩; have HB3 : Hid (Both w p n f pa cp F D L Z (some ⟨b, off, none⟩) wy) := HB2.out.next hby; clear hby))
      all_goals exact HK _ HB3.out
    · go_wp2
      go_ret
      exact ⟨rfl, HB.out.1⟩

end Go.Proofs.Qxb6602110aMods
