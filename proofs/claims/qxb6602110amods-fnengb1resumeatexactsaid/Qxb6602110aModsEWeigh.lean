/-
  Seat b6602110aM: the weighing functions.
-/
import Derived.Test.Qxb6602110aModsEDefs
namespace Go.Proofs.Qxb6602110aMods
open Go.RowKit
set_option linter.unusedVariables false

/-- A weight: at most the budget and one; within the budget only if u was. -/
def LenPost (w : World) (u : Nat) (e : Ending) (w' : World) : Prop := ∃ r : Nat, e = .returned (.int .i64 r) ∧ r ≤ 1048577 ∧ (r ≤ 1048576 → u ≤ 1048576) ∧ w' = w

theorem addLen20 (u x : Nat) (w : World) (hu : u ≤ 1048577) :
    Calls Trym.prog 20 #[.int .i64 u, .int .i64 x] w (LenPost w u) := by
  by_cases h1 : (u : Int) > 1048576
  · go_enter Trym.func20, Trym.ntmps20
    go_wp2
    go_ret
    exact ⟨1048577, by simp, by omega, by omega, rfl⟩
  · have e1 : IntKind.i64.wrap (1048576 - (u : Int)) = 1048576 - (u : Int) := IntWalk.i64_in _ (by omega)
    by_cases h2 : (x : Int) > 1048576 - u
    · go_enter Trym.func20, Trym.ntmps20
      go_wp2
      go_ret
      exact ⟨1048577, by simp, by omega, by omega, rfl⟩
    · have e2 : IntKind.i64.wrap ((u : Int) + (x : Int)) = (u : Int) + (x : Int) := IntWalk.i64_in _ (by omega)
      go_enter Trym.func20, Trym.ntmps20
      go_wp2
      go_ret
      exact ⟨u + x, by go_num, by omega, by omega, rfl⟩

/-- A weight, in a world that has kept what it was. -/
def StepPost (w : World) (e : Ending) (w' : World) : Prop := ∃ r : Nat, e = .returned (.int .i64 r) ∧ r ≤ 1048577 ∧ Below w.heap.size w w'

theorem weigh32 (u : Nat) (s : St) (w : World) (hu : u ≤ 1048577) :
    Calls Trym.prog 32 #[.int .i64 u, .agg #[.int .i64 s.k, .string s.a, .string s.b, .string s.c, .string s.d, .bool s.m]] w (StepPost w) := by
  go_enter Trym.func32, Trym.ntmps32
  go_wp2_with fail
  refine (addLen20 u 80 _ hu).mono ?_
  rintro e wx ⟨r1, rfl, hr1, -, hwx⟩
  subst hwx
  go_wp2_with fail
  refine (addLen20 r1 _ _ hr1).mono ?_
  rintro e wx ⟨r2, rfl, hr2, -, hwx⟩
  subst hwx
  go_wp2_with fail
  refine (addLen20 r2 _ _ hr2).mono ?_
  rintro e wx ⟨r3, rfl, hr3, -, hwx⟩
  subst hwx
  go_wp2_with fail
  refine (addLen20 r3 _ _ hr3).mono ?_
  rintro e wx ⟨r4, rfl, hr4, -, hwx⟩
  subst hwx
  go_wp2_with fail
  refine (addLen20 r4 _ _ hr4).mono ?_
  rintro e wx ⟨r5, rfl, hr5, -, hwx⟩
  subst hwx
  go_wp2
  go_ret
  exact ⟨r5, rfl, hr5, (Below.refl _ w).alloc (Nat.le_refl _) _⟩

/-- The weight of a list: within the budget only if it holds at most 13107 steps. -/
def WeighPost (w : World) (n : Nat) (e : Ending) (w' : World) : Prop := ∃ r : Nat, e = .returned (.int .i64 r) ∧ r ≤ 1048577 ∧ (r ≤ 1048576 → n ≤ 13107) ∧ Below w.heap.size w w'

set_option maxRecDepth 100000 in
theorem weigh11 (a : Option Addr) (n c : Nat) (f : Nat → St) (w : World) (hs : Stps w a n f) :
    Calls Trym.prog 11 #[.int .i64 0, .slice a n c] w (WeighPost w n) := by
  by_cases h1 : (n : Int) > 13107
  · go_enter Trym.func11, Trym.ntmps11
    go_wp2
    go_ret
    exact ⟨1048577, by simp, by omega, by omega, Below.refl _ _⟩
  · go_enter Trym.func11, Trym.ntmps11
    go_wp2
    go_loopw [0, 5] (fun z i wr => ∃ t q : Nat, i = .int .i64 t ∧ z = .int .i64 q ∧ t ≤ n ∧ q ≤ 1048577 ∧ Below w.heap.size w wr) (fun _ i _ => n - (intOf i).toNat)
    case atStart => exact ⟨0, 0, rfl, rfl, Nat.zero_le _, by omega, Below.refl _ _⟩
    case round =>
      obtain ⟨t, q, rfl, rfl, ht, hq, hbel⟩ := hrel
      by_cases hlt : t < n
      · have hs' := hs.below' hbel
        obtain ⟨b, off, rfl, h2, h3⟩ := hs'.get (by omega)
        obtain ⟨c0, c1, c2, c3, c4, c5⟩ := six (h3 t hlt)
        have HB : Hid (Below w.heap.size w wr) := hbel
        clear h3 hbel
        go_wp2_with fail
        refine (weigh32 q (f t) _ hq).mono ?_
        rintro e wx ⟨r, rfl, hr, hbx⟩
        have hbw : Below w.heap.size w wx := HB.out.trans (hbx.mono HB.out.size)
        by_cases hr2 : (r : Int) > 1048576
        · go_wp2
          go_ret
          exact ⟨r, rfl, hr, by omega, hbw⟩
        · go_wp2
          go_roundw
          case rel => exact ⟨t + 1, r, by go_num, rfl, by omega, hr, hbw⟩
          case measure => simp [intOf]; omega
      · go_wp2
        go_ret
        exact ⟨q, rfl, hq, by omega, hbel⟩

end Go.Proofs.Qxb6602110aMods
