/-
  Seat b6602110aM: where a plan resumes.
-/
import Derived.Test.Qxb6602110aModsEDefs
import Derived.Deep.QuietTactic
import Derived.BigQuiet
import Derived.WalkSmall
import Derived.Deep.RegionHeld3
namespace Go.Proofs.Qxb6602110aMods
open Go.RowKit
set_option linter.unusedVariables false

/-- Where the plan with steps f 0 .. f (n-1) resumes at checkpoint (c, l). -/
def resumes (n : Nat) (f : Nat → St) (c : Int) (l : ByteArray) : Int := if 1 ≤ c ∧ c ≤ n ∧ (f (c - 1).toNat).k = 0 ∧ (f (c - 1).toNat).b = l then c else 0

def ResPost (w : World) (r : Int) (e : Ending) (w' : World) : Prop := e = .returned (.int .i64 r) ∧ Below w.heap.size w w'

set_option maxRecDepth 100000 in
theorem resume38 (p : Nat) (a : Option Addr) (n cp : Nat) (F D L Z : Int) (f : Nat → St) (c : Int) (l : ByteArray) (w : World) (hn : n ≤ 13107)
    (hp : w.heap[p]? = some (.cells #[.slice a n cp, .int .i64 F, .int .i64 D, .int .i64 L, .int .i64 Z] 57)) (hs : Stps w a n f) :
    Calls Trym.prog 38 #[.pointer (some ⟨p, 0, none⟩), .agg #[.int .i64 c, .string l]] w (ResPost w (resumes n f c l)) := by
  have hp0 : w.cell? ⟨p, 0, none⟩ = some (.slice a n cp) := cell_of_row w p 0 _ _ _ hp
  have hlt : p < w.heap.size := by
    rcases Nat.lt_or_ge p w.heap.size with h | h
    · exact h
    · rw [Array.getElem?_eq_none h] at hp; cases hp
  clear hp
  by_cases h1 : c < 1
  · have d1 : decide (c < 1) = true := decide_eq_true h1
    have hr : resumes n f c l = 0 := by unfold resumes; rw [if_neg (by omega)]
    rw [hr]
    go_enter Trym.func38, Trym.ntmps38
    go_wp2
    go_quiet (fail)
    go_wp2
    go_ret
    exact ⟨rfl, below_drewN ((Below.refl _ w).alloc (Nat.le_refl _) _) _⟩
  have d1 : decide (c < 1) = false := decide_eq_false h1
  by_cases h2 : c > n
  · have d2 : decide (c > n) = true := decide_eq_true h2
    have hr : resumes n f c l = 0 := by unfold resumes; rw [if_neg (by omega)]
    rw [hr]
    go_enter Trym.func38, Trym.ntmps38
    go_wp2
    go_quiet (fail)
    go_wp2
    go_ret
    exact ⟨rfl, below_drewN ((Below.refl _ w).alloc (Nat.le_refl _) _) _⟩
  have d2 : decide (c > n) = false := decide_eq_false h2
  obtain ⟨t, rfl⟩ : ∃ t : Nat, c = t + 1 := ⟨(c - 1).toNat, by omega⟩
  have htn : t < n := by omega
  obtain ⟨b, off, rfl, hb, h3⟩ := hs.get (by omega)
  obtain ⟨c0, c1, c2, c3, c4, c5⟩ := six (h3 t htn)
  have e1 : IntKind.i64.wrap ((t : Int) + 1 - 1) = t := by rw [IntWalk.i64_in _ (by omega)]; omega
  have e2 : IntKind.i64.wrap (t : Int) = t := IntWalk.i64_in _ (by omega)
  have i1 : (0 : Int) ≤ (t : Int) := by omega
  have i2 : (t : Int) < (n : Int) := by omega
  clear h3 hs
  go_enter Trym.func38, Trym.ntmps38
  go_wp2
  go_quiet (fail)
  go_wp2
  go_region_held3 (fun w' => w'.cell? ⟨p, 0, none⟩ = some (.slice (some ⟨b, off, none⟩) n cp) ∧ w'.cell? ⟨w.heap.size, 0, none⟩ = some (.int .i64 (t + 1)) ∧ w'.cell? ⟨b, off + t * 6, none⟩ = some (.int .i64 (f t).k) ∧ w'.cell? ⟨b, off + t * 6 + 1, none⟩ = some (.string (f t).a) ∧ w'.cell? ⟨b, off + t * 6 + 2, none⟩ = some (.string (f t).b) ∧ w'.cell? ⟨b, off + t * 6 + 3, none⟩ = some (.string (f t).c) ∧ w'.cell? ⟨b, off + t * 6 + 4, none⟩ = some (.string (f t).d) ∧ w'.cell? ⟨b, off + t * 6 + 5, none⟩ = some (.bool (f t).m)) (go_keep) (fail)
  rename_i hHeld
  clear hHeld
  have hbel : ∀ A B k, Below w.heap.size w (((w.alloc A).drewN k).alloc B) := fun A B k => (below_drewN ((Below.refl _ w).alloc (Nat.le_refl _) _) _).alloc (by simp) _
  by_cases hk : (f t).k = 0
  · have b1 : ((f t).k != 0) = false := by simp [hk]
    by_cases hl : (f t).b = l
    · subst hl
      have hr : resumes n f (t + 1) (f t).b = t + 1 := by unfold resumes; rw [if_pos ⟨by omega, by omega, by simpa using hk, by simp⟩]
      go_wp2
      go_ret
      exact ⟨by rw [hr]; rfl, hbel _ _ _⟩
    · have b2 := txt_ne hl
      have hr : resumes n f (t + 1) l = 0 := by unfold resumes; rw [if_neg (fun h => hl (by simpa using h.2.2.2))]
      go_wp2
      go_ret
      exact ⟨by rw [hr]; rfl, hbel _ _ _⟩
  · have b1 : ((f t).k != 0) = true := by simp [hk]
    have hr : resumes n f (t + 1) l = 0 := by unfold resumes; rw [if_neg (fun h => hk (by simpa using h.2.2.1))]
    go_wp2
    go_ret
    exact ⟨by rw [hr]; rfl, hbel _ _ _⟩

theorem resume22 (p : Nat) (a : Option Addr) (n cp : Nat) (F D L Z : Int) (f : Nat → St) (c : Int) (l : ByteArray) (w : World) (hn : n ≤ 13107)
    (hp : w.heap[p]? = some (.cells #[.slice a n cp, .int .i64 F, .int .i64 D, .int .i64 L, .int .i64 Z] 57)) (hs : Stps w a n f) :
    Calls Trym.prog 22 #[.pointer (some ⟨p, 0, none⟩), .int .i64 c, .string l] w (ResPost w (resumes n f c l)) := by
  go_enter Trym.func22, Trym.ntmps22
  go_wp2_with fail
  refine (resume38 p a n cp F D L Z f c l w hn hp hs).mono ?_
  rintro e wx ⟨rfl, hb⟩
  go_wp2
  go_ret
  exact ⟨rfl, hb⟩

end Go.Proofs.Qxb6602110aMods
