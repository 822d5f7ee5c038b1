/-
  Seat b6602110aM: a plan made from a list of steps.
-/
import Derived.Test.Qxb6602110aModsERound
namespace Go.Proofs.Qxb6602110aMods
open Go.RowKit
set_option linter.unusedVariables false

theorem make55 (n : Nat) (hn : n ≤ 13107) (w : World) : (Instr.makeSlice 55 (.int .i64 (n : Int)) (.int .i64 (n : Int))).run Trym.prog w = .ok (.slice (some ⟨w.heap.size, 0, none⟩) n n) (w.alloc (.cells (madeCells #[.int .i64 0, .string ⟨#[]⟩, .string ⟨#[]⟩, .string ⟨#[]⟩, .string ⟨#[]⟩, .bool false] (n * 6)) 31)) := by
  obtain ⟨i, hi, hz0, hz1, hz2⟩ := info_parts info31
  have h := run_make (P := Trym.prog) w 55 31 i _ Trym.underlying55 hi hz0 .i64 .i64 n n (by omega) (by omega) (by rw [hz2]; omega) (by omega)
  rw [hz1] at h
  exact h

theorem size_setCells (b : Nat) : ∀ (vs : List Value) (o : Nat) (w : World), (w.setCells b o vs).heap.size = w.heap.size
  | [], _, _ => rfl
  | v :: r, o, w => by rw [World.setCells, size_setCells b r]; simp [World.setCell]

/-- While the plan's row is filled: t steps lie there. -/
structure Fill (w : World) (n t : Nat) (f : Nat → St) (wr : World) : Prop where
  below : Below w.heap.size w wr
  lt : w.heap.size < wr.heap.size
  there : wr.there w.heap.size 0 (n * 6)
  range : ∀ i, i < t → wr.rangeAt w.heap.size (i * 6) (f i).cells

theorem Fill.kept {w : World} {n t : Nat} {f : Nat → St} {wr wx : World} (h : Fill w n t f wr) (hb : Below wr.heap.size wr wx) : Fill w n t f wx where
  below := h.below.trans (hb.mono (Nat.le_of_lt h.lt))
  lt := Nat.lt_of_lt_of_le h.lt hb.size
  there := fun j hj => by
    rw [hb.cell (p := ⟨w.heap.size, 0 + j, none⟩) h.lt, hb.frozen (p := ⟨w.heap.size, 0 + j, none⟩) h.lt]
    exact h.there j hj
  range := fun i hi j v hv => by
    rw [hb.cell (p := ⟨w.heap.size, i * 6 + j, none⟩) h.lt]
    exact h.range i hi j v hv

theorem Fill.at {w : World} {n t : Nat} {f : Nat → St} {wr : World} (h : Fill w n t f wr) (ht : t < n) : wr.there w.heap.size (t * 6) 6 := fun j hj => by
  have := h.there (t * 6 + j) (by omega)
  simpa using this

theorem Fill.next {w : World} {n t : Nat} {f : Nat → St} {wr : World} (h : Fill w n t f wr) (ht : t < n) : Fill w n (t + 1) f (wr.setCells w.heap.size (t * 6) (f t).cells) where
  below := below_cells h.below (Nat.le_refl _) _ _
  lt := by rw [size_setCells]; exact h.lt
  there := World.there_setCells h.there _ _ _
  range := ranges_next h.range (h.at ht)

/-- A plan stands, whose steps read as f 0 .. f (n-1). -/
def PlanPost (w : World) (n : Nat) (f : Nat → St) (F D L Z : Int) (e : Ending) (w' : World) : Prop :=
  ∃ p a cp, e = .returned (.pointer (some ⟨p, 0, none⟩)) ∧ Below w.heap.size w w' ∧ Ready w' p n f a cp F D L Z

set_option maxRecDepth 100000 in
theorem plan21 (a : Option Addr) (n c : Nat) (f : Nat → St) (F D L Z : Int) (w : World) (hn : n ≤ 13107) (hs : Stps w a n f) :
    Calls Trym.prog 21 #[.slice a n c, .int .i64 F, .int .i64 D, .int .i64 L, .int .i64 Z] w (PlanPost w n f F D L Z) := by
  have hmk := make55 n hn
  have HS : Hid (Stps w a n f) := hs
  clear hs
  go_enter Trym.func21, Trym.ntmps21
  go_wp2
  clear hmk
  go_loopw [12] (fun i wr => ∃ t : Nat, i = .int .i64 t ∧ t ≤ n ∧ Fill w n t f wr) (fun i _ => n - (intOf i).toNat)
  case atStart => exact ⟨0, rfl, Nat.zero_le _, (Below.refl _ w).alloc (Nat.le_refl _) _, by simp, there_new w _ _ _ (size_madeCells _ _), fun i hi => absurd hi (Nat.not_lt_zero _)⟩
  case round =>
    obtain ⟨t, rfl, ht, hfl⟩ := hrel
    have HF : Hid (Fill w n t f wr) := hfl
    clear hfl
    by_cases hlt : t < n
    · obtain ⟨b, off, rfl, h2, h3⟩ := (HS.out.below' HF.out.below).get (by omega)
      obtain ⟨c0, c1, c2, c3, c4, c5⟩ := six (h3 t hlt)
      clear h3
      go_wp2_with fail
      refine (toStep15 (f t) _).mono ?_
      rintro e wx ⟨rfl, hbx⟩
      have HX : Hid (Fill w n t f wx) := HF.out.kept hbx
      clear hbx c0 c1 c2 c3 c4 c5 h2
      obtain ⟨⟨v0, d0⟩, z0⟩ := there_at (HX.out.at hlt) 0 (by omega)
      obtain ⟨⟨v1, d1⟩, z1⟩ := there_at (HX.out.at hlt) 1 (by omega)
      obtain ⟨⟨v2, d2⟩, z2⟩ := there_at (HX.out.at hlt) 2 (by omega)
      obtain ⟨⟨v3, d3⟩, z3⟩ := there_at (HX.out.at hlt) 3 (by omega)
      obtain ⟨⟨v4, d4⟩, z4⟩ := there_at (HX.out.at hlt) 4 (by omega)
      obtain ⟨⟨v5, d5⟩, z5⟩ := there_at (HX.out.at hlt) 5 (by omega)
      rw [Nat.add_zero] at d0 z0
      go_wp2
      go_roundw
      case rel =>
        rw [six_sets]
        exact ⟨t + 1, by go_num, by omega, HX.out.next hlt⟩
      case measure => simp [intOf]; omega
    · obtain rfl : n = t := by omega
      have HC : Hid _ := newPlan13 (some ⟨w.heap.size, 0, none⟩) n n F D L Z wr
      go_wp2_with fail
      refine Calls.mono HC.out ?_
      clear HC
      rintro e wx ⟨rfl, hwx⟩
      have hb : Below wr.heap.size wr wx := by rw [hwx]; exact (Below.refl _ wr).alloc (Nat.le_refl _) _
      have hp : wx.heap[wr.heap.size]? = some (.cells #[.slice (some ⟨w.heap.size, 0, none⟩) n n, .int .i64 F, .int .i64 D, .int .i64 L, .int .i64 Z] 57) := by rw [hwx]; exact Go.Deep.blk_alloc_new _ _
      have HX : Hid (Fill w n n f wx) := HF.out.kept hb
      have HP : Hid (wx.heap[wr.heap.size]? = some (.cells #[.slice (some ⟨w.heap.size, 0, none⟩) n n, .int .i64 F, .int .i64 D, .int .i64 L, .int .i64 Z] 57)) := hp
      clear hwx hb hp
      go_wp2
      go_ret
      exact ⟨_, _, _, rfl, HX.out.below, HP.out, .inr ⟨w.heap.size, 0, rfl, HX.out.lt, fun i hi => by have := HX.out.range i hi; simpa using this⟩⟩

end Go.Proofs.Qxb6602110aMods
