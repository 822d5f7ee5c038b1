/-
  Seat b6602110aM: the list of steps copied.
-/
import Derived.Test.Qxb6602110aModsEDefs
import Derived.OwnWalk
import Derived.KernelRfl
import Derived.Lib.SliceRun
namespace Go.Proofs.Qxb6602110aMods
open Go.RowKit
set_option linter.unusedVariables false

theorem info34 : (Trym.prog.info? 34).map (fun i => (i.zero, i.size, i.bytes)) = some (some (.agg #[.int .i64 0, .string ⟨#[]⟩, .string ⟨#[]⟩, .string ⟨#[]⟩, .string ⟨#[]⟩, .bool false]), 6, 80) := by kernel_rfl

theorem make22 (n : Nat) (hn : n ≤ 13107) (w : World) : (Instr.makeSlice 22 (.int .i64 (n : Int)) (.int .i64 (n : Int))).run Trym.prog w = .ok (.slice (some ⟨w.heap.size, 0, none⟩) n n) (w.alloc (.cells (madeCells #[.int .i64 0, .string ⟨#[]⟩, .string ⟨#[]⟩, .string ⟨#[]⟩, .string ⟨#[]⟩, .bool false] (n * 6)) 34)) := by
  obtain ⟨i, hi, hz0, hz1, hz2⟩ := info_parts info34
  have h := run_make (P := Trym.prog) w 22 34 i _ Trym.underlying22 hi hz0 .i64 .i64 n n (by omega) (by omega) (by rw [hz2]; omega) (by omega)
  rw [hz1] at h
  exact h

theorem there_new (w : World) (C : Array Value) (t : TypeId) (N : Nat) (hC : C.size = N) : (w.alloc (.cells C t)).there w.heap.size 0 N := by
  intro j hj
  have hb := heap_alloc_new w (.cells C t)
  constructor
  · rw [cell_of_row _ _ _ _ _ _ hb]
    simp; omega
  · exact frozen_of_row _ _ _ _ _ hb

theorem there_at {w : World} {b o n : Nat} (h : w.there b o n) (j : Nat) (hj : j < n) : (∃ v, w.cell? ⟨b, o + j, none⟩ = some v) ∧ w.frozen? ⟨b, o + j, none⟩ = false :=
  ⟨Option.isSome_iff_exists.1 (h j hj).1, (h j hj).2⟩

theorem below_cells {B : Nat} {a : World} {b : Nat} : ∀ {w : World} (h : Below B a w) (hb : B ≤ b) (o : Nat) (vs : List Value), Below B a (w.setCells b o vs) := by
  intro w h hb o vs
  induction vs generalizing w o with
  | nil => exact h
  | cons v r ih => exact ih (h.setCell hb v) (o + 1)

theorem ranges_next {w : World} {b t : Nat} {f : Nat → St} (h : ∀ i, i < t → w.rangeAt b (i * 6) (f i).cells) (ht : w.there b (t * 6) 6) : ∀ i, i < t + 1 → (w.setCells b (t * 6) (f t).cells).rangeAt b (i * 6) (f i).cells := by
  intro i hi
  rcases Nat.lt_or_ge i t with h1 | h1
  · exact World.rangeAt_setCells_apart (h i h1) _ _ _ (.inr (.inl (by show i * 6 + 6 ≤ t * 6; omega)))
  · obtain rfl : i = t := by omega
    exact World.rangeAt_setCells_same _ _ _ _ ht

theorem six_sets (w : World) (b o : Nat) (s : St) : (((((w.setCell ⟨b, o, none⟩ (.int .i64 s.k)).setCell ⟨b, o + 1, none⟩ (.string s.a)).setCell ⟨b, o + 2, none⟩ (.string s.b)).setCell ⟨b, o + 3, none⟩ (.string s.c)).setCell ⟨b, o + 4, none⟩ (.string s.d)).setCell ⟨b, o + 5, none⟩ (.bool s.m) = w.setCells b o s.cells := rfl

/-- Behind a store: t + 1 steps lie there. -/
theorem pack_next {w wr : World} {n t : Nat} {f : Nat → St} (h1 : Below w.heap.size w wr) (h2 : wr.there w.heap.size 0 (n * 6)) (h3 : ∀ i, i < t → wr.rangeAt w.heap.size (i * 6) (f i).cells) (h4 : wr.there w.heap.size (t * 6) 6) :
    Below w.heap.size w (wr.setCells w.heap.size (t * 6) (f t).cells) ∧ (wr.setCells w.heap.size (t * 6) (f t).cells).there w.heap.size 0 (n * 6) ∧ ∀ i, i < t + 1 → (wr.setCells w.heap.size (t * 6) (f t).cells).rangeAt w.heap.size (i * 6) (f i).cells :=
  ⟨below_cells h1 (Nat.le_refl _) _ _, World.there_setCells h2 _ _ _, ranges_next h3 h4⟩

/-- A copy of the steps stands: nil, or a new row. -/
def ClonePost (w : World) (n : Nat) (f : Nat → St) (e : Ending) (w' : World) : Prop :=
  ∃ a c, e = .returned (.slice a n c) ∧ Below w.heap.size w w' ∧ Stps w' a n f

theorem info6 : (Trym.prog.info? 34).map (·.size) = some 6 := by kernel_rfl

set_option maxRecDepth 100000 in
theorem clone12 (a : Option Addr) (n c : Nat) (f : Nat → St) (w : World) (hn : n ≤ 13107) (hs : Stps w a n f) (hnil : a = none → n = 0) :
    Calls Trym.prog 12 #[.slice a n c] w (ClonePost w n f) := by
  have q22 : ∀ (w : World) (a : Option Addr) (n c n' c' : Nat), (binOp .eql 22 (.slice a n c) (.slice none n' c')).run Trym.prog w = .ok (.bool a.isNone) w := fun w a n c n' c' => Lib.run_eql_slice_nil w _ _ a n c n' c' Trym.underlying22
  cases a with
  | none =>
    obtain rfl := hnil rfl
    clear hnil
    go_enter Trym.func12, Trym.ntmps12
    go_wp2
    go_ret
    exact ⟨none, 0, rfl, Below.refl _ _, .inl rfl⟩
  | some ad =>
    clear hnil
    have hmk := make22 n hn
    go_enter Trym.func12, Trym.ntmps12
    go_wp2
    clear hmk q22
    go_loopw [4] (fun i wr => ∃ t : Nat, i = .int .i64 t ∧ t ≤ n ∧ Below w.heap.size w wr ∧ wr.there w.heap.size 0 (n * 6) ∧ ∀ i, i < t → wr.rangeAt w.heap.size (i * 6) (f i).cells) (fun i _ => n - (intOf i).toNat)
    case atStart => exact ⟨0, rfl, Nat.zero_le _, (Below.refl _ w).alloc (Nat.le_refl _) _, there_new w _ _ _ (size_madeCells _ _), fun i hi => absurd hi (Nat.not_lt_zero _)⟩
    case round =>
      obtain ⟨t, rfl, ht, hbel, hth, hrg⟩ := hrel
      by_cases hlt : t < n
      · have hs' := hs.below' hbel
        obtain ⟨b, off, hb, h2, h3⟩ := hs'.get (by omega)
        cases hb
        obtain ⟨c0, c1, c2, c3, c4, c5⟩ := six (h3 t hlt)
        have hne : b < w.heap.size := by
          rcases hs with h | ⟨b', off', hb', h4, _⟩
          · omega
          · cases hb'; exact h4
        have htt : wr.there w.heap.size (t * 6) 6 := fun j hj => by
          have := hth (t * 6 + j) (by omega)
          simpa using this
        have HB : Hid (Below w.heap.size w wr) := hbel
        have HT : Hid (wr.there w.heap.size 0 (n * 6)) := hth
        have HR : Hid (∀ i, i < t → wr.rangeAt w.heap.size (i * 6) (f i).cells) := hrg
        have HTT : Hid (wr.there w.heap.size (t * 6) 6) := htt
        clear h3 hbel hth hrg htt hs hs'
        obtain ⟨⟨v0, d0⟩, z0⟩ := there_at HTT.out 0 (by omega)
        obtain ⟨⟨v1, d1⟩, z1⟩ := there_at HTT.out 1 (by omega)
        obtain ⟨⟨v2, d2⟩, z2⟩ := there_at HTT.out 2 (by omega)
        obtain ⟨⟨v3, d3⟩, z3⟩ := there_at HTT.out 3 (by omega)
        obtain ⟨⟨v4, d4⟩, z4⟩ := there_at HTT.out 4 (by omega)
        obtain ⟨⟨v5, d5⟩, z5⟩ := there_at HTT.out 5 (by omega)
        rw [Nat.add_zero] at d0 z0
        go_wp2
        go_roundw
        case rel =>
          rw [six_sets]
          exact ⟨t + 1, by go_num, by omega, pack_next HB.out HT.out HR.out HTT.out⟩
        case measure => simp [intOf]; omega
      · go_wp2
        go_ret
        refine ⟨_, _, rfl, hbel, ?_⟩
        by_cases h0 : n = 0
        · exact .inl h0
        · obtain ⟨v, hv⟩ := Option.isSome_iff_exists.1 (hth 0 (by omega)).1
          exact .inr ⟨w.heap.size, 0, rfl, World.block_lt_of_cell? wr _ hv, fun i hi => by have := hrg i (by omega); simpa using this⟩

end Go.Proofs.Qxb6602110aMods
