/-
  Seat b6602110aM: a plan's counts, and whether it holds the steps.
-/
import Derived.Test.Qxb6602110aModsERound
namespace Go.Proofs.Qxb6602110aMods
attribute [local go_sem ↓] Go.wp_at_zero Go.wp_at_succ
open Go.RowKit
set_option linter.unusedVariables false

set_option maxRecDepth 100000 in
theorem counts18 (p : Nat) (a : Option Addr) (n cp : Nat) (F D L Z : Int) (w : World)
    (hp : w.heap[p]? = some (.cells #[.slice a n cp, .int .i64 F, .int .i64 D, .int .i64 L, .int .i64 Z] 57)) :
    Calls Trym.prog 18 #[.pointer (some ⟨p, 0, none⟩)] w (fun e w' => e = .returned (.tuple #[.int .i64 F, .int .i64 D, .int .i64 L, .int .i64 Z]) ∧ Below w.heap.size w w') := by
  have q1 : w.cell? ⟨p, 1, none⟩ = some (.int .i64 F) := cell_of_row w p 1 _ _ _ hp
  have q2 : w.cell? ⟨p, 2, none⟩ = some (.int .i64 D) := cell_of_row w p 2 _ _ _ hp
  have q3 : w.cell? ⟨p, 3, none⟩ = some (.int .i64 L) := cell_of_row w p 3 _ _ _ hp
  have q4 : w.cell? ⟨p, 4, none⟩ = some (.int .i64 Z) := cell_of_row w p 4 _ _ _ hp
  clear hp
  go_enter Trym.func18, Trym.ntmps18
  go_wp2
  go_quiet (fail)
  go_wp2
  exact bodyPost_ret (v := .tuple #[.int .i64 F, .int .i64 D, .int .i64 L, .int .i64 Z]) (by simp [results, Trym.results18]) rfl ⟨rfl, below_drewN (Below.refl _ w) _⟩

theorem len35 (p : Nat) (a : Option Addr) (n cp : Nat) (F D L Z : Int) (w : World)
    (hp : w.heap[p]? = some (.cells #[.slice a n cp, .int .i64 F, .int .i64 D, .int .i64 L, .int .i64 Z] 57)) :
    Calls Trym.prog 35 #[.pointer (some ⟨p, 0, none⟩)] w (fun e w' => e = .returned (.int .i64 n) ∧ w' = w) := by
  have q0 : w.cell? ⟨p, 0, none⟩ = some (.slice a n cp) := cell_of_row w p 0 _ _ _ hp
  clear hp
  go_enter Trym.func35, Trym.ntmps35
  go_wp2
  go_ret
  exact ⟨rfl, rfl⟩

set_option maxRecDepth 100000 in
theorem step37 (p : Nat) (a : Option Addr) (n cp : Nat) (F D L Z : Int) (f : Nat → St) (t : Nat) (w : World) (ht : t < n) (hn : n ≤ 13107)
    (hp : w.heap[p]? = some (.cells #[.slice a n cp, .int .i64 F, .int .i64 D, .int .i64 L, .int .i64 Z] 57)) (hs : Stps w a n f) :
    Calls Trym.prog 37 #[.pointer (some ⟨p, 0, none⟩), .int .i64 t] w (AggPost w (f t)) := by
  have q0 : w.cell? ⟨p, 0, none⟩ = some (.slice a n cp) := cell_of_row w p 0 _ _ _ hp
  have hlt : p < w.heap.size := lt_of_blk hp
  clear hp
  obtain ⟨b, off, rfl, hb, h3⟩ := hs.get (by omega)
  obtain ⟨c0, c1, c2, c3, c4, c5⟩ := six (h3 t ht)
  clear h3 hs
  go_enter Trym.func37, Trym.ntmps37
  go_wp2
  exact bodyPost_ret (v := .agg #[.int .i64 (f t).k, .string (f t).a, .string (f t).b, .string (f t).c, .string (f t).d, .bool (f t).m]) (by simp [results, Trym.results37, go_sem]) rfl ⟨rfl, (Below.refl _ w).alloc (Nat.le_refl _) _⟩

set_option maxRecDepth 100000 in
theorem fields44 (s : St) (w : World) :
    Calls Trym.prog 44 #[.agg #[.int .i64 s.k, .string s.a, .string s.b, .string s.c, .string s.d, .bool s.m]] w (fun e w' => e = .returned (.tuple #[.int .i64 s.k, .string s.a, .string s.b, .string s.c, .string s.d, .bool s.m]) ∧ Below w.heap.size w w') := by
  go_enter Trym.func44, Trym.ntmps44
  go_wp2
  go_quiet (fail)
  go_wp2
  exact bodyPost_ret (v := .tuple #[.int .i64 s.k, .string s.a, .string s.b, .string s.c, .string s.d, .bool s.m]) (by simp [results, Trym.results44]) rfl ⟨rfl, below_drewN ((Below.refl _ w).alloc (Nat.le_refl _) _) _⟩

set_option maxRecDepth 100000 in
theorem same36 (s : St) (w : World) :
    Calls Trym.prog 36 #[.agg #[.int .i64 s.k, .string s.a, .string s.b, .string s.c, .string s.d, .bool s.m], .agg #[.int .i64 s.k, .string s.a, .string s.b, .string s.c, .string s.d, .bool s.m]] w (TruePost w) := by
  go_enter Trym.func36, Trym.ntmps36
  go_wp2_with fail
  refine (fields44 s _).mono ?_
  rintro e wx ⟨rfl, hb⟩
  have hbox : wx.heap[w.heap.size + 1]? = some (.cells #[.int .i64 s.k, .string s.a, .string s.b, .string s.c, .string s.d, .bool s.m] 34) := by
    rw [hb.block _ (by simp)]
    have := Go.Deep.blk_alloc_new (w.alloc (.cells #[.int .i64 s.k, .string s.a, .string s.b, .string s.c, .string s.d, .bool s.m] 31)) (.cells #[.int .i64 s.k, .string s.a, .string s.b, .string s.c, .string s.d, .bool s.m] 34)
    simpa using this
  have hbel : Below w.heap.size w wx := (((Below.refl _ w).alloc (Nat.le_refl _) _).alloc (by simp) _).trans (hb.mono (by simp; omega))
  have b0 : wx.cell? ⟨w.heap.size + 1, 0, none⟩ = some (.int .i64 s.k) := cell_of_row wx _ 0 _ _ _ hbox
  have b1 : wx.cell? ⟨w.heap.size + 1, 1, none⟩ = some (.string s.a) := cell_of_row wx _ 1 _ _ _ hbox
  have b2 : wx.cell? ⟨w.heap.size + 1, 2, none⟩ = some (.string s.b) := cell_of_row wx _ 2 _ _ _ hbox
  have b3 : wx.cell? ⟨w.heap.size + 1, 3, none⟩ = some (.string s.c) := cell_of_row wx _ 3 _ _ _ hbox
  have b4 : wx.cell? ⟨w.heap.size + 1, 4, none⟩ = some (.string s.d) := cell_of_row wx _ 4 _ _ _ hbox
  have b5 : wx.cell? ⟨w.heap.size + 1, 5, none⟩ = some (.bool s.m) := cell_of_row wx _ 5 _ _ _ hbox
  clear hb hbox
  go_wp2
  go_ret
  exact ⟨rfl, hbel⟩

end Go.Proofs.Qxb6602110aMods
