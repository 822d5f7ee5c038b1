/-
  Seat b6600779aM: 'ZZPlainEnd' answers as 'PE' says.
-/
import Derived.Test.Qxb6600779aModsEnd
namespace Go.Proofs.Qxb6600779aMods
open Go.RowKit
set_option linter.unusedVariables false

/-- An empty text: nothing is read. -/
theorem end_walk0 (a : Option Addr) (c : Nat) (z : Nat → Int) (R : Nat) (w : World)
    (hr : w.cell? ⟨R, 0, none⟩ = some (.slice a (0 : Nat) c)) (hr1 : w.cell? ⟨R, 1, none⟩ = some (.int .i64 0)) :
    Calls Trym.prog 13 #[.pointer (some ⟨R, 0, none⟩)] w fun e w' => ∃ (en : Nat) (k : Bool), e = .returned (.tuple #[.int .i64 en, .bool k]) ∧ PE z 0 0 en k ∧ w' = w := by
  have HP : Hid (PE z 0 0 0 false) := ⟨0, ⟨Nat.le_refl _, Nat.le_refl _, fun j h1 h2 => by omega⟩, .inr ⟨rfl, .inl rfl, Nat.le_refl _, Nat.le_refl _, fun j h1 h2 => by omega, .inl rfl⟩⟩
  go_enter Trym.func13, Trym.ntmps13
  go_wp2
  go_step3
  go_wp2
  go_step3
  go_wp2
  refine wp_loop_rounds 1 ?_
  rw [rounds_succ]
  go_wp2
  refine wp_loop_rounds 1 ?_
  rw [rounds_succ]
  go_wp2
  rw [Exit.noGoto_ret]
  go_ret2
  exact ⟨0, false, rfl, HP.out, rfl⟩

theorem end_any (a : Option Addr) (n c pos : Nat) (z : Nat → Int) (R : Nat) (w : World) (hn : n ≤ 4000000) (hp : pos ≤ n)
    (hr : w.cell? ⟨R, 0, none⟩ = some (.slice a n c)) (hr1 : w.cell? ⟨R, 1, none⟩ = some (.int .i64 pos)) (hb : Bts w a n z) :
    Calls Trym.prog 13 #[.pointer (some ⟨R, 0, none⟩)] w fun e w' => ∃ (en : Nat) (k : Bool), e = .returned (.tuple #[.int .i64 en, .bool k]) ∧ PE z n pos en k ∧ w' = w := by
  rcases hb with h0 | ⟨b, off, rfl, h2, h3⟩
  · subst h0
    obtain rfl : pos = 0 := by omega
    exact end_walk0 a c z R w hr hr1
  · exact end_walk b off n c pos z R w hn hp hr hr1 h2 h3

theorem Bts.alloc {w : World} {a : Option Addr} {n : Nat} {z : Nat → Int} (h : Bts w a n z) (o : Obj) : Bts (w.alloc o) a n z := by
  rcases h with h | ⟨b, off, h1, h2, h3⟩
  · exact .inl h
  · refine .inr ⟨b, off, h1, by simp; omega, fun i hi => ?_⟩
    rw [World.cell?_of_block (w := w) (Below.heap_alloc w o b h2)]
    exact h3 i hi

/-- 'ZZPlainEnd' over whatever text: it answers as 'PE' says; it leaves what was there. -/
theorem zzend_walk (a : Option Addr) (n c pos : Nat) (z : Nat → Int) (w : World) (hn : n ≤ 4000000) (hp : pos ≤ n) (hb : Bts w a n z) :
    Calls Trym.prog 8 #[.slice a n c, .int .i64 pos] w fun e w' => ∃ (en : Nat) (k : Bool), e = .returned (.tuple #[.int .i64 en, .bool k]) ∧ PE z n pos en k ∧ Below w.heap.size w w' := by
  go_enter Trym.func8, Trym.ntmps8
  go_wp2_with fail
  refine (end_any a n c pos z w.heap.size _ hn hp (by simp) (by simp) (hb.alloc _)).mono ?_
  rintro e w' ⟨en, k, rfl, hpe, rfl⟩
  have HP : Hid (PE z n pos en k) := hpe
  clear hpe
  go_wp2
  go_ret2
  exact ⟨en, k, rfl, HP.out, (Below.refl _ _).alloc (Nat.le_refl _) _⟩

end Go.Proofs.Qxb6600779aMods
