/-
  Seat b6600779aM: the reader's isBlank and the laws' zzBlankAt: each computes 'blankB'.
-/
import Derived.Test.Qxb6600779aModsRows
import Derived.Test.Qxb6600779aModsPlain
import Derived.WalkKit
import Derived.ProofKit
import Derived.Below
namespace Go.Proofs.Qxb6600779aMods
open Go.RowKit

/-- The slice value with address a and length n reads as the bytes z 0 .. z (n-1) in the world w. -/
def Bts (w : World) (a : Option Addr) (n : Nat) (z : Nat → Int) : Prop :=
  n = 0 ∨ ∃ b off, a = some ⟨b, off, none⟩ ∧ b < w.heap.size ∧ ∀ i, i < n → w.cell? ⟨b, off + i, none⟩ = some (.int .u8 (z i))

theorem blank_walk (a : Option Addr) (n c : Nat) (z : Nat → Int) (R i : Nat) (w : World) (hn : n ≤ 4000000) (hi : i ≤ n)
    (hr : w.cell? ⟨R, 0, none⟩ = some (.slice a n c)) (hb : Bts w a n z) :
    Calls Trym.prog 14 #[.pointer (some ⟨R, 0, none⟩), .int .i64 i] w fun e w' => e = .returned (.bool (blankB z n i)) ∧ w' = w := by
  by_cases hin : i = n
  · subst hin
    have hbl : blankB z i i = true := by simp [blankB]
    rw [hbl]; clear hbl hb
    go_enter Trym.func14, Trym.ntmps14
    go_wp2
    go_ret
    exact ⟨rfl, rfl⟩
  · have hlt : i < n := by omega
    rcases hb with hb | ⟨b, off, rfl, hbs, hcs⟩
    · omega
    have hc := hcs i hlt
    have he : ((i : Int) == (n : Int)) = false := by simp; omega
    have hnb : (i == n) = false := beq_eq_false_iff_ne.2 hin
    have HB : Hid (blankB z n i = (z i == 32 || z i == 10)) := by show (i == n || z i == 32 || z i == 10) = _; rw [hnb]; rfl
    clear hnb
    clear hcs hin
    by_cases h1 : z i = 32
    · have h1' : (z i == 32) = true := by simp [h1]
      rw [HB.out, h1']
      clear h1 HB
      go_enter Trym.func14, Trym.ntmps14
      go_wp2
      go_ret
      exact ⟨rfl, rfl⟩
    · have h1' : (z i == 32) = false := by simp [h1]
      rw [HB.out, h1']
      clear h1 HB
      go_enter Trym.func14, Trym.ntmps14
      go_wp2
      go_ret
      exact ⟨rfl, rfl⟩

theorem blankAt_walk (a : Option Addr) (n c : Nat) (z : Nat → Int) (i : Nat) (w : World) (hn : n ≤ 4000000) (hi : i ≤ n) (hb : Bts w a n z) :
    Calls Trym.prog 11 #[.slice a n c, .int .i64 i] w fun e w' => e = .returned (.bool (blankB z n i)) ∧ w' = w := by
  by_cases hin : i = n
  · subst hin
    have hbl : blankB z i i = true := by simp [blankB]
    rw [hbl]; clear hbl hb
    go_enter Trym.func11, Trym.ntmps11
    go_wp2
    go_ret
    exact ⟨rfl, rfl⟩
  · have hlt : i < n := by omega
    rcases hb with hb | ⟨b, off, rfl, hbs, hcs⟩
    · omega
    have hc := hcs i hlt
    have he : ((i : Int) == (n : Int)) = false := by simp; omega
    have hnb : (i == n) = false := beq_eq_false_iff_ne.2 hin
    have HB : Hid (blankB z n i = (z i == 32 || z i == 10)) := by show (i == n || z i == 32 || z i == 10) = _; rw [hnb]; rfl
    clear hnb
    clear hcs hin
    by_cases h1 : z i = 32
    · have h1' : (z i == 32) = true := by simp [h1]
      rw [HB.out, h1']
      clear h1 HB
      go_enter Trym.func11, Trym.ntmps11
      go_wp2
      go_ret
      exact ⟨rfl, rfl⟩
    · have h1' : (z i == 32) = false := by simp [h1]
      rw [HB.out, h1']
      clear h1 HB
      go_enter Trym.func11, Trym.ntmps11
      go_wp2
      go_ret
      exact ⟨rfl, rfl⟩

end Go.Proofs.Qxb6600779aMods
