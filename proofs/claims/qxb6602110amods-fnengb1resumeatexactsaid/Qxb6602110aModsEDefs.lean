/-
  Seat b6602110aM: steps in memory; the functions that weigh them.
-/
import Derived.Test.Qxb6602110aModsRows
import Derived.WalkKit
import Derived.ProofKit
import Derived.Below
import Derived.Deep.MidRow
namespace Go.Proofs.Qxb6602110aMods
open Go.RowKit
set_option linter.unusedVariables false

/-- A step: its kind, its four texts, its mark. -/
structure St where
  k : Int
  a : ByteArray
  b : ByteArray
  c : ByteArray
  d : ByteArray
  m : Bool
def St.cells (s : St) : List Value := [.int .i64 s.k, .string s.a, .string s.b, .string s.c, .string s.d, .bool s.m]
def St.fits (s : St) : Prop := s.a.size ≤ 9223372036854775807 ∧ s.b.size ≤ 9223372036854775807 ∧ s.c.size ≤ 9223372036854775807 ∧ s.d.size ≤ 9223372036854775807

/-- The slice value with address a and length n reads as the steps f 0 .. f (n-1). -/
def Stps (w : World) (a : Option Addr) (n : Nat) (f : Nat → St) : Prop :=
  n = 0 ∨ ∃ b off, a = some ⟨b, off, none⟩ ∧ b < w.heap.size ∧ ∀ i, i < n → w.rangeAt b (off + i * 6) (f i).cells

theorem Stps.get {w : World} {a : Option Addr} {n : Nat} {f : Nat → St} (h : Stps w a n f) (hn : 0 < n) : ∃ b off, a = some ⟨b, off, none⟩ ∧ b < w.heap.size ∧ ∀ i, i < n → w.rangeAt b (off + i * 6) (f i).cells := by
  rcases h with h | h
  · omega
  · exact h

/-- The six cells, one by one. -/
theorem six {w : World} {b o : Nat} {s : St} (h : w.rangeAt b o s.cells) : w.cell? ⟨b, o, none⟩ = some (.int .i64 s.k) ∧ w.cell? ⟨b, o + 1, none⟩ = some (.string s.a) ∧ w.cell? ⟨b, o + 2, none⟩ = some (.string s.b) ∧ w.cell? ⟨b, o + 3, none⟩ = some (.string s.c) ∧ w.cell? ⟨b, o + 4, none⟩ = some (.string s.d) ∧ w.cell? ⟨b, o + 5, none⟩ = some (.bool s.m) :=
  ⟨h 0 _ rfl, h 1 _ rfl, h 2 _ rfl, h 3 _ rfl, h 4 _ rfl, h 5 _ rfl⟩

/-- Some bool, and the world as it was. -/
def SomeBool (w : World) (e : Ending) (w' : World) : Prop := ∃ v : Bool, e = .returned (.bool v) ∧ w' = w

theorem Stps.below {B : Nat} {w w' : World} {a : Option Addr} {n : Nat} {f : Nat → St} (h : Stps w a n f) (hb : Below B w w') (hB : ∀ x, a = some x → x.block < B) : Stps w' a n f := by
  rcases h with h | ⟨b, off, rfl, h2, h3⟩
  · exact .inl h
  · refine .inr ⟨b, off, rfl, Nat.lt_of_lt_of_le h2 hb.size, fun i hi j v hv => ?_⟩
    rw [hb.cell (p := ⟨b, off + i * 6 + j, none⟩) (hB ⟨b, off, none⟩ rfl)]
    exact h3 i hi j v hv

theorem Stps.below' {w w' : World} {a : Option Addr} {n : Nat} {f : Nat → St} (h : Stps w a n f) (hb : Below w.heap.size w w') : Stps w' a n f := by
  rcases h with h | ⟨b, off, rfl, h2, h3⟩
  · exact .inl h
  · refine .inr ⟨b, off, rfl, Nat.lt_of_lt_of_le h2 hb.size, fun i hi j v hv => ?_⟩
    rw [hb.cell (p := ⟨b, off + i * 6 + j, none⟩) h2]
    exact h3 i hi j v hv

theorem txt_ne {a b : ByteArray} (h : ¬ a = b) : (a.toList == b.toList) = false := by
  rw [beq_eq_false_iff_ne]
  intro e
  rw [ByteArray.toList_eq, ByteArray.toList_eq] at e
  exact h (ByteArray.ext (Array.toList_inj.1 e))

theorem txt_eq (a : ByteArray) : (a.toList == a.toList) = true := by simp

end Go.Proofs.Qxb6602110aMods
