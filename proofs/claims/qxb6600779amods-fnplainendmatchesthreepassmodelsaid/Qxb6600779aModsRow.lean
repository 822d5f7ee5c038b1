/-
  Seat b6600779aM: from the shell's 'IsRow' to 'Bts'; the bounds' functions; what an append of bytes wants.
-/
import Derived.Test.Qxb6600779aModsClone
namespace Go.Proofs.Qxb6600779aMods
open Go.RowKit
set_option linter.unusedVariables false

def IsRow (k : IntKind) (w : World) (a : Option Addr) (len cap : Nat) (zs : List Int) : Prop :=
  (a = none ∧ len = 0 ∧ cap = 0 ∧ zs = []) ∨
  ∃ x, a = some x ∧ len ≤ cap ∧ cap ≤ maxLen ∧ zs.length = cap ∧ (∀ i, i < zs.length → w.cell? (x.add i) = some (.int k (zs.getD i 0))) ∧ ∀ n ∈ zs, (Lit.int k n).wf = true

def zof (zs : List Int) (i : Nat) : Int := zs.getD i 0

theorem cell_lt {w : World} {a : Addr} {v : Value} (h : w.cell? a = some v) : a.block < w.heap.size := by
  rcases Nat.lt_or_ge a.block w.heap.size with hh | hh
  · exact hh
  · have : w.heap[a.block]? = none := Array.getElem?_eq_none_iff.2 hh
    simp [World.cell?, this] at h

theorem IsRow.bts {w : World} {a : Option Addr} {len cap : Nat} {zs : List Int} (h : IsRow .u8 w a len cap zs) : Bts w a len (zof zs) := by
  rcases h with ⟨_, h, _⟩ | ⟨x, rfl, hl, _, hz, hc, _⟩
  · exact .inl h
  · rcases Nat.eq_zero_or_pos len with h0 | h0
    · exact .inl h0
    · obtain ⟨b, off, spot⟩ := x
      have hspot : spot = none := by simpa [Addr.add] using World.cell?_spot (hc 0 (by omega))
      subst hspot
      have hc' : ∀ j, j < zs.length → w.cell? ⟨b, off + j, none⟩ = some (.int .u8 (zs.getD j 0)) := fun j hj => by
        have := hc j hj
        rwa [Addr.add_lit] at this
      refine .inr ⟨b, off, rfl, cell_lt (hc' 0 (by omega)), fun i hi => hc' i (by omega)⟩

theorem IsRow.nil {w : World} {a : Option Addr} {len cap : Nat} {zs : List Int} (h : IsRow .u8 w a len cap zs) : a = none → len = 0 := by
  rintro rfl
  rcases h with ⟨_, h, _⟩ | ⟨x, h, _⟩
  · exact h
  · cases h

theorem IsRow.le {w : World} {a : Option Addr} {len cap : Nat} {zs : List Int} (h : IsRow .u8 w a len cap zs) : len ≤ 9223372036854775807 := by
  rcases h with ⟨_, h, _⟩ | ⟨x, _, h1, h2, _⟩
  · omega
  · unfold maxLen at h2; omega

theorem Bts.below {w w' : World} {a : Option Addr} {n : Nat} {z : Nat → Int} (h : Bts w a n z) (hb : Below w.heap.size w w') : Bts w' a n z := by
  rcases h with h | ⟨b, off, h1, h2, h3⟩
  · exact .inl h
  · exact .inr ⟨b, off, h1, Nat.lt_of_lt_of_le h2 hb.size, fun i hi => (hb.cell (by exact h2)).trans (h3 i hi)⟩

theorem bytes12 (a0 a1 a2 : Option Addr) (n0 c0 n1 c1 n2 c2 : Nat) (w : World) (h0 : n0 ≤ 9223372036854775807) (h1 : n1 ≤ 9223372036854775807) (h2 : n2 ≤ 9223372036854775807) :
    Calls Trym.prog 12 #[.slice a0 n0 c0, .slice a1 n1 c1, .slice a2 n2 c2] w fun e w' => ∃ v : Bool, e = .returned (.bool v) ∧ w' = w := by
  go_enter Trym.func12, Trym.ntmps12
  go_wp2
  all_goals (go_ret; exact ⟨_, rfl, rfl⟩)

theorem bytes6 (a0 : Option Addr) (n0 c0 : Nat) (p : Int) (w : World) (h0 : n0 ≤ 9223372036854775807) :
    Calls Trym.prog 6 #[.slice a0 n0 c0, .int .i64 p] w fun e w' => ∃ v : Bool, e = .returned (.bool v) ∧ w' = w := by
  go_enter Trym.func6, Trym.ntmps6
  go_wp2
  all_goals (go_ret; exact ⟨_, rfl, rfl⟩)

theorem bytes10 (a0 : Option Addr) (n0 c0 : Nat) (p : Int) (w : World) (h0 : n0 ≤ 9223372036854775807) :
    Calls Trym.prog 10 #[.slice a0 n0 c0, .int .i64 p] w fun e w' => ∃ v : Bool, e = .returned (.bool v) ∧ w' = w := by
  go_enter Trym.func10, Trym.ntmps10
  go_wp2
  all_goals (go_ret; exact ⟨_, rfl, rfl⟩)

def bl (m : Nat) (z : Nat → Int) : List Value := (List.range m).map fun i => .int .u8 (z i)
theorem bl_len (m : Nat) (z : Nat → Int) : (bl m z).length = m := by simp [bl]
theorem bl_len1 (m : Nat) (z : Nat → Int) : (bl m z).length = m * 1 := by simp [bl]
theorem bl_one (m : Nat) (z : Nat → Int) : ∀ u ∈ bl m z, u.oneCell' = true := by
  intro u hu
  simp only [bl, List.mem_map] at hu
  obtain ⟨i, _, rfl⟩ := hu
  rfl
theorem bl_get (m : Nat) (z : Nat → Int) (j : Nat) (hj : j < m) : (bl m z)[j]? = some (.int .u8 (z j)) := by simp [bl, hj]
theorem bl_cells {w : World} {ao : Option Addr} {m : Nat} {z : Nat → Int} (h : Bts w ao m z) : ∀ ad, ao = some ad → ∀ j u, (bl m z)[j]? = some u → w.cell? (ad.add j) = some u := by
  intro ad had j u hu
  have hj : j < m := by
    have := (List.getElem?_eq_some_iff.1 hu).1
    simpa [bl] using this
  rw [bl_get m z j hj] at hu
  obtain rfl := Option.some.inj hu
  rcases h with h | ⟨b, off, h1, h2, h3⟩
  · omega
  · rw [had] at h1
    obtain rfl := Option.some.inj h1
    rw [Addr.add_lit]
    exact h3 j hj

theorem Copied.none {w w' : World} {a' : Option Addr} {n c' : Nat} {z : Nat → Int} (h : Copied w w' a' n c' z) : a' = none → n = 0 ∧ c' = 0 := by
  rintro rfl
  rcases h.2 with ⟨_, h1, h2, _⟩ | ⟨h1, _⟩
  · exact ⟨h1, h2⟩
  · cases h1

/-- A row of the call's own, read as bytes. -/
theorem bts_of_own {w : World} {base g k cap : Nat} {xs : List Value} {z : Nat → Int} (h : w.ownsRow base 5 1 (.slice (some ⟨g, 0, none⟩) k cap) k xs) (hx : ∀ j, j < k → xs[j]? = some (.int .u8 (z j))) : Bts w (some ⟨g, 0, none⟩) k z := by
  rcases Nat.eq_zero_or_pos k with h0 | h0
  · exact .inl h0
  · have hc : ∀ j, j < k → w.cell? ⟨g, j, Option.none⟩ = some (.int .u8 (z j)) := fun j hj => (h.cellAt j (by omega)).trans (hx j hj)
    exact .inr ⟨g, 0, rfl, cell_lt (hc 0 h0), fun i hi => by rw [Nat.zero_add]; exact hc i hi⟩

end Go.Proofs.Qxb6600779aMods
