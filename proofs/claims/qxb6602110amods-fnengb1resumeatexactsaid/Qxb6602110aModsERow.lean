/-
  Seat b6602110aM: the steps read out of an argument.
-/
import Derived.Test.Qxb6602110aModsEDefs
import Derived.OpenShut
import Derived.Deep.Slices
namespace Go.Proofs.Qxb6602110aMods
open Go.RowKit
set_option linter.unusedVariables false

theorem c3 : Trym.prog.cellsOf 3 = 1 := by kernel_rfl
theorem c9 : Trym.prog.cellsOf 9 = 1 := by kernel_rfl
theorem c4 : Trym.prog.cellsOf 4 = 1 := by kernel_rfl
theorem c34 : Trym.prog.cellsOf 34 = 6 := by kernel_rfl

instance : Inhabited St := ⟨⟨0, ⟨#[]⟩, ⟨#[]⟩, ⟨#[]⟩, ⟨#[]⟩, false⟩⟩

theorem open_step {H : Type} {enc : TypeId × Value → H} {W : World} {base : Nat} {spare : Nat → Bool} {held : Bool} {n : Nat} {cs : List Value} {x : DataW H × List MemPlace} (h : DataW.trod enc Trym.prog W base spare held n 34 cs = some x) : ∃ s : St, cs = s.cells ∧ s.fits := by
  obtain ⟨xs, m, _, _, hl, hlen, hf⟩ := DataW.trod_struct Trym.underlying34 h
  rw [c34] at hl
  match cs, hl with
  | [x0, x1, x2, x3, x4, x5], _ =>
    match xs, hlen with
    | [y0, y1, y2, y3, y4, y5], _ =>
      have h0 : DataW.trod enc Trym.prog W base spare held m 3 (([x0, x1, x2, x3, x4, x5].drop 0).take (Trym.prog.cellsOf 3)) = some y0 := hf 0 _ rfl
      rw [c3] at h0
      have h1 : DataW.trod enc Trym.prog W base spare held m 9 (([x0, x1, x2, x3, x4, x5].drop 1).take (Trym.prog.cellsOf 9)) = some y1 := hf 1 _ rfl
      rw [c9] at h1
      have h2 : DataW.trod enc Trym.prog W base spare held m 9 (([x0, x1, x2, x3, x4, x5].drop 2).take (Trym.prog.cellsOf 9)) = some y2 := hf 2 _ rfl
      rw [c9] at h2
      have h3 : DataW.trod enc Trym.prog W base spare held m 9 (([x0, x1, x2, x3, x4, x5].drop 3).take (Trym.prog.cellsOf 9)) = some y3 := hf 3 _ rfl
      rw [c9] at h3
      have h4 : DataW.trod enc Trym.prog W base spare held m 9 (([x0, x1, x2, x3, x4, x5].drop 4).take (Trym.prog.cellsOf 9)) = some y4 := hf 4 _ rfl
      rw [c9] at h4
      have h5 : DataW.trod enc Trym.prog W base spare held m 4 (([x0, x1, x2, x3, x4, x5].drop 5).take (Trym.prog.cellsOf 4)) = some y5 := hf 5 _ rfl
      rw [c4] at h5
      obtain ⟨k, e0, _, _⟩ := DataW.trod_int Trym.underlying3 h0
      obtain ⟨sa, e1, _, f1⟩ := DataW.trod_string Trym.underlying9 h1
      obtain ⟨sb, e2, _, f2⟩ := DataW.trod_string Trym.underlying9 h2
      obtain ⟨sc, e3, _, f3⟩ := DataW.trod_string Trym.underlying9 h3
      obtain ⟨sd, e4, _, f4⟩ := DataW.trod_string Trym.underlying9 h4
      obtain ⟨bm, e5, _⟩ := DataW.trod_bool Trym.underlying4 h5
      obtain rfl : x0 = .int .i64 k := by simpa using e0
      obtain rfl : x1 = .string sa := by simpa using e1
      obtain rfl : x2 = .string sb := by simpa using e2
      obtain rfl : x3 = .string sc := by simpa using e3
      obtain rfl : x4 = .string sd := by simpa using e4
      obtain rfl : x5 = .bool bm := by simpa using e5
      exact ⟨⟨k, sa, sb, sc, sd, bm⟩, rfl, by simpa [maxLen] using f1, by simpa [maxLen] using f2, by simpa [maxLen] using f3, by simpa [maxLen] using f4⟩

/-- What the walks want of a list of steps that came in. -/
def Steps (W : World) (a : Option Addr) (n : Nat) (f : Nat → St) : Prop := n ≤ 9223372036854775807 ∧ (∀ i, i < n → (f i).fits) ∧ Stps W a n f ∧ (a = none → n = 0)

theorem open_steps {H : Type} {enc : TypeId × Value → H} {W : World} {base : Nat} {spare : Nat → Bool} {held : Bool} {fuel : Nat} {a : Option Addr} {n c : Nat} {x : DataW H × List MemPlace} (h : DataW.trod enc Trym.prog W base spare held fuel 22 [.slice a n c] = some x) : ∃ f : Nat → St, Steps W a n f := by
  rcases Go.Deep.open_slice Trym.underlying22 h with ⟨hcs, _⟩ | ⟨ad, len, cap, m, k, D, Pl, hcs, hb, hl, hm, hmm, _, hx⟩
  · simp only [List.cons.injEq, Value.slice.injEq, and_true] at hcs
    obtain ⟨rfl, rfl, rfl⟩ := hcs
    exact ⟨fun _ => default, by omega, fun i hi => absurd hi (Nat.not_lt_zero _), .inl rfl, fun _ => rfl⟩
  · simp only [List.cons.injEq, Value.slice.injEq, and_true] at hcs
    obtain ⟨rfl, rfl, rfl⟩ := hcs
    have hlm : n ≤ m := by rw [hmm]; split <;> omega
    have hmax : n ≤ 9223372036854775807 := by simp [maxLen] at hm; omega
    obtain ⟨f, hf⟩ := Go.Deep.choose_lt (α := St) (n := n) (p := fun i s => (∀ j, j < 6 → W.cell? ((ad.add (i * 6)).add j) = s.cells[j]?) ∧ s.fits) (fun i hi => by
      obtain ⟨cs', h1, h2⟩ := hx i (by omega)
      rw [c34] at h1
      obtain ⟨s, rfl, hs⟩ := open_step h2
      obtain ⟨_, _, h3⟩ := World.cells?_some h1
      exact ⟨s, h3, hs⟩)
    refine ⟨f, hmax, fun i hi => (hf i hi).2, ?_, fun h => by cases h⟩
    by_cases h0 : n = 0
    · exact .inl h0
    obtain ⟨b, off, spot⟩ := ad
    have hc0 := (hf 0 (by omega)).1 0 (by omega)
    have hspot : spot = none := by simpa [Addr.add] using World.cell?_spot (hc0.trans rfl)
    subst hspot
    refine .inr ⟨b, off, rfl, ?_, fun i hi j v hv => ?_⟩
    · have := World.block_lt_of_cell? W _ (hc0.trans rfl)
      simpa [Addr.add_lit] using this
    · have hj : j < 6 := (List.getElem?_eq_some_iff.1 hv).1
      have := (hf i hi).1 j hj
      rw [Addr.add_lit, Addr.add_lit, hv] at this
      exact this

end Go.Proofs.Qxb6602110aMods
