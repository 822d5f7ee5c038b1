/-
  Seat b6602052aM: the walk of 'sameKey'.
-/
import Derived.Test.Qxb6602052aModsShift
import Derived.Test.Qxb6602052aModsUPlain
import Derived.Deep.QuietTactic
import Derived.BigQuiet
import Derived.WalkSmall
namespace Go.Proofs.Qxb6602052aMods
open Go.RowKit
set_option linter.unusedVariables false

theorem Bts.get {w : World} {a : Option Addr} {n : Nat} {z : Nat → Int} (h : Bts w a n z) (hn : 0 < n) : ∃ b off, a = some ⟨b, off, none⟩ ∧ b < w.heap.size ∧ ∀ i, i < n → w.cell? ⟨b, off + i, none⟩ = some (.int .u8 (z i)) := by
  rcases h with h | h
  · omega
  · exact h

theorem keyEq_false {a b : Nat → Int} {p q k t : Nat} (ht : t < k) (h : ¬ a (p + t) = b (q + t)) : keyEq a p b q k = false := by
  cases hk : keyEq a p b q k
  · rfl
  · exact absurd (keyEq_iff.1 hk t ht) h

set_option maxHeartbeats 400000 in
theorem same_walk (a b : Option Addr) (na ca nb cb : Nat) (za zb : Nat → Int) (p q k : Nat) (x y c : Int) (hx : x = p) (hy : y = q) (hk : c = k) (w : World) (Ba : Bts w a na za) (Bb : Bts w b nb zb)
    (hp : p + k ≤ na) (hq : q + k ≤ nb) (hna : na ≤ 4000000) (hnb : nb ≤ 4000000) (hkb : k ≤ 9223372036854775806) :
    Calls Trym.prog 12 #[.slice a na ca, .int .i64 x, .slice b nb cb, .int .i64 y, .int .i64 c] w fun e w' => e = .returned (.bool (keyEq za p zb q k)) ∧ Below w.heap.size w w' := by
  subst hx hy hk
  go_enter Trym.func12, Trym.ntmps12
  go_wp2
  go_loopw [11] (fun i wr => ∃ t : Nat, i = .int .i64 t ∧ t ≤ k ∧ Below w.heap.size w wr ∧ Hid (∀ s, s < t → za (p + s) = zb (q + s))) (fun i _ => k - (intOf i).toNat)
  case atStart => exact ⟨0, rfl, Nat.zero_le _, Below.refl _ _, fun s hs => by omega⟩
  case round =>
    obtain ⟨t, rfl, ht, hbel, HS⟩ := hrel
    by_cases hlt : t < k
    · obtain ⟨b1, o1, rfl, h1, hc1⟩ := Ba.get (by omega)
      obtain ⟨b2, o2, rfl, h2, hc2⟩ := Bb.get (by omega)
      have c1 : wr.cell? ⟨b1, o1 + (p + t), none⟩ = some (.int .u8 (za (p + t))) := (hbel.cell h1).trans (hc1 (p + t) (by omega))
      have c2 : wr.cell? ⟨b2, o2 + (q + t), none⟩ = some (.int .u8 (zb (q + t))) := (hbel.cell h2).trans (hc2 (q + t) (by omega))
      clear hc1 hc2
      have i1 : (0 : Int) ≤ (p : Int) + t := by omega
      have i2 : (p : Int) + t < na := by omega
      have i3 : (0 : Int) ≤ (q : Int) + t := by omega
      have i4 : (q : Int) + t < nb := by omega
      have w1 : IntKind.i64.wrap ((p : Int) + t) = p + t := IntWalk.i64_in _ (by omega)
      have w2 : IntKind.i64.wrap ((q : Int) + t) = q + t := IntWalk.i64_in _ (by omega)
      have t1 : ((p : Int) + t).toNat = p + t := by omega
      have t2 : ((q : Int) + t).toNat = q + t := by omega
      by_cases he : za (p + t) = zb (q + t)
      · have he' : (za (p + t) != zb (q + t)) = false := by simp [he]
        have HS' : Hid (∀ s, s < t + 1 → za (p + s) = zb (q + s)) := fun s hs => by
          rcases Nat.lt_or_ge s t with hh | hh
          · exact HS.out s hh
          · have : s = t := by omega
            rw [this]; exact he
        clear he HS
        go_wp2
        go_quiet (fail)
        go_wp2
        go_roundw
        case rel => exact ⟨t + 1, by go_num, by omega, below_drewN hbel _, HS'⟩
        case measure => simp [intOf]; omega
      · have he' : (za (p + t) != zb (q + t)) = true := by simp [he]
        have HF : Hid (keyEq za p zb q k = false) := keyEq_false hlt he
        clear he HS
        go_wp2
        go_quiet (fail)
        go_wp2
        go_ret
        exact ⟨by rw [HF.out]; rfl, below_drewN hbel _⟩
    · have HF : Hid (keyEq za p zb q k = true) := keyEq_iff.2 (fun s hs => HS.out s (by omega))
      clear HS
      go_wp2
      go_ret
      exact ⟨by rw [HF.out]; rfl, hbel⟩

end Go.Proofs.Qxb6602052aMods
