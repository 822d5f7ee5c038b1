/-
  Seat b6602110aM: the byte bound of the round-trip law.
-/
import Derived.Test.Qxb6602110aModsEDefs
namespace Go.Proofs.Qxb6602110aMods
open Go.RowKit
set_option linter.unusedVariables false

set_option maxRecDepth 100000 in
set_option maxHeartbeats 1000000 in
theorem bytes23 (a : Option Addr) (n c : Nat) (f : Nat → St) (o : ByteArray) (w : World) (hn : n ≤ 9223372036854775807) (ho : o.size ≤ 9223372036854775807) (hf : ∀ i, i < n → (f i).fits) (hs : Stps w a n f) :
    Calls Trym.prog 23 #[.slice a n c, .string o] w (SomeBool w) := by
  by_cases hb : 1048576 < n
  · go_enter Trym.func23, Trym.ntmps23
    go_wp2
    go_ret
    exact ⟨_, rfl, rfl⟩
  have HF : Hid (∀ i, i < n → (f i).fits) := hf
  clear hf hn
  go_enter Trym.func23, Trym.ntmps23
  go_wp2
  go_loop [5, 6] (fun z i => ∃ t q : Nat, i = .int .i64 t ∧ z = .int .i64 q ∧ t ≤ n ∧ q ≤ 1048576) (fun _ i => n - (intOf i).toNat)
  case atStart => exact ⟨0, n, rfl, rfl, Nat.zero_le _, by omega⟩
  case round =>
    obtain ⟨t, q, rfl, rfl, ht, hq⟩ := hrel
    by_cases hlt : t < n
    · obtain ⟨b, off, rfl, h2, h3⟩ := hs.get (by omega)
      obtain ⟨c0, c1, c2, c3, c4, c5⟩ := six (h3 t hlt)
      obtain ⟨f1, f2, f3, f4⟩ := HF.out t hlt
      clear h3
      go_wp2
      all_goals first
        | (go_ret; exact ⟨_, rfl, rfl⟩)
        | (go_round
           case rel => exact ⟨t + 1, q + (f t).a.size + (f t).b.size + (f t).c.size + (f t).d.size, by go_num, by go_num, by omega, by omega⟩
           case measure => simp [intOf]; omega)
    · go_wp2
      all_goals (go_ret; exact ⟨_, rfl, rfl⟩)

end Go.Proofs.Qxb6602110aMods
