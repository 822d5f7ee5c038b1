/-
  Seat b6600779aM: 'zzCloneBytes': a new row with the same bytes; nil stays nil.
-/
import Derived.Test.Qxb6600779aModsZend
import Derived.Lib.SliceRun
import Derived.Deep.OwnRows
namespace Go.Proofs.Qxb6600779aMods
open Go.RowKit
set_option linter.unusedVariables false

theorem Trym.info5 : (Trym.prog.info? 5).map (fun i => (i.zero, i.size, i.bytes)) = some (some (.int .u8 0), 1, 1) := by kernel_rfl

/-- What is behind the clone: the bytes in memory of the call's own, or nothing. -/
def Copied (w w' : World) (a' : Option Addr) (n c' : Nat) (z : Nat → Int) : Prop :=
  Below w.heap.size w w' ∧ ((a' = none ∧ n = 0 ∧ c' = 0 ∧ w' = w) ∨ (a' = some ⟨w.heap.size, 0, none⟩ ∧ c' = n ∧ w'.heap.size = w.heap.size + 1 ∧ w'.rowIs w.heap.size 5 n (fun i => .int .u8 (z i))))

theorem Copied.bts {w w' : World} {a' : Option Addr} {n c' : Nat} {z : Nat → Int} (h : Copied w w' a' n c' z) : Bts w' a' n z := by
  rcases h.2 with ⟨_, h, _⟩ | ⟨rfl, _, h2, h3⟩
  · exact .inl h
  · exact .inr ⟨_, 0, rfl, by omega, fun i hi => by rw [Nat.zero_add]; exact h3.cell hi⟩

set_option maxHeartbeats 400000 in
theorem clone_walk (a : Option Addr) (n c : Nat) (z : Nat → Int) (w : World) (hn : n ≤ 4000000) (hb : Bts w a n z) (hnil : a = none → n = 0) :
    Calls Trym.prog 7 #[.slice a n c] w fun e w' => ∃ a' c', e = .returned (.slice a' n c') ∧ Copied w w' a' n c' z := by
  have q22 : ∀ (w : World) (a : Option Addr) (n c n' c' : Nat), (binOp .eql 22 (.slice a n c) (.slice none n' c')).run Trym.prog w = .ok (.bool a.isNone) w := fun w a n c n' c' => Lib.run_eql_slice_nil w _ _ a n c n' c' Trym.underlying22
  rcases a with _ | x
  · obtain rfl := hnil rfl
    clear hnil
    go_enter Trym.func7, Trym.ntmps7
    go_wp2
    go_ret
    exact ⟨none, 0, rfl, Below.refl _ _, .inl ⟨rfl, rfl, rfl, rfl⟩⟩
  · clear hnil
    have hmk := run_make_row' (P := Trym.prog) 22 5 (.int .u8 0) 1 Trym.underlying22 Trym.info5 rfl .i64 .i64 n (by omega) (by omega)
    have hsrc : ∀ i, i < n → ∃ b off, x = ⟨b, off, none⟩ ∧ b < w.heap.size ∧ w.cell? ⟨b, off + i, none⟩ = some (.int .u8 (z i)) := by
      intro i hi
      rcases hb with h | ⟨b, off, h1, h2, h3⟩
      · omega
      · exact ⟨b, off, by simpa using h1, h2, h3 i hi⟩
    have HS : Hid (∀ i, i < n → ∃ b off, x = ⟨b, off, none⟩ ∧ b < w.heap.size ∧ w.cell? ⟨b, off + i, none⟩ = some (.int .u8 (z i))) := hsrc
    clear hsrc hb
    go_enter Trym.func7, Trym.ntmps7
    go_wp2
    clear hmk q22
    go_loopw [4] (fun i wr => ∃ k : Nat, i = .int .i64 k ∧ k ≤ n ∧ wr.heap.size = w.heap.size + 1 ∧ Below w.heap.size w wr ∧ wr.rowIs w.heap.size 5 n (fun j => if j < k then .int .u8 (z j) else .int .u8 0)) (fun i _ => n - (intOf i).toNat)
    case atStart => exact ⟨0, rfl, Nat.zero_le _, by simp, (Below.refl _ _).alloc (Nat.le_refl _) _, (World.rowIs_made w (.int .u8 0) n 5).congr (fun i hi => by simp)⟩
    case round =>
      obtain ⟨k, rfl, hk, hsz, hbel, hrow⟩ := hrel
      by_cases hlt : k < n
      · obtain ⟨b, off, rfl, hbs, hc0⟩ := HS.out k hlt
        have hc : wr.cell? ⟨b, off + k, none⟩ = some (.int .u8 (z k)) := (hbel.cell hbs).trans hc0
        have hd := hrow.cell hlt
        have hf := hrow.frozen k
        have hrow' : (wr.setCell ⟨w.heap.size, k, none⟩ (.int .u8 (z k))).rowIs w.heap.size 5 n (fun j => if j < k + 1 then .int .u8 (z j) else .int .u8 0) := (hrow.set k (.int .u8 (z k))).congr (fun i hi => by
          by_cases h1 : i = k
          · subst h1; simp
          · by_cases h2 : i < k
            · rw [if_neg h1, if_pos h2, if_pos (by omega)]
            · rw [if_neg h1, if_neg h2, if_neg (by omega)])
        have hbel' : Below w.heap.size w (wr.setCell ⟨w.heap.size, k, none⟩ (.int .u8 (z k))) := hbel.setCell (Nat.le_refl _) _
        have hsz' : (wr.setCell ⟨w.heap.size, k, none⟩ (.int .u8 (z k))).heap.size = w.heap.size + 1 := by simp [hsz]
        clear hrow hc0
        go_wp2
        go_roundw
        case rel => exact ⟨k + 1, by go_num, by omega, hsz', hbel', hrow'⟩
        case measure => simp [intOf]; omega
      · have hkn : k = n := by omega
        subst hkn
        have H : Copied w wr (some ⟨w.heap.size, 0, none⟩) k k z := ⟨hbel, .inr ⟨rfl, rfl, hsz, hrow.congr (fun i hi => by rw [if_pos hi])⟩⟩
        clear hrow hbel hsz
        go_wp2
        go_ret
        exact ⟨_, _, rfl, H⟩

end Go.Proofs.Qxb6600779aMods
