/-
  Seat b6602052aM: bytes in memory; 'cloneBytes': a new row with the same bytes, nil stays nil; the shell's 'IsRow'; the bounds' functions.
-/
import Derived.Test.Qxb6602052aModsRows
import Derived.WalkKit
import Derived.ProofKit
import Derived.Below
import Derived.Lib.SliceRun
import Derived.Deep.OwnRows
namespace Go.Proofs.Qxb6602052aMods
open Go.RowKit
set_option linter.unusedVariables false

/-- The slice value with address a and length n reads as the bytes z 0 .. z (n-1) in the world w. -/
def Bts (w : World) (a : Option Addr) (n : Nat) (z : Nat → Int) : Prop :=
  n = 0 ∨ ∃ b off, a = some ⟨b, off, none⟩ ∧ b < w.heap.size ∧ ∀ i, i < n → w.cell? ⟨b, off + i, none⟩ = some (.int .u8 (z i))

theorem Trym.info5 : (Trym.prog.info? 5).map (fun i => (i.zero, i.size, i.bytes)) = some (some (.int .u8 0), 1, 1) := by kernel_rfl

/-- What is behind the clone: the bytes in memory of the call's own, or nothing. -/
def Copied (w w' : World) (a' : Option Addr) (n c' : Nat) (z : Nat → Int) : Prop :=
  Below w.heap.size w w' ∧ ((a' = none ∧ n = 0 ∧ c' = 0 ∧ w' = w) ∨ (a' = some ⟨w.heap.size, 0, none⟩ ∧ c' = n ∧ w'.heap.size = w.heap.size + 1 ∧ w'.rowIs w.heap.size 5 n (fun i => .int .u8 (z i))))

theorem Copied.bts {w w' : World} {a' : Option Addr} {n c' : Nat} {z : Nat → Int} (h : Copied w w' a' n c' z) : Bts w' a' n z := by
  rcases h.2 with ⟨_, h, _⟩ | ⟨rfl, _, h2, h3⟩
  · exact .inl h
  · exact .inr ⟨_, 0, rfl, by omega, fun i hi => by rw [Nat.zero_add]; exact h3.cell hi⟩

set_option maxHeartbeats 400000 in
theorem clone_walk (a : Option Addr) (n c : Nat) (z : Nat → Int) (w : World) (hn : n ≤ 4000000) (hb : Bts w a n z) (hnil : a = none → n = 0) :
    Calls Trym.prog 9 #[.slice a n c] w fun e w' => ∃ a' c', e = .returned (.slice a' n c') ∧ Copied w w' a' n c' z := by
  have q22 : ∀ (w : World) (a : Option Addr) (n c n' c' : Nat), (binOp .eql 22 (.slice a n c) (.slice none n' c')).run Trym.prog w = .ok (.bool a.isNone) w := fun w a n c n' c' => Lib.run_eql_slice_nil w _ _ a n c n' c' Trym.underlying22
  rcases a with _ | x
  · obtain rfl := hnil rfl
    clear hnil
    go_enter Trym.func9, Trym.ntmps9
    go_wp2
    go_ret
    exact ⟨none, 0, rfl, Below.refl _ _, .inl ⟨rfl, rfl, rfl, rfl⟩⟩
  · clear hnil
    have hmk := run_make_row' (P := Trym.prog) 22 5 (.int .u8 0) 1 Trym.underlying22 Trym.info5 rfl .i64 .i64 n (by omega) (by omega)
    have hsrc : ∀ i, i < n → ∃ b off, x = ⟨b, off, none⟩ ∧ b < w.heap.size ∧ w.cell? ⟨b, off + i, none⟩ = some (.int .u8 (z i)) := by
      intro i hi
      rcases hb with h | ⟨b, off, h1, h2, h3⟩
      · omega
      · exact ⟨b, off, by simpa using h1, h2, h3 i hi⟩
    have HS : Hid (∀ i, i < n → ∃ b off, x = ⟨b, off, none⟩ ∧ b < w.heap.size ∧ w.cell? ⟨b, off + i, none⟩ = some (.int .u8 (z i))) := hsrc
    clear hsrc hb
    go_enter Trym.func9, Trym.ntmps9
    go_wp2
    clear hmk q22
    go_loopw [4] (fun i wr => ∃ k : Nat, i = .int .i64 k ∧ k ≤ n ∧ wr.heap.size = w.heap.size + 1 ∧ Below w.heap.size w wr ∧ wr.rowIs w.heap.size 5 n (fun j => if j < k then .int .u8 (z j) else .int .u8 0)) (fun i _ => n - (intOf i).toNat)
    case atStart => exact ⟨0, rfl, Nat.zero_le _, by simp, (Below.refl _ _).alloc (Nat.le_refl _) _, (World.rowIs_made w (.int .u8 0) n 5).congr (fun i hi => by simp)⟩
    case round =>
      obtain ⟨k, rfl, hk, hsz, hbel, hrow⟩ := hrel
      by_cases hlt : k < n
      · obtain ⟨b, off, rfl, hbs, hc0⟩ := HS.out k hlt
        have hc : wr.cell? ⟨b, off + k, none⟩ = some (.int .u8 (z k)) := (hbel.cell hbs).trans hc0
        have hd := hrow.cell hlt
        have hf := hrow.frozen k
        have hrow' : (wr.setCell ⟨w.heap.size, k, none⟩ (.int .u8 (z k))).rowIs w.heap.size 5 n (fun j => if j < k + 1 then .int .u8 (z j) else .int .u8 0) := (hrow.set k (.int .u8 (z k))).congr (fun i hi => by
          by_cases h1 : i = k
          · subst h1; simp
          · by_cases h2 : i < k
            · rw [if_neg h1, if_pos h2, if_pos (by omega)]
            · rw [if_neg h1, if_neg h2, if_neg (by omega)])
        have hbel' : Below w.heap.size w (wr.setCell ⟨w.heap.size, k, none⟩ (.int .u8 (z k))) := hbel.setCell (Nat.le_refl _) _
        have hsz' : (wr.setCell ⟨w.heap.size, k, none⟩ (.int .u8 (z k))).heap.size = w.heap.size + 1 := by simp [hsz]
        clear hrow hc0
        go_wp2
        go_roundw
        case rel => exact ⟨k + 1, by go_num, by omega, hsz', hbel', hrow'⟩
        case measure => simp [intOf]; omega
      · have hkn : k = n := by omega
        subst hkn
        have H : Copied w wr (some ⟨w.heap.size, 0, none⟩) k k z := ⟨hbel, .inr ⟨rfl, rfl, hsz, hrow.congr (fun i hi => by rw [if_pos hi])⟩⟩
        clear hrow hbel hsz
        go_wp2
        go_ret
        exact ⟨_, _, rfl, H⟩

def IsRow (k : IntKind) (w : World) (a : Option Addr) (len cap : Nat) (zs : List Int) : Prop :=
  (a = none ∧ len = 0 ∧ cap = 0 ∧ zs = []) ∨
  ∃ x, a = some x ∧ len ≤ cap ∧ cap ≤ maxLen ∧ zs.length = cap ∧ (∀ i, i < zs.length → w.cell? (x.add i) = some (.int k (zs.getD i 0))) ∧ ∀ n ∈ zs, (Lit.int k n).wf = true

def zof (zs : List Int) (i : Nat) : Int := zs.getD i 0

theorem cell_lt {w : World} {a : Addr} {v : Value} (h : w.cell? a = some v) : a.block < w.heap.size := by
  rcases Nat.lt_or_ge a.block w.heap.size with hh | hh
  · exact hh
  · have : w.heap[a.block]? = none := Array.getElem?_eq_none_iff.2 hh
    simp [World.cell?, this] at h

theorem IsRow.bts {w : World} {a : Option Addr} {len cap : Nat} {zs : List Int} (h : IsRow .u8 w a len cap zs) : Bts w a len (zof zs) := by
  rcases h with ⟨_, h, _⟩ | ⟨x, rfl, hl, _, hz, hc, _⟩
  · exact .inl h
  · rcases Nat.eq_zero_or_pos len with h0 | h0
    · exact .inl h0
    · obtain ⟨b, off, spot⟩ := x
      have hspot : spot = none := by simpa [Addr.add] using World.cell?_spot (hc 0 (by omega))
      subst hspot
      have hc' : ∀ j, j < zs.length → w.cell? ⟨b, off + j, none⟩ = some (.int .u8 (zs.getD j 0)) := fun j hj => by
        have := hc j hj
        rwa [Addr.add_lit] at this
      refine .inr ⟨b, off, rfl, cell_lt (hc' 0 (by omega)), fun i hi => hc' i (by omega)⟩

theorem IsRow.nil {w : World} {a : Option Addr} {len cap : Nat} {zs : List Int} (h : IsRow .u8 w a len cap zs) : a = none → len = 0 := by
  rintro rfl
  rcases h with ⟨_, h, _⟩ | ⟨x, h, _⟩
  · exact h
  · cases h

theorem IsRow.le {w : World} {a : Option Addr} {len cap : Nat} {zs : List Int} (h : IsRow .u8 w a len cap zs) : len ≤ 9223372036854775807 := by
  rcases h with ⟨_, h, _⟩ | ⟨x, _, h1, h2, _⟩
  · omega
  · unfold maxLen at h2; omega

theorem Bts.below {w w' : World} {a : Option Addr} {n : Nat} {z : Nat → Int} (h : Bts w a n z) (hb : Below w.heap.size w w') : Bts w' a n z := by
  rcases h with h | ⟨b, off, h1, h2, h3⟩
  · exact .inl h
  · exact .inr ⟨b, off, h1, Nat.lt_of_lt_of_le h2 hb.size, fun i hi => (hb.cell (by exact h2)).trans (h3 i hi)⟩

theorem bytes8 (a0 : Option Addr) (n0 c0 : Nat) (p q : Int) (w : World) (h0 : n0 ≤ 9223372036854775807) :
    Calls Trym.prog 8 #[.slice a0 n0 c0, .int .i64 p, .int .i64 q] w fun e w' => ∃ v : Bool, e = .returned (.bool v) ∧ w' = w := by
  go_enter Trym.func8, Trym.ntmps8
  go_wp2
  all_goals (go_ret; exact ⟨_, rfl, rfl⟩)

theorem bytes11 (a0 a1 : Option Addr) (n0 c0 n1 c1 : Nat) (p : Int) (w : World) (h0 : n0 ≤ 9223372036854775807) (h1 : n1 ≤ 9223372036854775807) :
    Calls Trym.prog 11 #[.slice a0 n0 c0, .slice a1 n1 c1, .int .i64 p] w fun e w' => ∃ v : Bool, e = .returned (.bool v) ∧ w' = w := by
  go_enter Trym.func11, Trym.ntmps11
  go_wp2
  all_goals (go_ret; exact ⟨_, rfl, rfl⟩)

end Go.Proofs.Qxb6602052aMods
