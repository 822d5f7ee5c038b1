/-
  Seat b6602052aM: the walk of the law 'FnShiftThereAndBack'.
-/
import Derived.Test.Qxb6602052aModsShift
namespace Go.Proofs.Qxb6602052aMods
open Go.RowKit
set_option linter.unusedVariables false

theorem set_next (z : Nat → Int) (k i : Nat) : (if i = k then Value.int .u8 (z k) else .int .u8 (if i < k then z i else 0)) = .int .u8 (if i < k + 1 then z i else 0) := by
  by_cases h1 : i = k
  · subst h1
    rw [if_pos rfl, if_pos (by omega)]
  · rw [if_neg h1]
    by_cases h2 : i < k
    · rw [if_pos h2, if_pos (by omega)]
    · rw [if_neg h2, if_neg (by omega)]

theorem back_eq0 (F z : Nat → Int) {fr to n k : Nat} (hF : ∀ j, j < fr + n → F j = z j) (hk : k < fr + n) : shf (shf F fr to n) to fr n k = if to ≤ k ∧ k < fr then 0 else z k := by
  rcases Nat.lt_trichotomy fr to with hlt | heq | hgt
  · rw [if_neg (by omega)]
    unfold shf
    rw [if_neg (by omega), if_neg (by omega)]
    by_cases h1 : k < fr
    · rw [if_pos h1, if_neg (by omega), if_pos hlt, if_pos h1]
      exact hF k hk
    · rw [if_neg h1, if_pos hk, if_neg (by omega), if_pos hlt, if_neg (by omega), if_neg (by omega), if_pos (by omega), show k + (to - fr) - (to - fr) = k by omega]
      exact hF k hk
  · subst heq
    rw [if_neg (by omega)]
    unfold shf
    rw [if_pos rfl, if_pos rfl]
    exact hF k hk
  · have e1 : ∀ j, shf F fr to n j = if j < to then F j else if j < to + n then F (j + (fr - to)) else F j := by
      intro j
      unfold shf
      rw [if_neg (by omega), if_neg (by omega)]
    rw [shf, if_neg (by omega), if_pos hgt, e1, e1]
    by_cases h1 : k < to
    · rw [if_pos h1, if_pos h1, if_neg (by omega)]
      exact hF k hk
    · rw [if_neg h1]
      by_cases h2 : k < fr
      · rw [if_pos h2, if_pos ⟨by omega, h2⟩]
      · rw [if_neg h2, if_pos hk, if_neg (by omega), if_pos (by omega), if_neg (by omega), show k - (fr - to) + (fr - to) = k by omega]
        exact hF k hk
theorem back_eq (z : Nat → Int) {fr to n k : Nat} (hk : k < fr + n) : shf (shf (fun j => if j < fr + n then z j else 0) fr to n) to fr n k = if to ≤ k ∧ k < fr then 0 else z k :=
  back_eq0 _ z (fun j hj => if_pos hj) hk

set_option maxHeartbeats 1000000 in
theorem back_walk (a0 : Option Addr) (len0 cap0 : Nat) (z0 : List Int) (a1 a2 : Int) (w : World) (w0 : IsRow .u8 w a0 len0 cap0 z0) (w1 : (Lit.int .i64 a1).wf = true) (w2 : (Lit.int .i64 a2).wf = true) :
    Calls Trym.prog 3 #[.slice a0 len0 cap0, .int .i64 a1, .int .i64 a2] w fun e w' => e = .returned (.bool true) ∧ Below w.heap.size w w' := by
  have l0 := w0.le
  have B0 := w0.bts
  have N0 : Hid (a0 = none → len0 = 0) := w0.nil
  clear w0 w1 w2
  go_enter Trym.func3, Trym.ntmps3
  go_wp2_with fail
  refine (bytes8 a0 len0 cap0 a1 a2 w l0).mono ?_
  rintro e w' ⟨v, rfl, rfl⟩
  cases v
  · go_wp2_with fail
    go_ret
    exact ⟨rfl, Below.refl _ _⟩
  by_cases g0 : 1048576 < len0
  · go_wp2_with fail
    go_ret
    exact ⟨rfl, Below.refl _ _⟩
  by_cases g1 : a1 < 0
  · go_wp2_with fail
    go_ret
    exact ⟨rfl, Below.refl _ _⟩
  by_cases g2 : (len0 : Int) < a1
  · go_wp2_with fail
    go_ret
    exact ⟨rfl, Below.refl _ _⟩
  by_cases g3 : a2 < 0
  · go_wp2_with fail
    go_ret
    exact ⟨rfl, Below.refl _ _⟩
  by_cases g4 : 65536 < a2
  · go_wp2_with fail
    go_ret
    exact ⟨rfl, Below.refl _ _⟩
  obtain ⟨fr, rfl⟩ := Int.eq_ofNat_of_zero_le (by omega : 0 ≤ a1)
  obtain ⟨to, rfl⟩ := Int.eq_ofNat_of_zero_le (by omega : 0 ≤ a2)
  obtain ⟨n, rfl⟩ : ∃ n, len0 = fr + n := ⟨len0 - fr, by omega⟩
  have d0 : decide ((1048576 : Int) < (fr : Int) + n) = false := decide_eq_false (by omega)
  have d1 : decide ((fr : Int) < 0) = false := decide_eq_false (by omega)
  have d2 : decide ((to : Int) < 0) = false := decide_eq_false (by omega)
  have d3 : decide ((fr : Int) + n < fr) = false := decide_eq_false (by omega)
  have d4 : decide ((65536 : Int) < to) = false := decide_eq_false (by omega)
  have s2 : (fr : Int) + n - fr = n := by omega
  go_wp2_with fail
  clear d0 d1 d2 d3 d4
  refine (clone_walk a0 (fr + n) cap0 (zof z0) w' (by omega) B0 N0.out).mono ?_
  rintro e w1 ⟨p, cp, rfl, C0⟩
  have P0 := C0.bts
  have hb1 := C0.1
  clear C0 B0 N0
  generalize zof z0 = z at *
  clear z0
  by_cases hft : fr < to
  · have d5 : decide ((fr : Int) + n < (to : Int) + n) = true := decide_eq_true (by omega)
    have hmk := run_make_row' (P := Trym.prog) 22 5 (.int .u8 0) 1 Trym.underlying22 Trym.info5 rfl .i64 .i64 (to + n) (by omega) (by omega)
    rw [show (((to + n) : Nat) : Int) = (to : Int) + n from by omega] at hmk
    go_wp2
    clear hmk
    go_loopw [11] (fun i wr => ∃ k : Nat, i = .int .i64 k ∧ k ≤ fr + n ∧ Below w1.heap.size w1 wr ∧ wr.rowIs w1.heap.size 5 (to + n) (fun j => .int .u8 (if j < k then z j else 0))) (fun i _ => fr + n - (intOf i).toNat)
    case atStart => exact ⟨0, rfl, Nat.zero_le _, (Below.refl _ _).alloc (Nat.le_refl _) _, (World.rowIs_made w1 (.int .u8 0) (to + n) 5).congr (fun i hi => by simp)⟩
    case round =>
      obtain ⟨k, rfl, hk, hbel, hrow⟩ := hrel
      by_cases hlt : k < fr + n
      · obtain ⟨b, off, rfl, hbs, hcs⟩ : ∃ b off, p = some ⟨b, off, none⟩ ∧ b < w1.heap.size ∧ ∀ i, i < fr + n → w1.cell? ⟨b, off + i, none⟩ = some (.int .u8 (z i)) := by
          rcases P0 with h | h
          · omega
          · exact h
        have hc : wr.cell? ⟨b, off + k, none⟩ = some (.int .u8 (z k)) := (hbel.cell hbs).trans (hcs k hlt)
        have hkC : k < to + n := by omega
        have hd := hrow.cell hkC
        have hf := hrow.frozen k
        have hrow' : (wr.setCell ⟨w1.heap.size, k, none⟩ (.int .u8 (z k))).rowIs w1.heap.size 5 (to + n) (fun j => .int .u8 (if j < k + 1 then z j else 0)) := (hrow.set k (.int .u8 (z k))).congr (fun i hi => set_next z k i)
        have hbel' : Below w1.heap.size w1 (wr.setCell ⟨w1.heap.size, k, none⟩ (.int .u8 (z k))) := hbel.setCell (Nat.le_refl _) _
        clear hrow hcs
        go_wp2
        go_roundw
        case rel => exact ⟨k + 1, by go_num, by omega, hbel', hrow'⟩
        case measure => simp [intOf]; omega
      · have hkn : k = fr + n := by omega
        subst hkn
        have hrow := Row.of hrow
        go_wp2_with fail
        refine (zzshift_any w1.heap.size n (to + n) fr to (fun j => if j < fr + n then z j else 0) wr hrow (by omega) (by omega) (by omega)).mono ?_
        rintro e w3 ⟨rfl, hb3, hr3⟩
        clear hrow
        go_wp2_with fail
        refine (zzshift_any w1.heap.size n (to + n) to fr (shf (fun j => if j < fr + n then z j else 0) fr to n) w3 hr3 (by omega) (by omega) (by omega)).mono ?_
        rintro e w4 ⟨rfl, hb4, hr4⟩
        have hb5 : Below w1.heap.size w1 w4 := (hbel.trans hb3).trans hb4
        have P4 := P0.below hb5
        have hb6 : Below w'.heap.size w' w4 := hb1.trans (hb5.mono hb1.size)
        clear hbel hb3 hb4 hb5 hr3 hb1 P0
        have hne : (((fr : Int) + n) != ((fr : Int) + n)) = false := by simp
        go_wp2
        go_loop [14] (fun i => ∃ k : Nat, i = .int .i64 k ∧ k ≤ fr + n) (fun i => fr + n - (intOf i).toNat)
        case atStart => exact ⟨0, rfl, Nat.zero_le _⟩
        case round =>
          obtain ⟨k, rfl, hk⟩ := hrel
          by_cases hlt : k < fr + n
          · obtain ⟨b, off, rfl, hbs, hcs⟩ : ∃ b off, p = some ⟨b, off, none⟩ ∧ b < w4.heap.size ∧ ∀ i, i < fr + n → w4.cell? ⟨b, off + i, none⟩ = some (.int .u8 (z i)) := by
              rcases P4 with h | h
              · omega
              · exact h
            have hc := hcs k hlt
            have hd := hr4.cell (show k < to + n by omega)
            rw [back_eq z hlt] at hd
            clear hcs
            by_cases h1 : to ≤ k ∧ k < fr
            · omega
            · rw [if_neg h1] at hd
              have hzz : (z k != z k) = false := by simp
              by_cases h2 : to ≤ k
              · have h3 : ¬ k < fr := fun h => h1 ⟨h2, h⟩
                clear h1
                go_wp2
                go_round
                case rel => exact ⟨k + 1, by go_num, by omega⟩
                case measure => simp [intOf]; omega
              · clear h1
                go_wp2
                go_round
                case rel => exact ⟨k + 1, by go_num, by omega⟩
                case measure => simp [intOf]; omega
          · go_wp2
            go_ret
            exact ⟨rfl, hb6⟩
  · have d5 : decide ((fr : Int) + n < (to : Int) + n) = false := decide_eq_false (by omega)
    have hmk := run_make_row' (P := Trym.prog) 22 5 (.int .u8 0) 1 Trym.underlying22 Trym.info5 rfl .i64 .i64 (fr + n) (by omega) (by omega)
    rw [show (((fr + n) : Nat) : Int) = (fr : Int) + n from by omega] at hmk
    go_wp2
    clear hmk
    go_loopw [11] (fun i wr => ∃ k : Nat, i = .int .i64 k ∧ k ≤ fr + n ∧ Below w1.heap.size w1 wr ∧ wr.rowIs w1.heap.size 5 (fr + n) (fun j => .int .u8 (if j < k then z j else 0))) (fun i _ => fr + n - (intOf i).toNat)
    case atStart => exact ⟨0, rfl, Nat.zero_le _, (Below.refl _ _).alloc (Nat.le_refl _) _, (World.rowIs_made w1 (.int .u8 0) (fr + n) 5).congr (fun i hi => by simp)⟩
    case round =>
      obtain ⟨k, rfl, hk, hbel, hrow⟩ := hrel
      by_cases hlt : k < fr + n
      · obtain ⟨b, off, rfl, hbs, hcs⟩ : ∃ b off, p = some ⟨b, off, none⟩ ∧ b < w1.heap.size ∧ ∀ i, i < fr + n → w1.cell? ⟨b, off + i, none⟩ = some (.int .u8 (z i)) := by
          rcases P0 with h | h
          · omega
          · exact h
        have hc : wr.cell? ⟨b, off + k, none⟩ = some (.int .u8 (z k)) := (hbel.cell hbs).trans (hcs k hlt)
        have hkC : k < fr + n := by omega
        have hd := hrow.cell hkC
        have hf := hrow.frozen k
        have hrow' : (wr.setCell ⟨w1.heap.size, k, none⟩ (.int .u8 (z k))).rowIs w1.heap.size 5 (fr + n) (fun j => .int .u8 (if j < k + 1 then z j else 0)) := (hrow.set k (.int .u8 (z k))).congr (fun i hi => set_next z k i)
        have hbel' : Below w1.heap.size w1 (wr.setCell ⟨w1.heap.size, k, none⟩ (.int .u8 (z k))) := hbel.setCell (Nat.le_refl _) _
        clear hrow hcs
        go_wp2
        go_roundw
        case rel => exact ⟨k + 1, by go_num, by omega, hbel', hrow'⟩
        case measure => simp [intOf]; omega
      · have hkn : k = fr + n := by omega
        subst hkn
        have hrow := Row.of hrow
        go_wp2_with fail
        refine (zzshift_any w1.heap.size n (fr + n) fr to (fun j => if j < fr + n then z j else 0) wr hrow (by omega) (by omega) (by omega)).mono ?_
        rintro e w3 ⟨rfl, hb3, hr3⟩
        clear hrow
        go_wp2_with fail
        refine (zzshift_any w1.heap.size n (fr + n) to fr (shf (fun j => if j < fr + n then z j else 0) fr to n) w3 hr3 (by omega) (by omega) (by omega)).mono ?_
        rintro e w4 ⟨rfl, hb4, hr4⟩
        have hb5 : Below w1.heap.size w1 w4 := (hbel.trans hb3).trans hb4
        have P4 := P0.below hb5
        have hb6 : Below w'.heap.size w' w4 := hb1.trans (hb5.mono hb1.size)
        clear hbel hb3 hb4 hb5 hr3 hb1 P0
        have hne : (((fr : Int) + n) != ((fr : Int) + n)) = false := by simp
        go_wp2
        go_loop [14] (fun i => ∃ k : Nat, i = .int .i64 k ∧ k ≤ fr + n) (fun i => fr + n - (intOf i).toNat)
        case atStart => exact ⟨0, rfl, Nat.zero_le _⟩
        case round =>
          obtain ⟨k, rfl, hk⟩ := hrel
          by_cases hlt : k < fr + n
          · obtain ⟨b, off, rfl, hbs, hcs⟩ : ∃ b off, p = some ⟨b, off, none⟩ ∧ b < w4.heap.size ∧ ∀ i, i < fr + n → w4.cell? ⟨b, off + i, none⟩ = some (.int .u8 (z i)) := by
              rcases P4 with h | h
              · omega
              · exact h
            have hc := hcs k hlt
            have hd := hr4.cell (show k < fr + n by omega)
            rw [back_eq z hlt] at hd
            clear hcs
            by_cases h1 : to ≤ k ∧ k < fr
            · obtain ⟨h1, h2⟩ := h1
              rw [if_pos ⟨h1, h2⟩] at hd
              go_wp2
              go_round
              case rel => exact ⟨k + 1, by go_num, by omega⟩
              case measure => simp [intOf]; omega
            · rw [if_neg h1] at hd
              have hzz : (z k != z k) = false := by simp
              by_cases h2 : to ≤ k
              · have h3 : ¬ k < fr := fun h => h1 ⟨h2, h⟩
                clear h1
                go_wp2
                go_round
                case rel => exact ⟨k + 1, by go_num, by omega⟩
                case measure => simp [intOf]; omega
              · clear h1
                go_wp2
                go_round
                case rel => exact ⟨k + 1, by go_num, by omega⟩
                case measure => simp [intOf]; omega
          · go_wp2
            go_ret
            exact ⟨rfl, hb6⟩

end Go.Proofs.Qxb6602052aMods
