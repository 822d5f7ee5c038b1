/-
  Seat b6600779aM: the walk of the law 'FnPlainEndLeavesACleanToken'.
-/
import Derived.Test.Qxb6600779aModsRow
namespace Go.Proofs.Qxb6600779aMods
open Go.RowKit
set_option linter.unusedVariables false

theorem ev_zero {z : Nat → Int} {n j : Nat} (h : ev z n j = 0) : (z j == 10) = false ∧ ((z j == 58) = true → blankB z n (j + 1) = false) ∧ ((z j == 32) = true → j + 1 < n → (z (j + 1) == 35) = false) := by
  refine ⟨?_, ?_, ?_⟩
  · cases hc : (z j == 10)
    · rfl
    · rw [ev_10 hc] at h; omega
  · intro hc
    cases hb : blankB z n (j + 1)
    · rfl
    · rw [ev_58 hc hb] at h
      simp at h
  · intro hc hlt
    cases hb : (z (j + 1) == 35)
    · rfl
    · rw [ev_32 hc hlt hb] at h; omega

theorem ev_two {z : Nat → Int} {n j : Nat} (h : ev z n j = 2) : (z j == 58) = true ∧ blankB z n (j + 1) = true := by
  unfold ev at h
  split at h
  · omega
  · split at h
    · rename_i h58
      refine ⟨by simp [h58], ?_⟩
      cases hb : blankB z n (j + 1)
      · rw [hb] at h; simp at h
      · rfl
    · split at h
      · split at h <;> omega
      · omega

theorem ev_one {z : Nat → Int} {n j : Nat} (h : ev z n j = 1) : z j = 10 ∨ z j = 32 := by
  unfold ev at h
  split at h
  · exact .inl (by assumption)
  · split at h
    · split at h <;> omega
    · split at h
      · exact .inr (by assumption)
      · omega

theorem PE.lo {z : Nat → Int} {n pos e : Nat} {k : Bool} (h : PE z n pos e k) : pos ≤ e := by
  obtain ⟨i, ⟨q1, q2, _⟩, ⟨_, _, _, h4⟩ | ⟨_, _, t1, t2, _⟩⟩ := h <;> omega

theorem PE.quiet {z : Nat → Int} {n pos e : Nat} {k : Bool} (h : PE z n pos e k) : ∀ j, pos ≤ j → j < e → ev z n j = 0 := by
  obtain ⟨i, ⟨q1, q2, q3⟩, ⟨_, _, _, h4⟩ | ⟨_, _, t1, t2, _⟩⟩ := h
  · intro j h1 h2
    exact q3 j h1 (by omega)
  · intro j h1 h2
    exact q3 j h1 (by omega)

theorem PE.key {z : Nat → Int} {n pos e : Nat} (h : PE z n pos e true) : e < n ∧ (z e == 58) = true ∧ blankB z n (e + 1) = true := by
  obtain ⟨i, ⟨q1, q2, q3⟩, ⟨_, h2, h3, h4⟩ | ⟨h1, _⟩⟩ := h
  · subst h4
    exact ⟨h2, ev_two h3⟩
  · cases h1

theorem PE.value {z : Nat → Int} {n pos e : Nat} (h : PE z n pos e false) : (pos < e → (z (e - 1) == 32) = false) ∧ (e < n → z e = 10 ∨ z e = 32) := by
  obtain ⟨i, ⟨q1, q2, q3⟩, ⟨h1, _⟩ | ⟨_, h2, t1, t2, t3, t4⟩⟩ := h
  · cases h1
  · refine ⟨fun hlt => ?_, fun hlt => ?_⟩
    · rcases t4 with t4 | t4
      · omega
      · simpa using t4
    · rcases Nat.lt_or_ge e i with hh | hh
      · exact .inr (t3 e (Nat.le_refl _) hh)
      · have : e = i := by omega
        subst this
        rcases h2 with h2 | ⟨_, h2⟩
        · omega
        · exact ev_one h2

set_option maxHeartbeats 1000000 in
theorem clean_walk (a0 : Option Addr) (len0 cap0 : Nat) (z0 : List Int) (a1 : Int) (w : World) (w0 : IsRow .u8 w a0 len0 cap0 z0) (w1 : (Lit.int .i64 a1).wf = true) :
    Calls Trym.prog 4 #[.slice a0 len0 cap0, .int .i64 a1] w fun e w' => e = .returned (.bool true) ∧ Below w.heap.size w w' := by
  have l0 := w0.le
  have B0 := w0.bts
  have N0 : Hid (a0 = none → len0 = 0) := w0.nil
  clear w0 w1
  go_enter Trym.func4, Trym.ntmps4
  go_wp2_with fail
  refine (bytes10 a0 len0 cap0 a1 w l0).mono ?_
  rintro e w' ⟨v, rfl, rfl⟩
  cases v
  · go_wp2_with fail
    go_ret
    exact ⟨rfl, Below.refl _ _⟩
  by_cases g0 : 65536 < len0
  · go_wp2_with fail
    go_ret
    exact ⟨rfl, Below.refl _ _⟩
  by_cases g1 : a1 < 0
  · go_wp2_with fail
    go_ret
    exact ⟨rfl, Below.refl _ _⟩
  by_cases g2 : (len0 : Int) < a1
  · go_wp2_with fail
    go_ret
    exact ⟨rfl, Below.refl _ _⟩
  obtain ⟨pos, rfl⟩ := Int.eq_ofNat_of_zero_le (by omega : 0 ≤ a1)
  go_wp2_with fail
  refine (clone_walk a0 len0 cap0 (zof z0) w' (by omega) B0 N0.out).mono ?_
  rintro e w1 ⟨p, cp, rfl, C0⟩
  have P0 := C0.bts
  have hb1 := C0.1
  clear C0 B0 N0
  go_wp2_with fail
  refine (zzend_walk p len0 cp pos (zof z0) w1 (by omega) (by omega) P0).mono ?_
  rintro e w2 ⟨en, k, rfl, pe, b2⟩
  have P2 := P0.below b2
  have hb2 : Below w'.heap.size w' w2 := hb1.trans (b2.mono hb1.size)
  have hlo := pe.lo
  have hle := pe.le
  have HP : Hid (PE (zof z0) len0 pos en k) := pe
  clear P0 hb1 b2 pe
  generalize zof z0 = z at *
  clear z0
  have d3 : decide (en < pos) = false := by simp; omega
  have d4 : decide (len0 < en) = false := by simp; omega
  go_wp2_with fail
  clear d3 d4
  go_loop [7] (fun i => ∃ j : Nat, i = .int .i64 j ∧ pos ≤ j ∧ j ≤ en) (fun i => en - (intOf i).toNat)
  case atStart => exact ⟨pos, rfl, Nat.le_refl _, hlo⟩
  case round =>
    obtain ⟨j, rfl, hj1, hj2⟩ := hrel
    by_cases hlt : j < en
    · obtain ⟨f1, f2, f3⟩ := ev_zero (HP.out.quiet j hj1 hlt)
      obtain ⟨b, off, rfl, hbs, hcs⟩ : ∃ b off, p = some ⟨b, off, none⟩ ∧ b < w2.heap.size ∧ ∀ i, i < len0 → w2.cell? ⟨b, off + i, none⟩ = some (.int .u8 (z i)) := by
        rcases P2 with h | h
        · omega
        · exact h
      have hc := hcs j (by omega)
      have HC : Hid (∀ i, i < len0 → w2.cell? ⟨b, off + i, none⟩ = some (.int .u8 (z i))) := hcs
      clear hcs
      cases h58 : (z j == 58)
      · cases h32 : (z j == 32)
        · clear f2 f3
          go_wp2
          go_round
          case rel => exact ⟨j + 1, by go_num, by omega, by omega⟩
          case measure => simp [intOf]; omega
        · clear f2
          by_cases hj3 : j + 1 < len0
          · have f4 := f3 h32 hj3
            have hc1 := HC.out (j + 1) hj3
            clear f3
            go_wp2
            go_round
            case rel => exact ⟨j + 1, by go_num, by omega, by omega⟩
            case measure => simp [intOf]; omega
          · clear f3
            go_wp2
            go_round
            case rel => exact ⟨j + 1, by go_num, by omega, by omega⟩
            case measure => simp [intOf]; omega
      · have f4 := f2 h58
        have h32 : (z j == 32) = false := by
          have : z j = 58 := by simpa using h58
          rw [this]; rfl
        clear f2 f3
        have cb := blankAt_walk (some ⟨b, off, none⟩) len0 cp z (j + 1) w2 (by omega) (by omega) P2
        rw [f4] at cb
        go_wp2_with (go_at_call 11; refine cb.mono ?_; clear cb; rintro e wx ⟨rfl, hwx⟩; have hwx := hwx.symm; subst hwx)
        go_round
        case rel => exact ⟨j + 1, by go_num, by omega, by omega⟩
        case measure => simp [intOf]; omega
    · have hje : j = en := by omega
      subst hje
      cases k
      · obtain ⟨f1, f2⟩ := HP.out.value
        clear HP
        by_cases hpe : pos < j
        · obtain ⟨b, off, rfl, hbs, hcs⟩ : ∃ b off, p = some ⟨b, off, none⟩ ∧ b < w2.heap.size ∧ ∀ i, i < len0 → w2.cell? ⟨b, off + i, none⟩ = some (.int .u8 (z i)) := by
            rcases P2 with h | h
            · omega
            · exact h
          obtain ⟨m, rfl⟩ : ∃ m, j = m + 1 := ⟨j - 1, by omega⟩
          have f3 : (z m == 32) = false := f1 hpe
          have hc := hcs m (by omega)
          have hc1 : m + 1 < len0 → w2.cell? ⟨b, off + (m + 1), none⟩ = some (.int .u8 (z (m + 1))) := fun h => hcs (m + 1) h
          clear hcs f1
          by_cases hjl : m + 1 < len0
          · have hc1 := hc1 hjl
            rcases f2 hjl with f4 | f4
            · have f5 : (z (m + 1) == 10) = true := by simp [f4]
              clear f2 f4
              go_wp2
              go_ret
              exact ⟨by simp, hb2⟩
            · have f5 : (z (m + 1) == 32) = true := by simp [f4]
              have f6 : (z (m + 1) == 10) = false := by simp [f4]
              clear f2 f4
              go_wp2
              go_ret
              exact ⟨by simp, hb2⟩
          · have hjl' : m + 1 = len0 := by omega
            have hq : ((m : Int) + 1 == (len0 : Int)) = true := by simp; omega
            clear f2 hc1 hjl' hjl
            go_wp2
            go_ret
            exact ⟨by simp, hb2⟩
        · by_cases hjl : j < len0
          · obtain ⟨b, off, rfl, hbs, hcs⟩ : ∃ b off, p = some ⟨b, off, none⟩ ∧ b < w2.heap.size ∧ ∀ i, i < len0 → w2.cell? ⟨b, off + i, none⟩ = some (.int .u8 (z i)) := by
              rcases P2 with h | h
              · omega
              · exact h
            have hc1 := hcs j hjl
            clear hcs f1
            rcases f2 hjl with f4 | f4
            · have f5 : (z j == 10) = true := by simp [f4]
              clear f2 f4
              go_wp2
              go_ret
              exact ⟨by simp, hb2⟩
            · have f5 : (z j == 32) = true := by simp [f4]
              have f6 : (z j == 10) = false := by simp [f4]
              clear f2 f4
              go_wp2
              go_ret
              exact ⟨by simp, hb2⟩
          · have hjl' : j = len0 := by omega
            have hq : ((j : Int) == (len0 : Int)) = true := by simp; omega
            clear f2 f1 hjl' hjl
            go_wp2
            go_ret
            exact ⟨by simp, hb2⟩
      · obtain ⟨f1, f2, f3⟩ := HP.out.key
        clear HP
        obtain ⟨b, off, rfl, hbs, hcs⟩ : ∃ b off, p = some ⟨b, off, none⟩ ∧ b < w2.heap.size ∧ ∀ i, i < len0 → w2.cell? ⟨b, off + i, none⟩ = some (.int .u8 (z i)) := by
          rcases P2 with h | h
          · omega
          · exact h
        have hc1 := hcs j f1
        clear hcs
        have cb := blankAt_walk (some ⟨b, off, none⟩) len0 cp z (j + 1) w2 (by omega) (by omega) P2
        rw [f3] at cb
        go_wp2_with (go_at_call 11; refine cb.mono ?_; clear cb; rintro e wx ⟨rfl, hwx⟩; have hwx := hwx.symm; subst hwx)
        go_ret
        exact ⟨by simp, hb2⟩

end Go.Proofs.Qxb6600779aMods
