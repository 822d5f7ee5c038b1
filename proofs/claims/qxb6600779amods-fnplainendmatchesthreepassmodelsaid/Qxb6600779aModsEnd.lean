/-
  Seat b6600779aM: the walk of the reader's plainEnd: it answers as 'PE' says.
-/
import Derived.Test.Qxb6600779aModsBlank
import Derived.WalkMore
namespace Go.Proofs.Qxb6600779aMods
open Go.RowKit
set_option linter.unusedVariables false

theorem Bts.some {w : World} {b off n : Nat} {z : Nat → Int} (hb : b < w.heap.size) (hcs : ∀ i, i < n → w.cell? ⟨b, off + i, none⟩ = some (.int .u8 (z i))) : Bts w (some ⟨b, off, none⟩) n z := .inr ⟨b, off, rfl, hb, hcs⟩

theorem ev_10 {z : Nat → Int} {n k : Nat} (h : (z k == 10) = true) : ev z n k = 1 := by
  have h' : z k = 10 := by simpa using h
  simp [ev, h']
theorem ev_58 {z : Nat → Int} {n k : Nat} {v : Bool} (h : (z k == 58) = true) (hb : blankB z n (k + 1) = v) : ev z n k = if v then 2 else 0 := by
  have h' : z k = 58 := by simpa using h
  simp [ev, h', hb]
theorem ev_32 {z : Nat → Int} {n k : Nat} (h : (z k == 32) = true) (hk : k + 1 < n) (g : (z (k + 1) == 35) = true) : ev z n k = 1 := by
  have h' : z k = 32 := by simpa using h
  have g' : z (k + 1) = 35 := by simpa using g
  simp [ev, h', hk, g']
theorem ev_32n {z : Nat → Int} {n k : Nat} (h : (z k == 32) = true) (hk : k + 1 < n) (g : (z (k + 1) == 35) = false) : ev z n k = 0 := by
  have h' : z k = 32 := by simpa using h
  have g' : ¬ z (k + 1) = 35 := by simpa using g
  simp [ev, h', g']
theorem ev_32e {z : Nat → Int} {n k : Nat} (h : (z k == 32) = true) (hk : ¬ k + 1 < n) : ev z n k = 0 := by
  have h' : z k = 32 := by simpa using h
  simp [ev, h', hk]
theorem ev_no {z : Nat → Int} {n k : Nat} (h : (z k == 10) = false) (h1 : (z k == 58) = false) (h2 : (z k == 32) = false) : ev z n k = 0 := by
  have h' : ¬ z k = 10 := by simpa using h
  have h1' : ¬ z k = 58 := by simpa using h1
  have h2' : ¬ z k = 32 := by simpa using h2
  simp [ev, h', h1', h2']
theorem ne_58 {z : Int} (h : (z == 58) = true) : (z == 10) = false := by
  have : z = 58 := by simpa using h
  subst this; rfl
theorem ne_32 {z : Int} (h : (z == 32) = true) : (z == 10) = false ∧ (z == 58) = false := by
  have : z = 32 := by simpa using h
  subst this; exact ⟨rfl, rfl⟩
theorem quiet_succ {z : Nat → Int} {n pos k : Nat} (h : Quiet z n pos k) (hlt : k < n) (he : ev z n k = 0) : Quiet z n pos (k + 1) := by
  obtain ⟨h1, h2, h3⟩ := h
  refine ⟨by omega, by omega, fun j g1 g2 => ?_⟩
  rcases Nat.lt_or_ge j k with hh | hh
  · exact h3 j g1 hh
  · have : j = k := by omega
    rw [this]; exact he

/-- Where the scan has left its loop. -/
def Left0 (z : Nat → Int) (n pos i : Nat) : Prop := Quiet z n pos i ∧ (i = n ∨ (i < n ∧ ev z n i = 1))
theorem Left0.pe {z : Nat → Int} {n pos i e : Nat} (h : Left0 z n pos i) (ht : Trim z pos i e) : PE z n pos e false := ⟨i, h.1, .inr ⟨rfl, h.2, ht⟩⟩

set_option maxHeartbeats 1000000 in
theorem end_walk (b off n c pos : Nat) (z : Nat → Int) (R : Nat) (w : World) (hn : n ≤ 4000000) (hp : pos ≤ n)
    (hr : w.cell? ⟨R, 0, none⟩ = some (.slice (some ⟨b, off, none⟩) n c)) (hr1 : w.cell? ⟨R, 1, none⟩ = some (.int .i64 pos))
    (hbs : b < w.heap.size) (hcs : ∀ i, i < n → w.cell? ⟨b, off + i, none⟩ = some (.int .u8 (z i))) :
    Calls Trym.prog 13 #[.pointer (some ⟨R, 0, none⟩)] w fun e w' => ∃ (en : Nat) (k : Bool), e = .returned (.tuple #[.int .i64 en, .bool k]) ∧ PE z n pos en k ∧ w' = w := by
  have HC : Hid (∀ i, i < n → w.cell? ⟨b, off + i, none⟩ = some (.int .u8 (z i))) := hcs
  have hbt := Bts.some hbs hcs
  clear hcs hbs
  go_enter Trym.func13, Trym.ntmps13
  go_wp2
  go_step3
  go_wp2
  go_step3
  go_wp2
  go_loop [4] (fun i => ∃ k : Nat, i = .int .i64 k ∧ k ≤ n ∧ Quiet z n pos k) (fun i => n - (intOf i).toNat)
  case atStart => exact ⟨pos, rfl, hp, Nat.le_refl _, hp, fun j h1 h2 => by omega⟩
  case round =>
    obtain ⟨k, rfl, hkn, hq⟩ := hrel
    by_cases hlt : k < n
    · have hc := HC.out k hlt
      cases h10 : (z k == 10)
      · cases h58 : (z k == 58)
        · cases h32 : (z k == 32)
          · have he := ev_no (n := n) h10 h58 h32
            have hq' := quiet_succ hq hlt he
            clear he
            go_wp2
            go_round
            case rel => exact ⟨k + 1, by go_num, by omega, hq'⟩
            case measure => simp [intOf]; omega
          · obtain ⟨g1, g2⟩ := ne_32 h32
            clear g1 g2
            by_cases hk1 : k + 1 < n
            · have hc1 := HC.out (k + 1) hk1
              cases h35 : (z (k + 1) == 35)
              · have hq' := quiet_succ hq hlt (ev_32n h32 hk1 h35)
                go_wp2
                go_round
                case rel => exact ⟨k + 1, by go_num, by omega, hq'⟩
                case measure => simp [intOf]; omega
              · have hl : Left0 z n pos k := ⟨hq, .inr ⟨hlt, ev_32 h32 hk1 h35⟩⟩
                have hpk := hq.1
                clear hq
                go_wp2
                go_loop [4] (fun i => ∃ j : Nat, i = .int .i64 j ∧ pos ≤ j ∧ j ≤ k ∧ ∀ t, j ≤ t → t < k → z t = 32) (fun i => (intOf i).toNat)
                case atStart => exact ⟨k, rfl, hpk, Nat.le_refl _, fun t h1 h2 => by omega⟩
                case round =>
                  obtain ⟨j, rfl, hj1, hj2, hj3⟩ := hrel
                  by_cases hpj : pos < j
                  · obtain ⟨m, rfl⟩ : ∃ m, j = m + 1 := ⟨j - 1, by omega⟩
                    have hcm := HC.out m (by omega)
                    have H3 : Hid (∀ t, m + 1 ≤ t → t < k → z t = 32) := hj3
                    clear hj3
                    cases hm32 : (z m == 32)
                    · have HP : Hid (PE z n pos (m + 1) false) := hl.pe ⟨by omega, by omega, H3.out, .inr (by simpa using hm32)⟩
                      go_wp2
                      go_ret2
                      exact ⟨m + 1, false, by go_num, HP.out, rfl⟩
                    · have H4 : Hid (∀ t, m ≤ t → t < k → z t = 32) := fun t h1 h2 => by
                        rcases Nat.lt_or_ge m t with hh | hh
                        · exact H3.out t hh h2
                        · have : t = m := by omega
                          rw [this]; simpa using hm32
                      clear H3
                      go_wp2
                      go_round
                      case rel => exact ⟨m, by go_num, by omega, by omega, H4.out⟩
                      case measure => simp [intOf]
                  · have HP : Hid (PE z n pos j false) := hl.pe ⟨by omega, by omega, hj3, .inl (by omega)⟩
                    clear hj3
                    go_wp2
                    go_ret2
                    exact ⟨j, false, rfl, HP.out, rfl⟩
            · have hq' := quiet_succ hq hlt (ev_32e h32 hk1)
              go_wp2
              go_round
              case rel => exact ⟨k + 1, by go_num, by omega, hq'⟩
              case measure => simp [intOf]; omega
        · cases hbl : blankB z n (k + 1)
          · have hq' := quiet_succ hq hlt (by rw [ev_58 h58 hbl]; rfl)
            go_wp2_with (go_at_call 14; refine (blank_walk _ n c z R (k + 1) w hn (by omega) hr hbt).mono ?_; rintro e w' ⟨rfl, rfl⟩)
            go_round
            case rel => exact ⟨k + 1, by go_num, by omega, hq'⟩
            case measure => simp [intOf]; omega
          · have HP : Hid (PE z n pos k true) := ⟨k, hq, .inl ⟨rfl, hlt, by rw [ev_58 h58 hbl]; rfl, rfl⟩⟩
            clear hq
            go_wp2_with (go_at_call 14; refine (blank_walk _ n c z R (k + 1) w hn (by omega) hr hbt).mono ?_; rintro e w' ⟨rfl, rfl⟩)
            rw [Exit.noGoto_ret]
            go_ret2
            exact ⟨k, true, rfl, HP.out, rfl⟩
      · have hl : Left0 z n pos k := ⟨hq, .inr ⟨hlt, ev_10 h10⟩⟩
        have hpk := hq.1
        clear hq
        go_wp2
        go_loop [4] (fun i => ∃ j : Nat, i = .int .i64 j ∧ pos ≤ j ∧ j ≤ k ∧ ∀ t, j ≤ t → t < k → z t = 32) (fun i => (intOf i).toNat)
        case atStart => exact ⟨k, rfl, hpk, Nat.le_refl _, fun t h1 h2 => by omega⟩
        case round =>
          obtain ⟨j, rfl, hj1, hj2, hj3⟩ := hrel
          by_cases hpj : pos < j
          · obtain ⟨m, rfl⟩ : ∃ m, j = m + 1 := ⟨j - 1, by omega⟩
            have hcm := HC.out m (by omega)
            have H3 : Hid (∀ t, m + 1 ≤ t → t < k → z t = 32) := hj3
            clear hj3
            cases hm32 : (z m == 32)
            · have HP : Hid (PE z n pos (m + 1) false) := hl.pe ⟨by omega, by omega, H3.out, .inr (by simpa using hm32)⟩
              go_wp2
              go_ret2
              exact ⟨m + 1, false, by go_num, HP.out, rfl⟩
            · have H4 : Hid (∀ t, m ≤ t → t < k → z t = 32) := fun t h1 h2 => by
                rcases Nat.lt_or_ge m t with hh | hh
                · exact H3.out t hh h2
                · have : t = m := by omega
                  rw [this]; simpa using hm32
              clear H3
              go_wp2
              go_round
              case rel => exact ⟨m, by go_num, by omega, by omega, H4.out⟩
              case measure => simp [intOf]
          · have HP : Hid (PE z n pos j false) := hl.pe ⟨by omega, by omega, hj3, .inl (by omega)⟩
            clear hj3
            go_wp2
            go_ret2
            exact ⟨j, false, rfl, HP.out, rfl⟩
    · have hkn' : k = n := by omega
      have hl : Left0 z n pos k := ⟨hq, .inl hkn'⟩
      have hpk := hq.1
      clear hq hkn'
      go_wp2
      go_loop [4] (fun i => ∃ j : Nat, i = .int .i64 j ∧ pos ≤ j ∧ j ≤ k ∧ ∀ t, j ≤ t → t < k → z t = 32) (fun i => (intOf i).toNat)
      case atStart => exact ⟨k, rfl, hpk, Nat.le_refl _, fun t h1 h2 => by omega⟩
      case round =>
        obtain ⟨j, rfl, hj1, hj2, hj3⟩ := hrel
        by_cases hpj : pos < j
        · obtain ⟨m, rfl⟩ : ∃ m, j = m + 1 := ⟨j - 1, by omega⟩
          have hcm := HC.out m (by omega)
          have H3 : Hid (∀ t, m + 1 ≤ t → t < k → z t = 32) := hj3
          clear hj3
          cases hm32 : (z m == 32)
          · have HP : Hid (PE z n pos (m + 1) false) := hl.pe ⟨by omega, by omega, H3.out, .inr (by simpa using hm32)⟩
            go_wp2
            go_ret2
            exact ⟨m + 1, false, by go_num, HP.out, rfl⟩
          · have H4 : Hid (∀ t, m ≤ t → t < k → z t = 32) := fun t h1 h2 => by
              rcases Nat.lt_or_ge m t with hh | hh
              · exact H3.out t hh h2
              · have : t = m := by omega
                rw [this]; simpa using hm32
            clear H3
            go_wp2
            go_round
            case rel => exact ⟨m, by go_num, by omega, by omega, H4.out⟩
            case measure => simp [intOf]
        · have HP : Hid (PE z n pos j false) := hl.pe ⟨by omega, by omega, hj3, .inl (by omega)⟩
          clear hj3
          go_wp2
          go_ret2
          exact ⟨j, false, rfl, HP.out, rfl⟩

end Go.Proofs.Qxb6600779aMods
