/-
  Seat b6600779aM: the walk of the laws' own three-pass model 'zzPlainEndModel': it answers as 'PM' says.
-/
import Derived.Test.Qxb6600779aModsRow
import Derived.Deep.CutBlock
import Derived.Deep.DeepCutAuto
namespace Go.Proofs.Qxb6600779aMods
open Go.RowKit
set_option linter.unusedVariables false

theorem step_not {p : Nat → Prop} {pos k : Nat} (h : ∀ t, pos ≤ t → t < k → ¬ p t) (hk : ¬ p k) : ∀ t, pos ≤ t → t < k + 1 → ¬ p t := by
  intro t h1 h2
  rcases Nat.lt_or_ge t k with hh | hh
  · exact h t h1 hh
  · have : t = k := by omega
    rw [this]; exact hk
theorem step_yes {p : Nat → Prop} {pos k : Nat} (h : ∀ t, pos ≤ t → t < k → p t) (hk : p k) : ∀ t, pos ≤ t → t < k + 1 → p t := by
  intro t h1 h2
  rcases Nat.lt_or_ge t k with hh | hh
  · exact h t h1 hh
  · have : t = k := by omega
    rw [this]; exact hk

def LineEnd (z : Nat → Int) (n pos le : Nat) : Prop := pos ≤ le ∧ le ≤ n ∧ (∀ j, pos ≤ j → j < le → ¬ z j = 10) ∧ (le = n ∨ (le < n ∧ z le = 10))
def Stop (z : Nat → Int) (pos le st : Nat) : Prop := pos ≤ st ∧ st ≤ le ∧ (∀ j, pos ≤ j → j < st → j + 1 < le → ¬ (z j = 32 ∧ z (j + 1) = 35)) ∧ (st = le ∨ (st + 1 < le ∧ z st = 32 ∧ z (st + 1) = 35))
def NoKey (z : Nat → Int) (n pos st : Nat) : Prop := ∀ j, pos ≤ j → j < st → ¬ (z j = 58 ∧ blankB z n (j + 1) = true)

def ModelPost (z : Nat → Int) (n pos : Nat) (w : World) (e : Ending) (w' : World) : Prop := ∃ (en : Nat) (k : Bool), e = .returned (.tuple #[.int .i64 en, .bool k]) ∧ PM z n pos en k ∧ w' = w

set_option maxHeartbeats 1000000 in
theorem model_walk (b off n c pos : Nat) (z : Nat → Int) (w : World) (hn : n ≤ 4000000) (hp : pos ≤ n)
    (hbs : b < w.heap.size) (hcs : ∀ i, i < n → w.cell? ⟨b, off + i, none⟩ = some (.int .u8 (z i))) :
    Calls Trym.prog 9 #[.slice (some ⟨b, off, none⟩) n c, .int .i64 pos] w (ModelPost z n pos w) := by
  have HC : Hid (∀ i, i < n → w.cell? ⟨b, off + i, none⟩ = some (.int .u8 (z i))) := hcs
  have hbt := Bts.some hbs hcs
  clear hcs hbs
  go_enter Trym.func9, Trym.ntmps9
  go_upto_block 0 with fail
  go_cut [6] (fun s6 wx => w = wx ∧ ∃ l : Nat, s6 = .int .i64 l ∧ LineEnd z n pos l)
  case first =>
    go_wp2_with fail
    go_loop [6] (fun i => ∃ l : Nat, i = .int .i64 l ∧ pos ≤ l ∧ l ≤ n ∧ Hid (∀ j, pos ≤ j → j < l → ¬ z j = 10)) (fun i => n - (intOf i).toNat)
    case atStart => exact ⟨pos, rfl, Nat.le_refl _, hp, fun j h1 h2 => by omega⟩
    case round =>
      obtain ⟨l, rfl, hl1, hl2, HL⟩ := hrel
      by_cases hlt : l < n
      · have hc := HC.out l hlt
        cases h10 : (z l == 10)
        · have h10' : (z l != 10) = true := by simp [bne, h10]
          have HL' : Hid (∀ j, pos ≤ j → j < l + 1 → ¬ z j = 10) := step_not HL.out (by simpa using h10)
          clear HL h10
          go_wp2
          go_round
          case rel => exact ⟨l + 1, by go_num, by omega, by omega, HL'⟩
          case measure => simp [intOf]; omega
        · have h10' : (z l != 10) = false := by simp [bne, h10]
          have HE : LineEnd z n pos l := ⟨hl1, hl2, HL.out, .inr ⟨hlt, by simpa using h10⟩⟩
          clear HL h10
          go_wp2
          go_meet
          case rel => exact ⟨rfl, l, rfl, HE⟩
      · have HE : LineEnd z n pos l := ⟨hl1, hl2, HL.out, .inl (by omega)⟩
        clear HL
        go_wp2
        go_meet
        case rel => exact ⟨rfl, l, rfl, HE⟩
  case rest =>
    obtain ⟨rfl, le, rfl, HL⟩ := hcut
    have hle1 := HL.1
    have hle2 := HL.2.1
    go_upto_block 2 with fail
    go_cut [7] (fun s7 wx => w = wx ∧ ∃ st : Nat, s7 = .int .i64 st ∧ Stop z pos le st)
    case first =>
      go_wp2_with fail
      go_loop [7, 8] (fun s i => ∃ j : Nat, s = .int .i64 le ∧ i = .int .i64 j ∧ pos ≤ j ∧ j ≤ le ∧ Hid (∀ t, pos ≤ t → t < j → ¬ (t + 1 < le ∧ z t = 32 ∧ z (t + 1) = 35))) (fun _ i => le - (intOf i).toNat)
      case atStart => exact ⟨pos, rfl, rfl, Nat.le_refl _, hle1, fun t h1 h2 => by omega⟩
      case round =>
        obtain ⟨j, rfl, rfl, hj1, hj2, HJ⟩ := hrel
        by_cases hlt : j + 1 < le
        · have hc := HC.out j (by omega)
          have hc1 := HC.out (j + 1) (by omega)
          cases h32 : (z j == 32)
          · have HJ' : Hid (∀ t, pos ≤ t → t < j + 1 → ¬ (t + 1 < le ∧ z t = 32 ∧ z (t + 1) = 35)) := step_not HJ.out (fun h => by rw [h.2.1] at h32; cases h32)
            clear HJ
            go_wp2
            go_round
            case rel => exact ⟨j + 1, rfl, by go_num, by omega, by omega, HJ'⟩
            case measure => simp [intOf]; omega
          · cases h35 : (z (j + 1) == 35)
            · have HJ' : Hid (∀ t, pos ≤ t → t < j + 1 → ¬ (t + 1 < le ∧ z t = 32 ∧ z (t + 1) = 35)) := step_not HJ.out (fun h => by rw [h.2.2] at h35; cases h35)
              clear HJ
              go_wp2
              go_round
              case rel => exact ⟨j + 1, rfl, by go_num, by omega, by omega, HJ'⟩
              case measure => simp [intOf]; omega
            · have HS : Stop z pos le j := ⟨hj1, hj2, fun t h1 h2 h3 h4 => HJ.out t h1 h2 ⟨h3, h4⟩, .inr ⟨hlt, by simpa using h32, by simpa using h35⟩⟩
              clear HJ
              go_wp2
              go_meet
              case rel => exact ⟨rfl, j, rfl, HS⟩
        · have HS : Stop z pos le le := ⟨hle1, Nat.le_refl _, fun t h1 h2 h3 h4 => HJ.out t h1 (by omega) ⟨h3, h4⟩, .inl rfl⟩
          clear HJ
          go_wp2
          go_meet
          case rel => exact ⟨rfl, le, rfl, HS⟩
    case rest =>
      obtain ⟨rfl, st, rfl, HS⟩ := hcut
      have hst1 := HS.1
      have hst2 := HS.2.1
      go_wp2_with fail
      go_loop [9] (fun i => ∃ k : Nat, i = .int .i64 k ∧ pos ≤ k ∧ k ≤ st ∧ NoKey z n pos k) (fun i => st - (intOf i).toNat)
      case atStart => exact ⟨pos, rfl, Nat.le_refl _, hst1, fun t h1 h2 => by omega⟩
      case round =>
        obtain ⟨k, rfl, hk1, hk2, HK⟩ := hrel
        by_cases hlt : k < st
        · have hc := HC.out k (by omega)
          cases h58 : (z k == 58)
          · have HK' : NoKey z n pos (k + 1) := step_not HK (fun h => by rw [h.1] at h58; cases h58)
            clear HK
            go_wp2
            go_round
            case rel => exact ⟨k + 1, by go_num, by omega, by omega, HK'⟩
            case measure => simp [intOf]; omega
          · cases hbl : blankB z n (k + 1)
            · have HK' : NoKey z n pos (k + 1) := step_not HK (fun h => by rw [h.2] at hbl; cases hbl)
              clear HK
              have cb := blankAt_walk (some ⟨b, off, none⟩) n c z (k + 1) w hn (by omega) hbt
              rw [hbl] at cb
              go_wp2_with (go_at_call 11; refine cb.mono ?_; clear cb; rintro e wx ⟨rfl, hwx⟩; have hwx := hwx.symm; subst hwx)
              go_round
              case rel => exact ⟨k + 1, by go_num, by omega, by omega, HK'⟩
              case measure => simp [intOf]; omega
            · have HP : Hid (PM z n pos k true) := ⟨le, st, HL, HS, .inl ⟨rfl, hk1, hlt, by simpa using h58, hbl, HK⟩⟩
              have cb := blankAt_walk (some ⟨b, off, none⟩) n c z (k + 1) w hn (by omega) hbt
              rw [hbl] at cb
              go_wp2_with (go_at_call 11; refine cb.mono ?_; clear cb; rintro e wx ⟨rfl, hwx⟩; have hwx := hwx.symm; subst hwx)
              go_ret2
              exact ⟨k, true, rfl, HP.out, rfl⟩
        · have hks : k = st := by omega
          subst hks
          go_wp2
          go_loop [10] (fun i => ∃ j : Nat, i = .int .i64 j ∧ pos ≤ j ∧ j ≤ k ∧ Hid (∀ t, j ≤ t → t < k → z t = 32)) (fun i => (intOf i).toNat)
          case atStart => exact ⟨k, rfl, hk1, Nat.le_refl _, fun t h1 h2 => by omega⟩
          case round =>
            obtain ⟨j, rfl, hj1, hj2, H3⟩ := hrel
            by_cases hpj : pos < j
            · obtain ⟨m, rfl⟩ : ∃ m, j = m + 1 := ⟨j - 1, by omega⟩
              have hcm := HC.out m (by omega)
              cases hm32 : (z m == 32)
              · have HP : Hid (PM z n pos (m + 1) false) := ⟨le, k, HL, HS, .inr ⟨rfl, HK, by omega, by omega, H3.out, .inr (by simpa using hm32)⟩⟩
                go_wp2
                go_ret2
                exact ⟨m + 1, false, by go_num, HP.out, rfl⟩
              · have H4 : Hid (∀ t, m ≤ t → t < k → z t = 32) := fun t h1 h2 => by
                  rcases Nat.lt_or_ge m t with hh | hh
                  · exact H3.out t hh h2
                  · have : t = m := by omega
                    rw [this]; simpa using hm32
                clear H3
                go_wp2
                go_round
                case rel => exact ⟨m, by go_num, by omega, by omega, H4⟩
                case measure => simp [intOf]
            · have HP : Hid (PM z n pos j false) := ⟨le, k, HL, HS, .inr ⟨rfl, HK, by omega, by omega, H3.out, .inl (by omega)⟩⟩
              go_wp2
              go_ret2
              exact ⟨j, false, rfl, HP.out, rfl⟩

/-- An empty text: nothing is read. -/
theorem model_walk0 (a : Option Addr) (c : Nat) (z : Nat → Int) (w : World) :
    Calls Trym.prog 9 #[.slice a (0 : Nat) c, .int .i64 0] w (ModelPost z 0 0 w) := by
  have HP : Hid (PM z 0 0 0 false) := ⟨0, 0, ⟨Nat.le_refl _, Nat.le_refl _, fun j h1 h2 => by omega, .inl rfl⟩, ⟨Nat.le_refl _, Nat.le_refl _, fun j h1 h2 => by omega, .inl rfl⟩, .inr ⟨rfl, fun j h1 h2 => by omega, Nat.le_refl _, Nat.le_refl _, fun j h1 h2 => by omega, .inl rfl⟩⟩
  go_enter Trym.func9, Trym.ntmps9
  go_wp2
  refine wp_loop_rounds 1 ?_
  rw [rounds_succ]
  go_wp2
  refine wp_loop_rounds 1 ?_
  rw [rounds_succ]
  go_wp2
  refine wp_loop_rounds 1 ?_
  rw [rounds_succ]
  go_wp2
  refine wp_loop_rounds 1 ?_
  rw [rounds_succ]
  go_wp2
  go_ret2
  exact ⟨0, false, rfl, HP.out, rfl⟩

theorem model_any (a : Option Addr) (n c pos : Nat) (z : Nat → Int) (w : World) (hn : n ≤ 4000000) (hp : pos ≤ n) (hb : Bts w a n z) :
    Calls Trym.prog 9 #[.slice a n c, .int .i64 pos] w (ModelPost z n pos w) := by
  rcases hb with h0 | ⟨b, off, rfl, h2, h3⟩
  · subst h0
    obtain rfl : pos = 0 := by omega
    exact model_walk0 a c z w
  · exact model_walk b off n c pos z w hn hp h2 h3

set_option maxHeartbeats 1000000 in
theorem three_walk (a0 : Option Addr) (len0 cap0 : Nat) (z0 : List Int) (a1 : Int) (w : World) (w0 : IsRow .u8 w a0 len0 cap0 z0) (w1 : (Lit.int .i64 a1).wf = true) :
    Calls Trym.prog 3 #[.slice a0 len0 cap0, .int .i64 a1] w fun e w' => e = .returned (.bool true) ∧ Below w.heap.size w w' := by
  have l0 := w0.le
  have B0 := w0.bts
  have N0 : Hid (a0 = none → len0 = 0) := w0.nil
  clear w0 w1
  go_enter Trym.func3, Trym.ntmps3
  go_wp2_with fail
  refine (bytes6 a0 len0 cap0 a1 w l0).mono ?_
  rintro e w' ⟨v, rfl, rfl⟩
  cases v
  · go_wp2_with fail
    go_ret
    exact ⟨rfl, Below.refl _ _⟩
  by_cases g0 : 65536 < len0
  · go_wp2_with fail
    go_ret
    exact ⟨rfl, Below.refl _ _⟩
  by_cases g1 : a1 < 0
  · go_wp2_with fail
    go_ret
    exact ⟨rfl, Below.refl _ _⟩
  by_cases g2 : (len0 : Int) < a1
  · go_wp2_with fail
    go_ret
    exact ⟨rfl, Below.refl _ _⟩
  obtain ⟨pos, rfl⟩ := Int.eq_ofNat_of_zero_le (by omega : 0 ≤ a1)
  go_wp2_with fail
  refine (clone_walk a0 len0 cap0 (zof z0) w' (by omega) B0 N0.out).mono ?_
  rintro e w1 ⟨p, cp, rfl, C0⟩
  have P0 := C0.bts
  have hb1 := C0.1
  clear C0 B0 N0
  go_wp2_with fail
  refine (zzend_walk p len0 cp pos (zof z0) w1 (by omega) (by omega) P0).mono ?_
  rintro e w2 ⟨en, k, rfl, pe, b2⟩
  have P2 := P0.below b2
  have hb2 : Below w'.heap.size w' w2 := hb1.trans (b2.mono hb1.size)
  have HP : Hid (PE (zof z0) len0 pos en k) := pe
  clear P0 hb1 b2 pe
  go_wp2_with fail
  refine (model_any p len0 cp pos (zof z0) w2 (by omega) (by omega) P2).mono ?_
  rintro e w3 ⟨en', k', rfl, pm, rfl⟩
  obtain ⟨rfl, rfl⟩ := HP.out.one pm.pe
  clear HP pm P2
  go_wp2
  go_ret
  exact ⟨by simp, hb2⟩

end Go.Proofs.Qxb6600779aMods
