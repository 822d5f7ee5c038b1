/-
  Seat b6600779aM: the walk of the law 'FnPlainEndReadsOneLineFromPos'.
-/
import Derived.Test.Qxb6600779aModsRow
namespace Go.Proofs.Qxb6600779aMods
open Go.RowKit
set_option linter.unusedVariables false

theorem one_cell (w : World) (v : Value) (t : TypeId) : ∀ j u, [v][j]? = some u → (w.alloc (.cells #[v] t)).cell? (Addr.add ⟨w.heap.size, 0, none⟩ j) = some u := by
  intro j u hj
  match j, hj with
  | 0, hj =>
    simp at hj
    subst hj
    simp [Addr.add]
theorem one_one (n : Int) : ∀ u ∈ [Value.int .u8 n], u.oneCell' = true := by
  intro u hu
  simp at hu
  subst hu
  rfl

/-- The bytes of p, q, a newline, r. -/
def src (n0 n1 : Nat) (z0 z1 z2 : Nat → Int) (i : Nat) : Int :=
  if i < n0 then z0 i else if i < n0 + n1 then z1 (i - n0) else if i = n0 + n1 then 10 else z2 (i - (n0 + n1 + 1))
def line (n1 : Nat) (z1 : Nat → Int) (i : Nat) : Int := if i < n1 then z1 i else 10

theorem src_get (n0 n1 n2 : Nat) (z0 z1 z2 : Nat → Int) : ∀ j, j < n0 + n1 + 1 + n2 → (bl n0 z0 ++ bl n1 z1 ++ [.int .u8 10] ++ bl n2 z2)[j]? = some (.int .u8 (src n0 n1 z0 z1 z2 j)) := by
  intro j hj
  unfold src
  by_cases h0 : j < n0
  · rw [if_pos h0, List.append_assoc, List.append_assoc, List.getElem?_append_left (by rw [bl_len]; exact h0)]
    exact bl_get _ _ _ h0
  · rw [if_neg h0]
    by_cases h1 : j < n0 + n1
    · rw [if_pos h1, List.append_assoc, List.append_assoc, List.getElem?_append_right (by rw [bl_len]; omega), bl_len, List.getElem?_append_left (by rw [bl_len]; omega)]
      exact bl_get _ _ _ (by omega)
    · rw [if_neg h1]
      have hl : (bl n0 z0 ++ bl n1 z1).length = n0 + n1 := by rw [List.length_append, bl_len, bl_len]
      rw [List.append_assoc, List.getElem?_append_right (by rw [hl]; omega), hl]
      by_cases h2 : j = n0 + n1
      · subst h2
        rw [if_pos rfl]
        simp
      · rw [if_neg h2, List.getElem?_append_right (by simp; omega)]
        have : j - (n0 + n1) - [Value.int .u8 10].length = j - (n0 + n1 + 1) := by simp; omega
        rw [this]
        exact bl_get _ _ _ (by omega)

theorem line_get (n1 : Nat) (z1 : Nat → Int) : ∀ j, j < n1 + 1 → (bl n1 z1 ++ [.int .u8 10])[j]? = some (.int .u8 (line n1 z1 j)) := by
  intro j hj
  unfold line
  by_cases h0 : j < n1
  · rw [if_pos h0, List.getElem?_append_left (by rw [bl_len]; exact h0)]
    exact bl_get _ _ _ h0
  · have : j = n1 := by omega
    subst this
    rw [if_neg h0, List.getElem?_append_right (by rw [bl_len]; omega), bl_len]
    simp

theorem src_line (n0 n1 n2 : Nat) (z0 z1 z2 : Nat → Int) {e1 e2 : Nat} {k1 k2 : Bool} (h1 : PE (src n0 n1 z0 z1 z2) (n0 + n1 + 1 + n2) n0 e1 k1) (h2 : PE (line n1 z1) (n1 + 1) 0 e2 k2) : e1 = e2 + n0 ∧ k1 = k2 := by
  refine h1.one (h2.move n1 (by omega) (by omega) (fun j hj => ?_) ?_)
  · unfold src line
    rw [if_neg (by omega)]
    by_cases hh : j < n1
    · rw [if_pos (by omega), if_pos hh]
      congr 1
      omega
    · rw [if_neg (by omega), if_pos (by omega), if_neg hh]
  · unfold line
    rw [if_neg (by omega)]

set_option maxHeartbeats 1000000 in
theorem line_walk (a0 : Option Addr) (len0 cap0 : Nat) (z0 : List Int) (a1 : Option Addr) (len1 cap1 : Nat) (z1 : List Int) (a2 : Option Addr) (len2 cap2 : Nat) (z2 : List Int) (w : World) (w0 : IsRow .u8 w a0 len0 cap0 z0) (w1 : IsRow .u8 w a1 len1 cap1 z1) (w2 : IsRow .u8 w a2 len2 cap2 z2) :
    Calls Trym.prog 5 #[.slice a0 len0 cap0, .slice a1 len1 cap1, .slice a2 len2 cap2] w fun e w' => e = .returned (.bool true) ∧ Below w.heap.size w w' := by
  have l0 := w0.le
  have l1 := w1.le
  have l2 := w2.le
  have B0 := w0.bts
  have B1 := w1.bts
  have B2 := w2.bts
  have N0 : Hid (a0 = none → len0 = 0) := w0.nil
  have N1 : Hid (a1 = none → len1 = 0) := w1.nil
  have N2 : Hid (a2 = none → len2 = 0) := w2.nil
  clear w0 w1 w2
  obtain ⟨i0, hi, hz0, hz1, hz2⟩ := info_parts Trym.info5
  go_enter Trym.func5, Trym.ntmps5
  go_wp2_with fail
  refine (bytes12 a0 a1 a2 len0 cap0 len1 cap1 len2 cap2 w l0 l1 l2).mono ?_
  rintro e w' ⟨v, rfl, rfl⟩
  cases v
  · go_wp2_with fail
    go_ret
    exact ⟨rfl, Below.refl _ _⟩
  by_cases g0 : 65536 < len0
  · go_wp2_with fail
    go_ret
    exact ⟨rfl, Below.refl _ _⟩
  by_cases g1 : 65536 < len1
  · go_wp2_with fail
    go_ret
    exact ⟨rfl, Below.refl _ _⟩
  by_cases g2 : 65536 < len2
  · go_wp2_with fail
    go_ret
    exact ⟨rfl, Below.refl _ _⟩
  clear l0 l1 l2
  go_wp2_with fail
  refine (clone_walk a0 len0 cap0 (zof z0) w' (by omega) B0 N0.out).mono ?_
  rintro e w1 ⟨p, cp, rfl, C0⟩
  have B1 := B1.below C0.1
  have B2 := B2.below C0.1
  go_wp2_with fail
  refine (clone_walk a1 len1 cap1 (zof z1) w1 (by omega) B1 N1.out).mono ?_
  rintro e w2 ⟨q, cq, rfl, C1⟩
  have B2 := B2.below C1.1
  go_wp2_with fail
  refine (clone_walk a2 len2 cap2 (zof z2) w2 (by omega) B2 N2.out).mono ?_
  rintro e w3 ⟨r, cr, rfl, C2⟩
  have P0 : Bts w3 p len0 (zof z0) := (C0.bts.below C1.1).below C2.1
  have P1 : Bts w3 q len1 (zof z1) := C1.bts.below C2.1
  have P2 : Bts w3 r len2 (zof z2) := C2.bts
  have Q0 : Hid (p = none → len0 = 0 ∧ cp = 0) := C0.none
  have Q1 : Hid (q = none → len1 = 0 ∧ cq = 0) := C1.none
  have Q2 : Hid (r = none → len2 = 0 ∧ cr = 0) := C2.none
  have hb3 : Below w'.heap.size w' w3 := C0.1.trans ((C1.1.mono C0.1.size).trans (C2.1.mono (Nat.le_trans C0.1.size C1.1.size)))
  clear B0 B1 B2 N0 N1 N2 C0 C1 C2
  go_wp2_with (first
    | (at_make; refine wpList_make_own _ rfl _ (.tmp 41) 22 rfl w3.heap.size 5 i0 (.int .u8 0) 1 Trym.underlying22 hi hz0 hz1 .i64 .i64 _ (len0 + len1 + 1 + len2) rfl rfl (by omega) (by rw [hz2]; omega) (by unfold maxLen; omega) (Nat.le_refl _) ?_; intro w4 O4 G4; have b4 : Below w3.heap.size w3 w4 := (Below.refl _ _).grown G4 (Nat.le_refl _) (by simp); have P0 := P0.below b4)
    | (at_builtin; refine wpList_append_fits_any _ rfl (.tmp 43) (.tmp 44) 22 rfl w3.heap.size 5 i0 1 Trym.underlying22 hi hz1 w3.heap.size 0 (len0 + len1 + 1 + len2) _ rfl O4 _ len0 _ (bl len0 (zof z0)) rfl (bl_len1 _ _) Q0.out (bl_cells P0) (bl_one _ _) (by omega) ?_; intro w5 O5 G5; have b5 : Below w3.heap.size w3 w5 := b4.grown G5 b4.size (fun k hk => by cases hk; exact Nat.le_refl _); have P1' := P1.below b5; simp only [Nat.zero_add, List.nil_append] at O5)
    | (at_builtin; refine wpList_append_fits_any _ rfl (.tmp 46) (.tmp 47) 22 rfl w3.heap.size 5 i0 1 Trym.underlying22 hi hz1 w3.heap.size len0 (len0 + len1 + 1 + len2) _ rfl O5 _ len1 _ (bl len1 (zof z1)) rfl (bl_len1 _ _) Q1.out (bl_cells P1') (bl_one _ _) (by omega) ?_; intro w6 O6 G6; have b6 : Below w3.heap.size w3 w6 := b5.grown G6 b5.size (fun k hk => by cases hk; exact Nat.le_refl _))
    | (at_builtin; refine wpList_append_fits _ rfl (.tmp 49) (.tmp 50) 22 rfl w3.heap.size 5 i0 1 Trym.underlying22 hi hz1 w3.heap.size (len0 + len1) (len0 + len1 + 1 + len2) _ rfl (O6.alloc _) ⟨w6.heap.size, 0, none⟩ 1 1 [.int .u8 10] rfl rfl (one_cell _ _ _) (one_one _) (by omega) ?_; intro w7 O7 G7; have b7 : Below w3.heap.size w3 w7 := (b6.alloc b6.size _).grown G7 (Nat.le_trans b6.size (by simp)) (fun k hk => by cases hk; exact Nat.le_refl _); have P2' := P2.below b7)
    | (at_builtin; refine wpList_append_fits_any _ rfl (.tmp 52) (.tmp 53) 22 rfl w3.heap.size 5 i0 1 Trym.underlying22 hi hz1 w3.heap.size (len0 + len1 + 1) (len0 + len1 + 1 + len2) _ rfl O7 _ len2 _ (bl len2 (zof z2)) rfl (bl_len1 _ _) Q2.out (bl_cells P2') (bl_one _ _) (by omega) ?_; intro w8 O8 G8; have b8 : Below w3.heap.size w3 w8 := b7.grown G8 b7.size (fun k hk => by cases hk; exact Nat.le_refl _))
    | (at_make; refine wpList_make_own _ rfl _ (.tmp 57) 22 rfl w8.heap.size 5 i0 (.int .u8 0) 1 Trym.underlying22 hi hz0 hz1 .i64 .i64 _ (len1 + 1) rfl rfl (by omega) (by rw [hz2]; omega) (by unfold maxLen; omega) (Nat.le_refl _) ?_; intro w9 O9 G9; have b9 : Below w8.heap.size w8 w9 := (Below.refl _ _).grown G9 (Nat.le_refl _) (by simp); have P1'' := (P1.below b8).below b9)
    | (at_builtin; refine wpList_append_fits_any _ rfl (.tmp 59) (.tmp 60) 22 rfl w8.heap.size 5 i0 1 Trym.underlying22 hi hz1 w8.heap.size 0 (len1 + 1) _ rfl O9 _ len1 _ (bl len1 (zof z1)) rfl (bl_len1 _ _) Q1.out (bl_cells P1'') (bl_one _ _) (by omega) ?_; intro w10 O10 G10; have b10 : Below w8.heap.size w8 w10 := b9.grown G10 b9.size (fun k hk => by cases hk; exact Nat.le_refl _); simp only [Nat.zero_add, List.nil_append] at O10)
    | (at_builtin; refine wpList_append_fits _ rfl (.tmp 62) (.tmp 63) 22 rfl w8.heap.size 5 i0 1 Trym.underlying22 hi hz1 w8.heap.size len1 (len1 + 1) _ rfl (O10.alloc _) ⟨w10.heap.size, 0, none⟩ 1 1 [.int .u8 10] rfl rfl (one_cell _ _ _) (one_one _) (by omega) ?_; intro w11 O11 G11; have b11 : Below w8.heap.size w8 w11 := (b10.alloc b10.size _).grown G11 (Nat.le_trans b10.size (by simp)) (fun k hk => by cases hk; exact Nat.le_refl _)))
  have S11 : Bts w11 (some ⟨w3.heap.size, 0, none⟩) (len0 + len1 + 1 + len2) (src len0 len1 (zof z0) (zof z1) (zof z2)) := (bts_of_own O8 (src_get len0 len1 len2 (zof z0) (zof z1) (zof z2))).below b11
  have L11 : Bts w11 (some ⟨w8.heap.size, 0, none⟩) (len1 + 1) (line len1 (zof z1)) := bts_of_own O11 (line_get len1 (zof z1))
  have hb11 : Below w'.heap.size w' w11 := (hb3.trans (b8.mono hb3.size)).trans (b11.mono (Nat.le_trans hb3.size b8.size))
  clear O4 O5 O6 O7 O8 O9 O10 O11 G4 G5 G6 G7 G8 G9 G10 G11 b4 b5 b6 b7 b8 b9 b10 b11 hb3 P0 P1 P2 P1' P2' P1'' Q0 Q1 Q2 hi hz0 hz1 hz2
  refine (zzend_walk _ _ _ len0 _ w11 (by omega) (by omega) S11).mono ?_
  rintro e w12 ⟨e1, k1, rfl, pe1, b12⟩
  have L12 := L11.below b12
  have PE1 : Hid (PE (src len0 len1 (zof z0) (zof z1) (zof z2)) (len0 + len1 + 1 + len2) len0 e1 k1) := pe1
  clear pe1 L11 S11
  go_wp2_with fail
  have c2 := zzend_walk (some ⟨w8.heap.size, 0, none⟩) (len1 + 1) (len1 + 1) 0 (line len1 (zof z1)) w12 (by omega) (by omega) L12
  rw [show ((0 : Nat) : Int) = 0 from rfl] at c2
  refine c2.mono ?_
  clear c2
  rintro e w13 ⟨e2, k2, rfl, pe2, b13⟩
  obtain ⟨rfl, rfl⟩ := src_line len0 len1 len2 (zof z0) (zof z1) (zof z2) PE1.out pe2
  have hle := pe2.le
  have hb13 : Below w'.heap.size w' w13 := (hb11.trans (b12.mono hb11.size)).trans (b13.mono (Nat.le_trans hb11.size b12.size))
  clear PE1 pe2 b12 b13 hb11 L12
  go_wp2
  go_ret
  exact ⟨by simp, hb13⟩

end Go.Proofs.Qxb6600779aMods
