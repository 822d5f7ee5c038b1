/-
  Seat b6001003aM: the walk of the law 'FnReservedTemporaryForm'.
-/
import Derived.Test.Qxb6001003aModsRows
import Derived.WalkKit
import Derived.ProofKit
import Derived.Below
import Derived.WalkSpells
import Derived.WalkLawsBesides
import Derived.Lib.Strings
import Derived.Lib.IndexBytes
namespace Go.Proofs.Qxb6001003aMods
open Go.RowKit
set_option linter.unusedVariables false

theorem bytes21 (a0 : ByteArray) (h0 : a0.size ≤ 9223372036854775807) (w : World) :
    Calls Trym.prog 21 #[.string a0] w fun e w' => ∃ v : Bool, e = .returned (.bool v) ∧ w' = w := by
  go_enter Trym.func21, Trym.ntmps21
  go_wp2
  all_goals (go_ret; exact ⟨_, rfl, rfl⟩)

/-- 'HasPrefix' where it says yes. -/
theorem prefix_yes (s p : ByteArray) (hs : s.size ≤ 4000000) (hp : p.size ≤ s.size) (he : ((s.extract 0 p.size).toList == p.toList) = true) (w : World) :
    Calls Trym.prog 35 #[.string s, .string p] w fun e w' => e = .returned (.bool true) ∧ w' = w := by
  go_enter Trym.func35, Trym.ntmps35
  go_wp2
  go_ret
  exact ⟨rfl, rfl⟩

/-- 'HasSuffix' where it says yes. -/
theorem suffix_yes (s p : ByteArray) (hs : s.size ≤ 4000000) (hp : p.size ≤ s.size) (he : ((s.extract (s.size - p.size) s.size).toList == p.toList) = true) (w : World) :
    Calls Trym.prog 36 #[.string s, .string p] w fun e w' => e = .returned (.bool true) ∧ w' = w := by
  go_enter Trym.func36, Trym.ntmps36
  go_wp2
  go_ret
  exact ⟨rfl, rfl⟩

/-- What is of the temporary form: facts on its bytes. -/
structure IsTmp (s : ByteArray) : Prop where
  big : s.size ≤ 4000000
  low : 15 ≤ s.size
  pre : ((s.extract 0 (ByteArray.mk #[46, 98, 108, 111, 99, 107, 116, 105, 100, 101, 46]).size).toList == (ByteArray.mk #[46, 98, 108, 111, 99, 107, 116, 105, 100, 101, 46]).toList) = true
  suf : ((s.extract (s.size - (ByteArray.mk #[46, 116, 109, 112]).size) s.size).toList == (ByteArray.mk #[46, 116, 109, 112]).toList) = true
  ne : (s.toList == (ByteArray.mk #[46, 98, 108, 111, 99, 107, 116, 105, 100, 101, 45, 102, 111, 108, 100, 101, 114]).toList) = false

theorem isTmp_mk (a : ByteArray) (h : a.size ≤ 1048576) : IsTmp (ByteArray.mk #[46, 98, 108, 111, 99, 107, 116, 105, 100, 101, 46] ++ a ++ ByteArray.mk #[46, 116, 109, 112]) := by
  have hl : (ByteArray.mk #[46, 98, 108, 111, 99, 107, 116, 105, 100, 101, 46] ++ a ++ ByteArray.mk #[46, 116, 109, 112]).data.toList = [46, 98, 108, 111, 99, 107, 116, 105, 100, 101, 46] ++ (a.data.toList ++ [46, 116, 109, 112]) := by
    rw [ByteArray.data_append, ByteArray.data_append]
    simp
  have hsz : (ByteArray.mk #[46, 98, 108, 111, 99, 107, 116, 105, 100, 101, 46] ++ a ++ ByteArray.mk #[46, 116, 109, 112]).size = 11 + a.size + 4 := by
    rw [ByteArray.size_append, ByteArray.size_append]
    rfl
  refine ⟨by omega, by omega, ?_, ?_, ?_⟩
  · rw [Lib.toList_data, Lib.toList_data, Lib.extract_data, hl]
    show (((([46, 98, 108, 111, 99, 107, 116, 105, 100, 101, 46] : List UInt8) ++ (a.data.toList ++ [46, 116, 109, 112])).drop 0).take 11 == [46, 98, 108, 111, 99, 107, 116, 105, 100, 101, 46]) = true
    have e : ((([46, 98, 108, 111, 99, 107, 116, 105, 100, 101, 46] : List UInt8) ++ (a.data.toList ++ [46, 116, 109, 112])).drop 0).take 11 = [46, 98, 108, 111, 99, 107, 116, 105, 100, 101, 46] := by
      rw [List.drop_zero]
      exact List.take_left' rfl
    rw [e]
    decide
  · rw [Lib.toList_data, Lib.toList_data, Lib.extract_to_end, hl, hsz]
    show ((([46, 98, 108, 111, 99, 107, 116, 105, 100, 101, 46] : List UInt8) ++ (a.data.toList ++ [46, 116, 109, 112])).drop (11 + a.size + 4 - 4) == [46, 116, 109, 112]) = true
    have e : 11 + a.size + 4 - 4 = ([46, 98, 108, 111, 99, 107, 116, 105, 100, 101, 46] ++ a.data.toList : List UInt8).length := by
      rw [List.length_append]
      show 11 + a.data.size + 4 - 4 = 11 + a.data.toList.length
      simp
    rw [e, ← List.append_assoc, List.drop_left]
    decide
  · rw [Lib.toList_data, Lib.toList_data, hl]
    simp

theorem temporary_yes (s : ByteArray) (h : IsTmp s) (w : World) :
    Calls Trym.prog 22 #[.string s] w fun e w' => e = .returned (.bool true) ∧ w' = w := by
  have l1 := h.low
  have c1 := prefix_yes s (ByteArray.mk #[46, 98, 108, 111, 99, 107, 116, 105, 100, 101, 46]) h.big (by show 11 ≤ _; omega) h.pre w
  have c2 := suffix_yes s (ByteArray.mk #[46, 116, 109, 112]) h.big (by show 4 ≤ _; omega) h.suf w
  have C1 : Hid _ := c1
  have C2 : Hid _ := c2
  clear c1 c2
  go_enter Trym.func22, Trym.ntmps22
  go_wp2_with fail
  refine Calls.mono C1.out ?_
  rintro e wx ⟨rfl, hwx⟩
  have hwx := hwx.symm
  subst hwx
  go_wp2_with fail
  refine Calls.mono C2.out ?_
  rintro e wx ⟨rfl, hwx⟩
  have hwx := hwx.symm
  subst hwx
  go_wp2
  go_ret
  exact ⟨rfl, rfl⟩

def why : ByteArray := ByteArray.mk #[105, 116, 32, 105, 115, 32, 116, 104, 101, 32, 110, 97, 109, 101, 32, 111, 102, 32, 97, 32, 102, 105, 108, 101, 32, 98, 101, 105, 110, 103, 32, 112, 117, 108, 108, 101, 100]

theorem reserved34_tmp (s : ByteArray) (h : IsTmp s) (w : World) :
    Calls Trym.prog 34 #[.string s] w fun e w' => e = .returned (.string why) ∧ w' = w := by
  have c1 := temporary_yes s h w
  have C1 : Hid _ := c1
  have hne := h.ne
  rw [Lib.toList_data, Lib.toList_data, ← Lib.toList_data] at hne
  clear c1
  go_enter Trym.func34, Trym.ntmps34
  go_wp2_with fail
  refine Calls.mono C1.out ?_
  rintro e wx ⟨rfl, hwx⟩
  have hwx := hwx.symm
  subst hwx
  go_wp2
  go_ret
  exact ⟨rfl, rfl⟩

theorem reserved_tmp (s : ByteArray) (h : IsTmp s) (w : World) :
    Calls Trym.prog 20 #[.string s] w fun e w' => e = .returned (.string why) ∧ w' = w := by
  have c1 := reserved34_tmp s h w
  have C1 : Hid _ := c1
  clear c1
  go_enter Trym.func20, Trym.ntmps20
  go_wp2_with fail
  refine Calls.mono C1.out ?_
  rintro e wx ⟨rfl, hwx⟩
  have hwx := hwx.symm
  subst hwx
  go_wp2
  go_ret
  exact ⟨rfl, rfl⟩

theorem reserved_marker (w : World) :
    Calls Trym.prog 20 #[.string (ByteArray.mk #[46, 98, 108, 111, 99, 107, 116, 105, 100, 101, 45, 102, 111, 108, 100, 101, 114])] w fun e w' => (∃ m : ByteArray, e = .returned (.string m) ∧ (m.toList == []) = false ∧ (why.toList == m.toList) = false) ∧ w' = w := by
  go_enter Trym.func20, Trym.ntmps20
  go_wp2
  go_ret
  refine ⟨⟨_, rfl, ?_, ?_⟩, rfl⟩
  · decide +kernel
  · decide +kernel

theorem temp_walk (a0 : ByteArray) (w0 : a0.size ≤ maxLen) (w : World) :
    Calls Trym.prog 6 #[.string a0] w fun e w' => e = .returned (.bool true) ∧ Grown w w' := by
  unfold maxLen at w0
  go_enter Trym.func6, Trym.ntmps6
  go_wp2_with fail
  refine (bytes21 a0 w0 w).mono ?_
  rintro e w' ⟨v, rfl, rfl⟩
  cases v
  · go_wp2_with fail
    go_ret
    exact ⟨rfl, Grown.refl _⟩
  by_cases g0 : 1048576 < a0.size
  · go_wp2_with fail
    go_ret
    exact ⟨rfl, Grown.refl _⟩
  have ht := isTmp_mk a0 (by omega)
  have C1 : Hid _ := reserved_tmp _ ht w'
  have C2 : Hid _ := reserved_marker w'
  have C3 : Hid _ := temporary_yes _ ht w'
  clear ht
  have hw1 : (why.toList == []) = false := by decide +kernel
  go_wp2_with fail
  refine Calls.mono C1.out ?_
  rintro e wx ⟨rfl, hwx⟩
  have hwx := hwx.symm
  subst hwx
  go_wp2_with fail
  refine Calls.mono C2.out ?_
  rintro e wx ⟨⟨m, rfl, hm1, hm2⟩, hwx⟩
  have hwx := hwx.symm
  subst hwx
  have hm3 : m.toList.isEmpty = false := by
    cases hl : m.toList
    · rw [hl] at hm1; cases hm1
    · rfl
  have hw3 : why.toList.isEmpty = false := by decide +kernel
  go_wp2_with fail
  refine Calls.mono C3.out ?_
  rintro e wx ⟨rfl, hwx⟩
  have hwx := hwx.symm
  subst hwx
  go_wp2
  go_ret
  exact ⟨by simp, Grown.refl _⟩

end Go.Proofs.Qxb6001003aMods
