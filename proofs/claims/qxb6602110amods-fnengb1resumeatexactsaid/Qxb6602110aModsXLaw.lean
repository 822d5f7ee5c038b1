/-
  Seat b6602110aM: the exactness law's walk.
-/
import Derived.Test.Qxb6602110aModsXBytes
import Derived.Test.Qxb6602110aModsXPlan
import Derived.Test.Qxb6602110aModsXHolds
namespace Go.Proofs.Qxb6602110aMods
open Go.RowKit
set_option linter.unusedVariables false

theorem resumes_zero (f : Nat → St) (c : Int) (l : ByteArray) : resumes 0 f c l = 0 := by unfold resumes; rw [if_neg (by omega)]
theorem resumes_off {t : Nat} {f : Nat → St} {c : Int} {l : ByteArray} (h : ¬ (t : Int) + 1 = c) : resumes (t + 1) f c l = resumes t f c l := by
  unfold resumes
  by_cases h1 : 1 ≤ c ∧ c ≤ (t : Int) ∧ (f (c - 1).toNat).k = 0 ∧ (f (c - 1).toNat).b = l
  · rw [if_pos h1, if_pos ⟨h1.1, by omega, h1.2.2⟩]
  · rw [if_neg h1, if_neg (fun h2 => h1 ⟨h2.1, by omega, h2.2.2⟩)]
theorem resumes_past {t : Nat} {f : Nat → St} {c : Int} {l : ByteArray} (h : (t : Int) + 1 = c) : resumes t f c l = 0 := by
  unfold resumes; rw [if_neg (by omega)]
theorem resumes_kind' {t : Nat} {f : Nat → St} {c : Int} {l : ByteArray} (h : (t : Int) + 1 = c) (hk : ¬ (f t).k = 0) : resumes (t + 1) f c l = resumes t f c l := by
  rw [resumes_past h]
  subst h
  exact resumes_kind l hk
theorem resumes_name' {t : Nat} {f : Nat → St} {c : Int} {l : ByteArray} (h : (t : Int) + 1 = c) (hl : ¬ (f t).b = l) : resumes (t + 1) f c l = resumes t f c l := by
  rw [resumes_past h]
  subst h
  exact resumes_name (fun e => hl e.symm)
theorem resumes_hit' {t : Nat} {f : Nat → St} {c : Int} {l : ByteArray} (h : (t : Int) + 1 = c) (hk : (f t).k = 0) (hl : (f t).b = l) : resumes (t + 1) f c l = (t : Int) + 1 := by
  subst h hl
  exact resumes_hit (Nat.lt_succ_self t) hk

set_option maxRecDepth 100000 in
set_option maxHeartbeats 4000000 in
theorem law4 (a : Option Addr) (n c : Nat) (f : Nat → St) (F D L Z cs : Int) (o : ByteArray) (w : World) (hn : n ≤ 9223372036854775807) (ho : o.size ≤ 9223372036854775807) (hf : ∀ i, i < n → (f i).fits) (hs : Stps w a n f) (hnil : a = none → n = 0) :
    Calls Trym.prog 4 #[.slice a n c, .int .i64 F, .int .i64 D, .int .i64 L, .int .i64 Z, .int .i64 cs, .string o] w (TruePost w) := by
  have HC : Hid _ := bytes19 a n c f F D L Z cs o w hn ho hf hs
  have HS : Hid (Stps w a n f) := hs
  have HN : Hid (a = none → n = 0) := hnil
  clear hf hs hnil hn ho
  go_enter Trym.func4, Trym.ntmps4
  go_wp2_with fail
  refine Calls.mono HC.out ?_
  clear HC
  rintro e wx ⟨v, rfl, hwx⟩
  have hwx := hwx.symm
  subst hwx
  cases v with
  | false =>
    go_wp2
    go_ret
    exact ⟨rfl, Below.refl _ _⟩
  | true =>
    go_wp2_with fail
    refine (weigh11 a n c f _ HS.out).mono ?_
    rintro e w1 ⟨r1, rfl, hr1, hb1, hbel1⟩
    go_wp2_with fail
    refine (addLen20 r1 o.size _ hr1).mono ?_
    rintro e wx ⟨r2, rfl, hr2, hb2, hwx⟩
    have hwx := hwx.symm
    subst hwx
    by_cases h2 : (r2 : Int) > 1048576
    · go_wp2
      go_ret
      exact ⟨rfl, hbel1⟩
    have d2 : decide (1048576 < (r2 : Int)) = false := decide_eq_false h2
    have hn : n ≤ 13107 := hb1 (hb2 (by omega))
    have HB1 : Hid (Below w.heap.size w w1) := hbel1
    have HC : Hid _ := clone12 a n c f w1 hn (HS.out.below' hbel1) HN.out
    clear hbel1 hb1 hb2 hr1 hr2
    go_wp2_with fail
    refine Calls.mono HC.out ?_
    clear HC
    rintro e w2 ⟨a', c', rfl, hbel2, hs2⟩
    have HS2 : Hid (Stps w2 a' n f) := hs2
    have HB2 : Hid (Below w.heap.size w w2) := HB1.out.trans (hbel2.mono HB1.out.size)
    have HC : Hid _ := plan21 a' n c' f F D L Z w2 hn hs2
    clear hbel2 hs2 HB1 HS HN
    go_wp2_with fail
    refine Calls.mono HC.out ?_
    clear HC
    rintro e w3 ⟨p, pa, cp, rfl, hb3, hr3⟩
    have G3 : Hid (Both w2 p n f pa cp F D L Z a' w3) := ⟨hb3, hr3, HS2.out.below' hb3⟩
    have HC : Hid _ := resume22 p pa n cp F D L Z f cs o w3 hn hr3.1 hr3.2
    clear hb3 hr3 HS2
    go_wp2_with fail
    refine Calls.mono HC.out ?_
    clear HC
    rintro e x1 ⟨rfl, hx⟩
    have G1 : Hid (Both w2 p n f pa cp F D L Z a' x1) := G3.out.next hx
    clear hx G3
    go_wp2
    go_loop [17, 18] (fun z i => ∃ t : Nat, i = .int .i64 t ∧ z = .int .i64 (resumes t f cs o) ∧ t ≤ n) (fun _ i => n - (intOf i).toNat)
    case atStart => exact ⟨0, rfl, by rw [resumes_zero], Nat.zero_le _⟩
    case round =>
      obtain ⟨t, rfl, rfl, ht⟩ := hrel
      by_cases hlt : t < n
      · obtain ⟨b, off, rfl, hb0, h3⟩ := G1.out.2.2.get (by omega)
        obtain ⟨c0, c1, c2, c3, c4, c5⟩ := six (h3 t hlt)
        clear h3
        by_cases ht1 : (t : Int) + 1 = cs
        · have e1 : ((t : Int) + 1 == cs) = true := by simp [ht1]
          by_cases hk : (f t).k = 0
          · have e2 : ((f t).k == 0) = true := by simp [hk]
            by_cases hl : (f t).b = o
            · have e3 : ((f t).b.toList == o.toList) = true := by rw [hl]; exact txt_eq _
              have E : Hid (resumes (t + 1) f cs o = (t : Int) + 1) := resumes_hit' ht1 hk hl
              clear ht1 hk hl
              go_wp2
              go_round
              case rel => exact ⟨t + 1, by go_num, by rw [E.out], by omega⟩
              case measure => simp [intOf]; omega
            · have e3 := txt_ne hl
              have E : Hid (resumes (t + 1) f cs o = resumes t f cs o) := resumes_name' ht1 hl
              clear ht1 hk hl
              go_wp2
              go_round
              case rel => exact ⟨t + 1, by go_num, by rw [E.out], by omega⟩
              case measure => simp [intOf]; omega
          · have e2 : ((f t).k == 0) = false := by simp [hk]
            have E : Hid (resumes (t + 1) f cs o = resumes t f cs o) := resumes_kind' ht1 hk
            clear ht1 hk
            go_wp2
            go_round
            case rel => exact ⟨t + 1, by go_num, by rw [E.out], by omega⟩
            case measure => simp [intOf]; omega
        · have e1 : ((t : Int) + 1 == cs) = false := by simp [ht1]
          have E : Hid (resumes (t + 1) f cs o = resumes t f cs o) := resumes_off ht1
          clear ht1
          go_wp2
          go_round
          case rel => exact ⟨t + 1, by go_num, by rw [E.out], by omega⟩
          case measure => simp [intOf]; omega
      · obtain rfl : n = t := by omega
        have HC : Hid _ := counts18 p pa n cp F D L Z x1 G1.out.2.1.1
        go_wp2_with fail
        refine Calls.mono HC.out ?_
        clear HC
        rintro e x2 ⟨rfl, hx⟩
        have G2 : Hid (Both w2 p n f pa cp F D L Z a' x2) := G1.out.next hx
        clear hx
        have HC : Hid _ := holds16 p a' n c' f pa cp F D L Z x2 hn G2.out.2.1 G2.out.2.2
        go_wp2_with fail
        refine Calls.mono HC.out ?_
        clear HC
        rintro e x3 ⟨rfl, hx⟩
        have G4 : Hid (Both w2 p n f pa cp F D L Z a' x3) := G2.out.next hx
        clear hx
        go_wp2
        go_ret
        exact ⟨rfl, HB2.out.trans (G4.out.1.mono HB2.out.size)⟩

end Go.Proofs.Qxb6602110aMods
