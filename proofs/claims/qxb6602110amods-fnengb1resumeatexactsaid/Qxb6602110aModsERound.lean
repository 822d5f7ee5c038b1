/-
  Seat b6602110aM: the round-trip law's walk.
-/
import Derived.Test.Qxb6602110aModsEBytes
import Derived.Test.Qxb6602110aModsEWeigh
import Derived.Test.Qxb6602110aModsEAdd
import Derived.Test.Qxb6602110aModsEResume
import Derived.Test.Qxb6602110aModsEClone
namespace Go.Proofs.Qxb6602110aMods
open Go.RowKit
set_option linter.unusedVariables false

/-- The cells of the first t steps. -/
def flat (f : Nat → St) : Nat → List Value
  | 0 => []
  | t + 1 => flat f t ++ (f t).cells

theorem flat_len (f : Nat → St) : ∀ t, (flat f t).length = t * 6
  | 0 => rfl
  | t + 1 => by rw [flat, List.length_append, flat_len f t]; simp [St.cells]; omega

theorem flat_get (f : Nat → St) (i j : Nat) (v : Value) (hv : (f i).cells[j]? = some v) : ∀ t, i < t → (flat f t)[i * 6 + j]? = some v
  | 0, h => absurd h (Nat.not_lt_zero _)
  | t + 1, h => by
    have hj : j < 6 := (List.getElem?_eq_some_iff.1 hv).1
    rw [flat]
    rcases Nat.lt_or_ge i t with h1 | h1
    · rw [List.getElem?_append_left (by rw [flat_len]; omega)]
      exact flat_get f i j v hv t h1
    · obtain rfl : i = t := by omega
      rw [List.getElem?_append_right (by rw [flat_len]; omega), flat_len]
      rw [show i * 6 + j - i * 6 = j by omega]
      exact hv

theorem Plan.kept {w w' : World} {p n : Nat} {xs : List Value} (h : Plan w p n xs) (hb : Below w.heap.size w w') : Plan w' p n xs := by
  obtain ⟨a, cp, F, D, L, Z, hp, hown⟩ := h
  exact ⟨a, cp, F, D, L, Z, by rw [hb.block _ (lt_of_blk hp)]; exact hp, hown.kept ⟨hb.os, hb.tape, hb.output, hb.size, fun k hk _ => hb.block k hk⟩ (row := none) (by cases a <;> simp [Value.ownBlock])⟩

/-- A plan whose steps read as f 0 .. f (n-1). -/
def Ready (w : World) (p : Nat) (n : Nat) (f : Nat → St) (a : Option Addr) (cp : Nat) (F D L Z : Int) : Prop :=
  w.heap[p]? = some (.cells #[.slice a n cp, .int .i64 F, .int .i64 D, .int .i64 L, .int .i64 Z] 57) ∧ Stps w a n f

theorem Ready.kept {w w' : World} {p n : Nat} {f : Nat → St} {a : Option Addr} {cp : Nat} {F D L Z : Int} (h : Ready w p n f a cp F D L Z) (hb : Below w.heap.size w w') : Ready w' p n f a cp F D L Z :=
  ⟨by rw [hb.block _ (lt_of_blk h.1)]; exact h.1, h.2.below' hb⟩

theorem Plan.ready {w : World} {p n : Nat} {f : Nat → St} (h : Plan w p n (flat f n)) : ∃ a cp F D L Z, Ready w p n f a cp F D L Z := by
  obtain ⟨a, cp, F, D, L, Z, hp, hown⟩ := h
  refine ⟨a, cp, F, D, L, Z, hp, ?_⟩
  by_cases h0 : n = 0
  · exact .inl h0
  · obtain ⟨g, cap, hv, -, hg⟩ := hown.form (by omega)
    cases hv
    refine .inr ⟨g, 0, rfl, hg, fun i hi j v hv => ?_⟩
    have hj : j < 6 := (List.getElem?_eq_some_iff.1 hv).1
    have hc := hown.cellAt (i * 6 + j) (by omega)
    rw [flat_get f i j v hv n hi] at hc
    rw [Nat.zero_add]
    exact hc

theorem resumes_low (n : Nat) (f : Nat → St) (l : ByteArray) : resumes n f 0 l = 0 := by unfold resumes; rw [if_neg (by omega)]
theorem resumes_high (n : Nat) (f : Nat → St) (l : ByteArray) : resumes n f ((n : Int) + 1) l = 0 := by unfold resumes; rw [if_neg (by omega)]
theorem resumes_hit {n : Nat} {f : Nat → St} {t : Nat} (ht : t < n) (hk : (f t).k = 0) : resumes n f ((t : Int) + 1) (f t).b = (t : Int) + 1 := by
  unfold resumes
  rw [if_pos ⟨by omega, by omega, by simpa using hk, by simp⟩]
theorem resumes_kind {n : Nat} {f : Nat → St} {t : Nat} (l : ByteArray) (hk : ¬ (f t).k = 0) : resumes n f ((t : Int) + 1) l = 0 := by
  unfold resumes
  rw [if_neg (fun h => hk (by simpa using h.2.2.1))]
theorem resumes_name {n : Nat} {f : Nat → St} {t : Nat} {l : ByteArray} (hl : ¬ l = (f t).b) : resumes n f ((t : Int) + 1) l = 0 := by
  unfold resumes
  rw [if_neg (fun h => hl (by simpa using h.2.2.2.symm))]

/-- What stands while the plan is asked. -/
def Good (w2 : World) (p n : Nat) (f : Nat → St) (a : Option Addr) (cp : Nat) (F D L Z : Int) (x : World) : Prop := Below p w2 x ∧ Ready x p n f a cp F D L Z

theorem Good.next {w2 : World} {p n : Nat} {f : Nat → St} {a : Option Addr} {cp : Nat} {F D L Z : Int} {x y : World} (h : Good w2 p n f a cp F D L Z x) (hb : Below x.heap.size x y) : Good w2 p n f a cp F D L Z y :=
  ⟨h.1.trans (hb.mono (Nat.le_of_lt (lt_of_blk h.2.1))), h.2.kept hb⟩

def TruePost (w : World) (e : Ending) (w' : World) : Prop := e = .returned (.bool true) ∧ Below w.heap.size w w'

set_option maxRecDepth 100000 in
set_option maxHeartbeats 4000000 in
theorem law5 (a : Option Addr) (n c : Nat) (f : Nat → St) (o : ByteArray) (w : World) (hn : n ≤ 9223372036854775807) (ho : o.size ≤ 9223372036854775807) (hf : ∀ i, i < n → (f i).fits) (hs : Stps w a n f) (hnil : a = none → n = 0) :
    Calls Trym.prog 5 #[.slice a n c, .string o] w (TruePost w) := by
  have HC : Hid _ := bytes23 a n c f o w hn ho hf hs
  have HS : Hid (Stps w a n f) := hs
  have HN : Hid (a = none → n = 0) := hnil
  clear hf hs hnil hn ho
  go_enter Trym.func5, Trym.ntmps5
  go_wp2_with fail
  refine Calls.mono HC.out ?_
  clear HC
  rintro e wx ⟨v, rfl, hwx⟩
  have hwx := hwx.symm
  subst hwx
  cases v with
  | false =>
    go_wp2
    go_ret
    exact ⟨rfl, Below.refl _ _⟩
  | true =>
    go_wp2_with fail
    refine (weigh11 a n c f _ HS.out).mono ?_
    rintro e w1 ⟨r1, rfl, hr1, hb1, hbel1⟩
    go_wp2_with fail
    refine (addLen20 r1 o.size _ hr1).mono ?_
    rintro e wx ⟨r2, rfl, hr2, hb2, hwx⟩
    have hwx := hwx.symm
    subst hwx
    by_cases h2 : (r2 : Int) > 1048576
    · go_wp2
      go_ret
      exact ⟨rfl, hbel1⟩
    have d2 : decide (1048576 < (r2 : Int)) = false := decide_eq_false h2
    have hn : n ≤ 13107 := hb1 (hb2 (by omega))
    have HB1 : Hid (Below w.heap.size w w1) := hbel1
    have HC : Hid _ := clone12 a n c f w1 hn (HS.out.below' hbel1) HN.out
    clear hbel1 hb1 hb2 hr1 hr2
    go_wp2_with fail
    refine Calls.mono HC.out ?_
    clear HC
    rintro e w2 ⟨a', c', rfl, hbel2, hs2⟩
    have HS2 : Hid (Stps w2 a' n f) := hs2
    have HB2 : Hid (Below w.heap.size w w2) := HB1.out.trans (hbel2.mono HB1.out.size)
    clear hbel2 hs2 HB1 HS HN
    go_wp2_with fail
    refine (newPlan13 none 0 0 0 0 0 0 w2).mono ?_
    rintro e w3 ⟨rfl, hw3⟩
    obtain ⟨p, hpe⟩ : ∃ p, p = w2.heap.size := ⟨_, rfl⟩
    have HP3 : Hid (Plan w3 p 0 (flat f 0)) := ⟨none, 0, 0, 0, 0, 0, by rw [hw3, hpe]; exact Go.Deep.blk_alloc_new _ _, World.ownsRow_nil _ _ _ _⟩
    have HB3 : Hid (Below p w2 w3) := by rw [hw3, hpe]; exact (Below.refl _ w2).alloc (Nat.le_refl _) _
    have HBW : Hid (w.heap.size ≤ p) := by rw [hpe]; exact HB2.out.size
    have HSP : Hid (∀ w', Below p w2 w' → Stps w' a' n f) := fun w' h => HS2.out.below' (hpe ▸ h)
    rw [← hpe]
    clear hw3 hpe HS2
    go_wp2
    go_loopw [6] (fun i wr => ∃ t : Nat, i = .int .i64 t ∧ t ≤ n ∧ Below p w2 wr ∧ Plan wr p t (flat f t)) (fun i _ => n - (intOf i).toNat)
    case atStart => exact ⟨0, rfl, Nat.zero_le _, HB3.out, HP3.out⟩
    case round =>
      obtain ⟨t, rfl, ht, hbel, hpl⟩ := hrel
      have HBr : Hid (Below p w2 wr) := hbel
      have HPr : Hid (Plan wr p t (flat f t)) := hpl
      clear hbel hpl
      by_cases hlt : t < n
      · have hs' := HSP.out wr HBr.out
        obtain ⟨b, off, rfl, h2, h3⟩ := hs'.get (by omega)
        obtain ⟨c0, c1, c2, c3, c4, c5⟩ := six (h3 t hlt)
        clear h3 hs' HP3
        go_wp2_with fail
        refine (toStep15 (f t) _).mono ?_
        rintro e wx ⟨rfl, hbx⟩
        have HPx : Hid (Plan wx p t (flat f t)) := HPr.out.kept hbx
        have HBx : Hid (Below p w2 wx) := by
          obtain ⟨_, _, _, _, _, _, hp, _⟩ := HPr.out
          exact HBr.out.trans (hbx.mono (Nat.le_of_lt (lt_of_blk hp)))
        have HC : Hid _ := add14 p t (flat f t) (f t) wx (by omega) HPx.out
        clear hbx c0 c1 c2 c3 c4 c5 h2
        go_wp2_with fail
        refine Calls.mono HC.out ?_
        clear HC
        rintro e wy ⟨rfl, hby, hpy⟩
        have HBy : Hid (Below p w2 wy) := HBx.out.trans hby
        have HPy : Hid (Plan wy p (t + 1) (flat f (t + 1))) := hpy
        clear hby hpy
        go_wp2
        go_roundw
        case rel => exact ⟨t + 1, by go_num, by omega, HBy.out, HPy.out⟩
        case measure => simp [intOf]; omega
      · obtain rfl : t = n := by omega
        obtain ⟨pa, cp, F, D, L, Z, hready⟩ := HPr.out.ready
        have Gwr : Hid (Good w2 p t f pa cp F D L Z wr) := ⟨HBr.out, hready⟩
        clear hready HPr
        have HC : Hid _ := resume22 p pa t cp F D L Z f 0 ⟨#[]⟩ wr hn Gwr.out.2.1 Gwr.out.2.2
        go_wp2_with fail
        refine Calls.mono HC.out ?_
        clear HC
        rintro e x1 ⟨rfl, hx⟩
        rw [resumes_low]
        have Gx1 : Hid (Good w2 p t f pa cp F D L Z x1) := Gwr.out.next hx
        clear hx Gwr
        have HC : Hid _ := resume22 p pa t cp F D L Z f 0 o x1 hn Gx1.out.2.1 Gx1.out.2.2
        go_wp2_with fail
        refine Calls.mono HC.out ?_
        clear HC
        rintro e x2 ⟨rfl, hx⟩
        rw [resumes_low]
        have Gx2 : Hid (Good w2 p t f pa cp F D L Z x2) := Gx1.out.next hx
        clear hx Gx1
        have HC : Hid _ := resume22 p pa t cp F D L Z f (t + 1) ⟨#[]⟩ x2 hn Gx2.out.2.1 Gx2.out.2.2
        go_wp2_with fail
        refine Calls.mono HC.out ?_
        clear HC
        rintro e x3 ⟨rfl, hx⟩
        rw [resumes_high]
        have Gx3 : Hid (Good w2 p t f pa cp F D L Z x3) := Gx2.out.next hx
        clear hx Gx2
        have HC : Hid _ := resume22 p pa t cp F D L Z f (t + 1) o x3 hn Gx3.out.2.1 Gx3.out.2.2
        go_wp2_with fail
        refine Calls.mono HC.out ?_
        clear HC
        rintro e x4 ⟨rfl, hx⟩
        rw [resumes_high]
        have Gx4 : Hid (Good w2 p t f pa cp F D L Z x4) := Gx3.out.next hx
        clear hx Gx3
        go_wp2
        clear HBr HP3 HB3
        go_loopw [8] (fun i wr => ∃ j : Nat, i = .int .i64 j ∧ j ≤ t ∧ Good w2 p t f pa cp F D L Z wr) (fun i _ => t - (intOf i).toNat)
        case atStart => exact ⟨0, rfl, Nat.zero_le _, Gx4.out⟩
        case round =>
          clear Gx4
          obtain ⟨j, rfl, hj, hG⟩ := hrel
          rename World => y0
          have G0 : Hid (Good w2 p t f pa cp F D L Z y0) := hG
          clear hG
          by_cases hlt2 : j < t
          · obtain ⟨b, off, rfl, hb0, h3⟩ := (HSP.out y0 G0.out.1).get (by omega)
            obtain ⟨c0, c1, c2, c3, c4, c5⟩ := six (h3 j hlt2)
            have HC : Hid _ := resume22 p pa t cp F D L Z f ((j : Int) + 1) (f j).b y0 hn G0.out.2.1 G0.out.2.2
            clear h3
            go_wp2_with fail
            refine Calls.mono HC.out ?_
            clear HC
            rintro e y1 ⟨rfl, hx⟩
            have G1 : Hid (Good w2 p t f pa cp F D L Z y1) := G0.out.next hx
            clear hx G0 c0 c1 c2 c3 c4 c5 hb0
            obtain ⟨b', off', hbb, hb1, h3⟩ := (HSP.out y1 G1.out.1).get (by omega)
            cases hbb
            obtain ⟨c0, c1, c2, c3, c4, c5⟩ := six (h3 j hlt2)
            clear h3
            have HC : Hid _ := resume22 p pa t cp F D L Z f ((j : Int) + 1) o y1 hn G1.out.2.1 G1.out.2.2
            by_cases hk : (f j).k = 0
            · rw [resumes_hit hlt2 hk]
              have k0 : ((f j).k == 0) = true := by simp [hk]
              by_cases hl : o = (f j).b
              · have e1 : (o.toList == (f j).b.toList) = true := by rw [hl]; exact txt_eq _
                clear HC hl
                go_wp2
                go_roundw
                case rel => exact ⟨j + 1, by go_num, by omega, G1.out⟩
                case measure => simp [intOf]; omega
              · have e1 := txt_ne hl
                have hz := resumes_name (n := t) hl
                go_wp2_with fail
                refine Calls.mono HC.out ?_
                clear HC
                rintro e y2 ⟨rfl, hx⟩
                rw [hz]
                have G2 : Hid (Good w2 p t f pa cp F D L Z y2) := G1.out.next hx
                clear hx G1 c0 c1 c2 c3 c4 c5 hb1 hz
                go_wp2
                go_roundw
                case rel => exact ⟨j + 1, by go_num, by omega, G2.out⟩
                case measure => simp [intOf]; omega
            · rw [resumes_kind _ hk]
              have k0 : ((f j).k == 0) = false := by simp [hk]
              by_cases hl : o = (f j).b
              · have e1 : (o.toList == (f j).b.toList) = true := by rw [hl]; exact txt_eq _
                clear HC hl
                go_wp2
                go_roundw
                case rel => exact ⟨j + 1, by go_num, by omega, G1.out⟩
                case measure => simp [intOf]; omega
              · have e1 := txt_ne hl
                have hz := resumes_name (n := t) hl
                go_wp2_with fail
                refine Calls.mono HC.out ?_
                clear HC
                rintro e y2 ⟨rfl, hx⟩
                rw [hz]
                have G2 : Hid (Good w2 p t f pa cp F D L Z y2) := G1.out.next hx
                clear hx G1 c0 c1 c2 c3 c4 c5 hb1 hz
                go_wp2
                go_roundw
                case rel => exact ⟨j + 1, by go_num, by omega, G2.out⟩
                case measure => simp [intOf]; omega
          · go_wp2
            go_ret
            exact ⟨rfl, HB2.out.trans (G0.out.1.mono HBW.out)⟩

end Go.Proofs.Qxb6602110aMods
