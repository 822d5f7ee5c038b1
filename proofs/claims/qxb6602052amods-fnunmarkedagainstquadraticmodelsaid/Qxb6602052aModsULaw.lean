/-
  Seat b6602052aM: the walk of the law 'FnUnmarkedAgainstQuadraticModel'.
-/
import Derived.Test.Qxb6602052aModsUMap
import Derived.Deep.CutBlock
import Derived.OpenShut
import Derived.Deep.DeepCutAuto
namespace Go.Proofs.Qxb6602052aMods
open Go.RowKit Go.Maps
set_option linter.unusedVariables false

theorem make0 (R : Nat) (hR : R ≤ 4096) (w : World) : (Instr.makeSlice 22 (.int .i64 0) (.int .i64 (R : Int))).run Trym.prog w = .ok (.slice (some ⟨w.heap.size, 0, none⟩) 0 R) (w.alloc (.cells (madeCells #[.int .u8 0] R) 5)) := by
  obtain ⟨i, hi, hz0, hz1, hz2⟩ := info_parts Trym.info5
  have h := run_make (P := Trym.prog) w 22 5 i (.int .u8 0) Trym.underlying22 hi hz0 .i64 .i64 0 R (by omega) (by omega) (by rw [hz2]; omega) (by omega)
  rw [hz1, Nat.mul_one] at h
  exact h

theorem Copied.own {w w' : World} {a' : Option Addr} {n c' : Nat} {z : Nat → Int} (h : Copied w w' a' n c' z) : Own w' a' n z := fun hn => by
  rcases h.2 with ⟨_, h, _⟩ | ⟨h1, _, _, h3⟩
  · omega
  · exact ⟨_, h1, Row.of h3⟩
theorem Copied.isnil {w w' : World} {a' : Option Addr} {n c' : Nat} {z : Nat → Int} (h : Copied w w' a' n c' z) : a' = none → n = 0 ∧ c' = 0 := by
  rintro rfl
  rcases h.2 with ⟨_, h1, h2, _⟩ | ⟨h1, _⟩
  · exact ⟨h1, h2⟩
  · cases h1
theorem Copied.cap {w w' : World} {a' : Option Addr} {n c' : Nat} {z : Nat → Int} (h : Copied w w' a' n c' z) : c' = n := by
  rcases h.2 with ⟨_, h1, h2, _⟩ | ⟨_, h2, _⟩ <;> omega
theorem Copied.at {w w' : World} {a' : Option Addr} {n c' : Nat} {z : Nat → Int} (h : Copied w w' a' n c' z) (g : Nat) (hg : a' = some ⟨g, 0, none⟩) : g = w.heap.size ∧ w'.heap.size = w.heap.size + 1 := by
  rcases h.2 with ⟨h1, _⟩ | ⟨h1, _, h3, _⟩
  · rw [h1] at hg; cases hg
  · rw [h1] at hg
    exact ⟨by simpa using hg.symm, h3⟩

theorem zof_byt {w : World} {a : Option Addr} {len cap : Nat} {zs : List Int} (h : IsRow .u8 w a len cap zs) : Byt (zof zs) := by
  intro i
  unfold zof
  by_cases hi : i < zs.length
  · have hw : (Lit.int .u8 (zs.getD i 0)).wf = true := by
      rcases h with ⟨_, _, _, h⟩ | ⟨x, _, _, _, _, _, h⟩
      · subst h; simp at hi
      · apply h
        rw [List.getD_eq_getElem?_getD, List.getElem?_eq_getElem hi]
        exact List.getElem_mem hi
    exact bounds_u8 hw
  · rw [List.getD_eq_getElem?_getD, List.getElem?_eq_none (by omega)]
    simp

theorem one_cell (w : World) (v : Value) (t : TypeId) : ∀ j u, [v][j]? = some u → (w.alloc (.cells #[v] t)).cell? (Addr.add ⟨w.heap.size, 0, none⟩ j) = some u := by
  intro j u hj
  match j, hj with
  | 0, hj =>
    simp at hj
    subst hj
    simp [Addr.add]

/-- None of the first n is told by g. -/
def allNot (g : Nat → Bool) (n : Nat) : Bool := (List.range n).all fun x => !g x
theorem allNot_zero (g : Nat → Bool) : allNot g 0 = true := by simp [allNot]
theorem allNot_yes {g : Nat → Bool} {n : Nat} (h : allNot g n = true) (hg : g n = false) : allNot g (n + 1) = true := by
  simp only [allNot, List.range_succ, List.all_append, List.all_cons, List.all_nil] at h ⊢
  rw [h, hg]; rfl
theorem allNot_no {g : Nat → Bool} {n m : Nat} (hn : n < m) (hg : g n = true) : allNot g m = false := by
  rw [Bool.eq_false_iff]
  intro h
  have := List.all_eq_true.1 h n (List.mem_range.2 hn)
  rw [hg] at this
  cases this
theorem fresh_eq (zm zr : Nat → Int) (nm k j : Nat) : fresh zm zr nm k j = (allNot (fun i => keyEq zm (i * (k + 1)) zr (j * (k + 1)) k) nm && allNot (fun e => keyEq zr (e * (k + 1)) zr (j * (k + 1)) k) j) := rfl

theorem last_no {zm : Nat → Int} {nm k I r2 : Nat} (h1 : I < r2) (h2 : r2 < nm) (h : keyEq zm (r2 * (k + 1)) zm (I * (k + 1)) k = true) : last zm nm k I = false := by
  cases hl : last zm nm k I
  · rfl
  · have := (last_iff zm nm k).1 hl r2 h1 h2
    rw [h] at this; cases this
theorem hit_no {zm zr : Nat → Int} {k t I : Nat} (h : hit zm zr k t I = false) (hk : keyEq zm (I * (k + 1)) zr (t * (k + 1)) k = false) : hit zm zr k (t + 1) I = false := by rw [hit_succ, h, hk]; rfl
theorem hit_yes {zm zr : Nat → Int} {k t I n : Nat} (ht : t < n) (hk : keyEq zm (I * (k + 1)) zr (t * (k + 1)) k = true) : hit zm zr k n I = true := by
  unfold hit
  rw [List.any_eq_true]
  exact ⟨t, List.mem_range.2 ht, hk⟩

theorem mul_bd {i n k M : Nat} (h : i < n) (hM : M = n * (k + 1)) : i * (k + 1) + (k + 1) ≤ M := by
  rw [hM, ← Nat.succ_mul]
  exact Nat.mul_le_mul_right _ h
theorem mul_cast (i k : Nat) : (i : Int) * ((k : Int) + 1) = ((i * (k + 1) : Nat) : Int) := by push_cast; rfl

set_option maxRecDepth 100000 in
set_option maxHeartbeats 1000000 in
theorem quad_walk (a0 : Option Addr) (len0 cap0 : Nat) (z0 : List Int) (a1 : Option Addr) (len1 cap1 : Nat) (z1 : List Int) (a2 : Int) (w : World) (w0 : IsRow .u8 w a0 len0 cap0 z0) (w1 : IsRow .u8 w a1 len1 cap1 z1) (w2 : (Lit.int .i64 a2).wf = true) :
    Calls Trym.prog 4 #[.slice a0 len0 cap0, .slice a1 len1 cap1, .int .i64 a2] w fun e w' => e = .returned (.bool true) ∧ Below w.heap.size w w' := by
  have l0 := w0.le
  have l1 := w1.le
  have B0 := w0.bts
  have B1 := w1.bts
  have Z0 := zof_byt w0
  have Z1 := zof_byt w1
  have N0 : Hid (a0 = none → len0 = 0) := w0.nil
  have N1 : Hid (a1 = none → len1 = 0) := w1.nil
  have hk2 : a2 ≤ 9223372036854775807 := (bounds_i64 w2).2
  clear w0 w1 w2
  go_enter Trym.func4, Trym.ntmps4
  go_wp2_with fail
  refine (bytes11 a0 a1 len0 cap0 len1 cap1 a2 w l0 l1).mono ?_
  rintro e w' ⟨v, rfl, rfl⟩
  cases v
  · go_wp2_with fail
    go_ret
    exact ⟨rfl, Below.refl _ _⟩
  by_cases g0 : 4096 < len0
  · go_wp2_with fail
    go_ret
    exact ⟨rfl, Below.refl _ _⟩
  by_cases g1 : 4096 < len1
  · go_wp2_with fail
    go_ret
    exact ⟨rfl, Below.refl _ _⟩
  by_cases g2 : a2 < 1
  · go_wp2_with fail
    go_ret
    exact ⟨rfl, Below.refl _ _⟩
  obtain ⟨k, rfl⟩ : ∃ k : Nat, a2 = (k : Int) + 1 := ⟨(a2 - 1).toNat, by omega⟩
  clear g2
  have d0 : decide ((4096 : Int) < len0) = false := decide_eq_false (by omega)
  have d1 : decide ((4096 : Int) < len1) = false := decide_eq_false (by omega)
  have d2 : decide ((k : Int) + 1 < 1) = false := decide_eq_false (by omega)
  by_cases g3 : ¬ len0 % (k + 1) = 0
  · obtain ⟨c, hc, hc0⟩ : ∃ c : Nat, (len0 : Int) % ((k : Int) + 1) = c ∧ 0 < c := ⟨len0 % (k + 1), by push_cast; rfl, by omega⟩
    have hcb : ((c : Int) != 0) = true := by simp; omega
    clear g3
    go_wp2_with fail
    go_ret
    exact ⟨rfl, Below.refl _ _⟩
  have g3 : len0 % (k + 1) = 0 := by omega
  by_cases g4 : ¬ len1 % (k + 1) = 0
  · have h3 : (((len0 : Int) % ((k : Int) + 1)) != 0) = false := by
      have : ((len0 % (k + 1) : Nat) : Int) = (len0 : Int) % ((k : Int) + 1) := by push_cast; rfl
      rw [← this, g3]; rfl
    obtain ⟨c, hc, hc0⟩ : ∃ c : Nat, (len1 : Int) % ((k : Int) + 1) = c ∧ 0 < c := ⟨len1 % (k + 1), by push_cast; rfl, by omega⟩
    have hcb : ((c : Int) != 0) = true := by simp; omega
    clear g3 g4
    go_wp2_with fail
    go_ret
    exact ⟨rfl, Below.refl _ _⟩
  have g4 : len1 % (k + 1) = 0 := by omega
  obtain ⟨nm, hnm⟩ : ∃ nm, len0 = nm * (k + 1) := ⟨len0 / (k + 1), by have := Nat.div_add_mod len0 (k + 1); rw [g3, Nat.add_zero, Nat.mul_comm] at this; exact this.symm⟩
  obtain ⟨nr, hnr⟩ : ∃ nr, len1 = nr * (k + 1) := ⟨len1 / (k + 1), by have := Nat.div_add_mod len1 (k + 1); rw [g4, Nat.add_zero, Nat.mul_comm] at this; exact this.symm⟩
  have h3 : (((len0 : Int) % ((k : Int) + 1)) != 0) = false := by
    have : ((len0 % (k + 1) : Nat) : Int) = (len0 : Int) % ((k : Int) + 1) := by push_cast; rfl
    rw [← this, g3]; rfl
  have h4 : (((len1 : Int) % ((k : Int) + 1)) != 0) = false := by
    have : ((len1 % (k + 1) : Nat) : Int) = (len1 : Int) % ((k : Int) + 1) := by push_cast; rfl
    rw [← this, g4]; rfl
  have q0 : (len0 : Int) / ((k : Int) + 1) = (nm : Int) := by
    rw [hnm]; push_cast; exact Int.mul_ediv_cancel _ (by omega)
  have q1 : (len1 : Int) / ((k : Int) + 1) = (nr : Int) := by
    rw [hnr]; push_cast; exact Int.mul_ediv_cancel _ (by omega)
  have bm : nm ≤ 4096 := by have h : nm * (k + 1) ≤ 4096 := (by omega); exact Nat.le_trans (Nat.le_mul_of_pos_right nm (by omega)) h
  have br : nr ≤ 4096 := by have h : nr * (k + 1) ≤ 4096 := (by omega); exact Nat.le_trans (Nat.le_mul_of_pos_right nr (by omega)) h
  have HM : Hid (len0 = nm * (k + 1)) := hnm
  have HR : Hid (len1 = nr * (k + 1)) := hnr
  clear g3 g4 hnm hnr
  go_wp2_with fail
  clear d0 d1 d2 h3 h4
  refine (clone_walk a0 len0 cap0 (zof z0) w' (by omega) B0 N0.out).mono ?_
  rintro e w1 ⟨p1, c1, rfl, C1⟩
  have B1 := B1.below C1.1
  go_wp2_with fail
  refine (clone_walk a1 len1 cap1 (zof z1) w1 (by omega) B1 N1.out).mono ?_
  rintro e w2 ⟨p2, c2, rfl, C2⟩
  go_wp2_with fail
  refine (clone_walk p1 len0 c1 (zof z0) w2 (by omega) (C1.bts.below C2.1) (fun h => by rcases C1.2 with ⟨_, h1, _⟩ | ⟨h1, _⟩; exact h1; rw [h] at h1; cases h1)).mono ?_
  rintro e w3 ⟨p3, c3, rfl, C3⟩
  go_wp2_with fail
  refine (clone_walk p2 len1 c2 (zof z1) w3 (by omega) (C2.bts.below C3.1) (fun h => by rcases C2.2 with ⟨_, h1, _⟩ | ⟨h1, _⟩; exact h1; rw [h] at h1; cases h1)).mono ?_
  rintro e w4 ⟨p4, c4, rfl, C4⟩
  have hmk := make0 len1 (by omega)
  have e1 := C1.cap.symm
  subst e1
  have e2 := C2.cap.symm
  subst e2
  have e3 := C3.cap.symm
  subst e3
  have e4 := C4.cap.symm
  subst e4
  go_upto_block 0 with fail
  clear hmk
  have NN : Hid (p1 = none → len0 = 0) := fun h => (C1.isnil h).1
  have P1 : Bts w4 p1 len0 (zof z0) := ((C1.bts.below C2.1).below C3.1).below C4.1
  have P2 : Bts w4 p2 len1 (zof z1) := (C2.bts.below C3.1).below C4.1
  generalize zof z0 = zm at *
  generalize zof z1 = zr at *
  clear B0 B1 N0 N1 z0 z1
  go_cut [11] (fun s11 wx => s11 = .slice (some ⟨w4.heap.size, 0, none⟩) (len zm zr nm k nr) len1 ∧ Row wx w4.heap.size len1 (fun i => if i < len zm zr nm k nr then outF zm zr nm k nr i else 0) ∧ Below w4.heap.size w4 wx)
  case first =>
    clear C1 C2 C3 C4
    go_wp2_with fail
    go_loopw [11, 12] (fun s i wr => ∃ j : Nat, i = .int .i64 j ∧ j ≤ nr ∧ s = .slice (some ⟨w4.heap.size, 0, none⟩) (len zm zr nm k j) len1 ∧ Row wr w4.heap.size len1 (fun i => if i < len zm zr nm k j then outF zm zr nm k j i else 0) ∧ Below w4.heap.size w4 wr) (fun _ i _ => nr - (intOf i).toNat)
    case atStart => exact ⟨0, rfl, Nat.zero_le _, rfl, Row.of ((World.rowIs_made w4 (.int .u8 0) len1 5).congr (fun i hi => by simp [len])), (Below.refl _ _).alloc (Nat.le_refl _) _⟩
    case round =>
      obtain ⟨j, rfl, hj, rfl, hrow, hbel⟩ := hrel
      rename World => wo
      by_cases hlt : j < nr
      · have mj := mul_bd hlt HR.out
        have mj1 := mul_cast j k
        have HJ : Hid ((j : Int) * ((k : Int) + 1) = ((j * (k + 1) : Nat) : Int)) := mj1
        have mj2 : (0 : Int) ≤ (j : Int) * ((k : Int) + 1) := by rw [mj1]; omega
        have mj3 : (j : Int) * ((k : Int) + 1) ≤ 4096 := by rw [mj1]; omega
        clear mj1
        go_upto_block 2 with fail
        go_cut [13] (fun s13 wx => s13 = .bool (allNot (fun i => keyEq zm (i * (k + 1)) zr (j * (k + 1)) k) nm) ∧ Below wo.heap.size wo wx)
        case first =>
          go_wp2_with fail
          go_loopw [13, 14] (fun s i wx => ∃ (t : Nat) (b : Bool), i = .int .i64 t ∧ s = .bool b ∧ t ≤ nm ∧ Below wo.heap.size wo wx ∧ Hid ((b = true ∧ allNot (fun i => keyEq zm (i * (k + 1)) zr (j * (k + 1)) k) t = true) ∨ (b = false ∧ allNot (fun i => keyEq zm (i * (k + 1)) zr (j * (k + 1)) k) nm = false))) (fun _ i _ => nm - (intOf i).toNat)
          case atStart => exact ⟨0, true, rfl, rfl, Nat.zero_le _, Below.refl _ _, .inl ⟨rfl, allNot_zero _⟩⟩
          case round =>
            obtain ⟨t, b, rfl, rfl, ht, hbx, HB⟩ := hrel
            have hbw : Below w4.heap.size w4 wr := hbel.trans (hbx.mono hbel.size)
            by_cases hlt2 : t < nm
            · cases b
              · have HE : Hid (allNot (fun i => keyEq zm (i * (k + 1)) zr (j * (k + 1)) k) nm = false) := by
                  rcases HB.out with ⟨h, _⟩ | ⟨_, h⟩
                  · cases h
                  · exact h
                clear HB
                go_wp2
                go_meet
                case rel => exact ⟨by rw [HE.out], hbx⟩
              · have HE : Hid (allNot (fun i => keyEq zm (i * (k + 1)) zr (j * (k + 1)) k) t = true) := by
                  rcases HB.out with ⟨_, h⟩ | ⟨h, _⟩
                  · exact h
                  · cases h
                clear HB
                have mt := mul_bd hlt2 HM.out
                have mt1 := mul_cast t k
                have HT : Hid ((t : Int) * ((k : Int) + 1) = ((t * (k + 1) : Nat) : Int)) := mt1
                have mt2 : (0 : Int) ≤ (t : Int) * ((k : Int) + 1) := by rw [mt1]; omega
                have mt3 : (t : Int) * ((k : Int) + 1) ≤ 4096 := by rw [mt1]; omega
                clear mt1
                have cs := fun c hc => same_walk p1 p2 len0 len0 len1 len1 zm zr (t * (k + 1)) (j * (k + 1)) k _ _ c HT.out HJ.out hc wr (P1.below hbw) (P2.below hbw) (by omega) (by omega) (by omega) (by omega) (by omega)
                have HC : Hid _ := cs
                clear cs
                cases hke : keyEq zm (t * (k + 1)) zr (j * (k + 1)) k
                · have HE' : Hid (allNot (fun i => keyEq zm (i * (k + 1)) zr (j * (k + 1)) k) (t + 1) = true) := allNot_yes HE.out hke
                  have HK : Hid (keyEq zm (t * (k + 1)) zr (j * (k + 1)) k = false) := hke
                  clear hke HE
                  go_wp2_with fail
                  refine Calls.mono (HC.out _ (by omega)) ?_
                  rintro e wy ⟨rfl, hby⟩
                  rw [HK.out]
                  have hbz : Below wo.heap.size wo wy := hbx.trans (hby.mono hbx.size)
                  clear HC hby hbx hbw
                  go_wp2
                  go_roundw
                  case rel => exact ⟨t + 1, true, by go_num, rfl, by omega, hbz, .inl ⟨rfl, HE'.out⟩⟩
                  case measure => simp [intOf]; omega
                · have HE' : Hid (allNot (fun i => keyEq zm (i * (k + 1)) zr (j * (k + 1)) k) nm = false) := allNot_no hlt2 hke
                  have HK : Hid (keyEq zm (t * (k + 1)) zr (j * (k + 1)) k = true) := hke
                  clear hke HE
                  go_wp2_with fail
                  refine Calls.mono (HC.out _ (by omega)) ?_
                  rintro e wy ⟨rfl, hby⟩
                  rw [HK.out]
                  have hbz : Below wo.heap.size wo wy := hbx.trans (hby.mono hbx.size)
                  clear HC hby hbx hbw
                  go_wp2
                  go_roundw
                  case rel => exact ⟨t + 1, false, by go_num, rfl, by omega, hbz, .inr ⟨rfl, HE'.out⟩⟩
                  case measure => simp [intOf]; omega
            · have HE : Hid (b = allNot (fun i => keyEq zm (i * (k + 1)) zr (j * (k + 1)) k) nm) := by
                have : t = nm := by omega
                subst this
                rcases HB.out with ⟨h1, h2⟩ | ⟨h1, h2⟩
                · exact h1.trans h2.symm
                · exact h1.trans h2.symm
              clear HB
              go_wp2
              go_meet
              case rel => exact ⟨by rw [HE.out], hbx⟩
        case rest =>
          obtain ⟨rfl, hb1⟩ := hcut
          generalize hb0 : allNot (fun i => keyEq zm (i * (k + 1)) zr (j * (k + 1)) k) nm = b0
          have HB0 : Hid (allNot (fun i => keyEq zm (i * (k + 1)) zr (j * (k + 1)) k) nm = b0) := hb0
          clear hb0
          go_upto_block 4 with fail
          go_cut [13] (fun s13 wx => s13 = .bool (fresh zm zr nm k j) ∧ Below wo.heap.size wo wx)
          case first =>
            go_wp2_with fail
            go_loopw [13, 15] (fun s i wx => ∃ (t : Nat) (b : Bool), i = .int .i64 t ∧ s = .bool b ∧ t ≤ j ∧ Below wo.heap.size wo wx ∧ Hid ((b = true ∧ b0 = true ∧ allNot (fun e => keyEq zr (e * (k + 1)) zr (j * (k + 1)) k) t = true) ∨ (b = false ∧ fresh zm zr nm k j = false))) (fun _ i _ => j - (intOf i).toNat)
            case atStart =>
              refine ⟨0, b0, rfl, rfl, Nat.zero_le _, hb1, ?_⟩
              show _ ∨ _
              cases b0
              · exact .inr ⟨rfl, by rw [fresh_eq, HB0.out]; rfl⟩
              · exact .inl ⟨rfl, rfl, allNot_zero _⟩
            case round =>
              obtain ⟨t, b, rfl, rfl, ht, hbx, HB⟩ := hrel
              have hbw : Below w4.heap.size w4 wr := hbel.trans (hbx.mono hbel.size)
              by_cases hlt2 : t < j
              · cases b
                · have HE : Hid (fresh zm zr nm k j = false) := by
                    rcases HB.out with ⟨h, _⟩ | ⟨_, h⟩
                    · cases h
                    · exact h
                  clear HB
                  go_wp2
                  go_meet
                  case rel => exact ⟨by rw [HE.out], hbx⟩
                · have HE : Hid (b0 = true ∧ allNot (fun e => keyEq zr (e * (k + 1)) zr (j * (k + 1)) k) t = true) := by
                    rcases HB.out with ⟨_, h⟩ | ⟨h, _⟩
                    · exact h
                    · cases h
                  clear HB
                  have mt := mul_bd (show t < nr by omega) HR.out
                  have mt1 := mul_cast t k
                  have HT : Hid ((t : Int) * ((k : Int) + 1) = ((t * (k + 1) : Nat) : Int)) := mt1
                  have mt2 : (0 : Int) ≤ (t : Int) * ((k : Int) + 1) := by rw [mt1]; omega
                  have mt3 : (t : Int) * ((k : Int) + 1) ≤ 4096 := by rw [mt1]; omega
                  clear mt1
                  have cs := fun c hc => same_walk p2 p2 len1 len1 len1 len1 zr zr (t * (k + 1)) (j * (k + 1)) k _ _ c HT.out HJ.out hc wr (P2.below hbw) (P2.below hbw) (by omega) (by omega) (by omega) (by omega) (by omega)
                  have HC : Hid _ := cs
                  clear cs
                  cases hke : keyEq zr (t * (k + 1)) zr (j * (k + 1)) k
                  · have HE' : Hid (b0 = true ∧ allNot (fun e => keyEq zr (e * (k + 1)) zr (j * (k + 1)) k) (t + 1) = true) := ⟨HE.out.1, allNot_yes HE.out.2 hke⟩
                    have HK : Hid (keyEq zr (t * (k + 1)) zr (j * (k + 1)) k = false) := hke
                    clear hke HE
                    go_wp2_with fail
                    refine Calls.mono (HC.out _ (by omega)) ?_
                    rintro e wy ⟨rfl, hby⟩
                    rw [HK.out]
                    have hbz : Below wo.heap.size wo wy := hbx.trans (hby.mono hbx.size)
                    clear HC hby hbx hbw
                    go_wp2
                    go_roundw
                    case rel => exact ⟨t + 1, true, by go_num, rfl, by omega, hbz, .inl ⟨rfl, HE'.out⟩⟩
                    case measure => simp [intOf]; omega
                  · have HE' : Hid (fresh zm zr nm k j = false) := by show _ = _; rw [fresh_eq, allNot_no hlt2 hke, Bool.and_false]
                    have HK : Hid (keyEq zr (t * (k + 1)) zr (j * (k + 1)) k = true) := hke
                    clear hke HE
                    go_wp2_with fail
                    refine Calls.mono (HC.out _ (by omega)) ?_
                    rintro e wy ⟨rfl, hby⟩
                    rw [HK.out]
                    have hbz : Below wo.heap.size wo wy := hbx.trans (hby.mono hbx.size)
                    clear HC hby hbx hbw
                    go_wp2
                    go_roundw
                    case rel => exact ⟨t + 1, false, by go_num, rfl, by omega, hbz, .inr ⟨rfl, HE'.out⟩⟩
                    case measure => simp [intOf]; omega
              · have HE : Hid (b = fresh zm zr nm k j) := by
                  have : t = j := by omega
                  subst this
                  show _ = _
                  rcases HB.out with ⟨h1, h2, h3⟩ | ⟨h1, h2⟩
                  · rw [fresh_eq, HB0.out, h2, h3, h1]; rfl
                  · rw [h1, h2]
                clear HB
                go_wp2
                go_meet
                case rel => exact ⟨by rw [HE.out], hbx⟩
          case rest =>
            clear hb1 HB0
            obtain ⟨rfl, hb1⟩ := hcut
            have hbw : Below w4.heap.size w4 wc := hbel.trans (hb1.mono hbel.size)
            have hlen := len_le zm zr nm k j
            cases hfr : fresh zm zr nm k j
            · have HL : Hid (len zm zr nm k (j + 1) = len zm zr nm k j) := len_no zm zr nm k hfr
              have hrow' : Row wc w4.heap.size len1 (fun i => if i < len zm zr nm k (j + 1) then outF zm zr nm k (j + 1) i else 0) := (hrow.same (hb1.block _ hrow.is.lt)).congr (fun i hi => by simp only [HL.out, outF_no zm zr nm k hfr])
              clear hfr hrow hb1
              go_wp2
              go_roundw
              case rel => exact ⟨j + 1, by go_num, by omega, by rw [HL.out], hrow', hbw⟩
              case measure => simp [intOf]; omega
            · have HL : Hid (len zm zr nm k (j + 1) = len zm zr nm k j + (k + 1)) := len_yes zm zr nm k hfr
              have HO : Hid (∀ i, outF zm zr nm k (j + 1) i = if i < len zm zr nm k j then outF zm zr nm k j i else zr (j * (k + 1) + (i - len zm zr nm k j))) := outF_yes zm zr nm k hfr
              have hrow0 : Row wc w4.heap.size len1 (fun i => if i < len zm zr nm k j + 0 then outF zm zr nm k (j + 1) i else 0) := (hrow.same (hb1.block _ hrow.is.lt)).congr (fun i hi => by
                by_cases hh : i < len zm zr nm k j
                · rw [if_pos hh, if_pos (by omega), HO.out, if_pos hh]
                · rw [if_neg hh, if_neg (by omega)])
              clear hrow hb1 hbel
              obtain ⟨i0, hi0, hz0, hz1, hz2⟩ := info_parts Trym.info5
              go_wp2
              clear hfr
              go_loopw [11, 16] (fun s i wx => ∃ t : Nat, i = .int .i64 t ∧ t ≤ k + 1 ∧ s = .slice (some ⟨w4.heap.size, 0, none⟩) (len zm zr nm k j + t) len1 ∧ Row wx w4.heap.size len1 (fun i => if i < len zm zr nm k j + t then outF zm zr nm k (j + 1) i else 0) ∧ Below w4.heap.size w4 wx) (fun _ i _ => k + 1 - (intOf i).toNat)
              case atStart => exact ⟨0, rfl, Nat.zero_le _, rfl, hrow0, hbw⟩
              case round =>
                clear hrow0 hbw
                obtain ⟨t, rfl, ht, rfl, hrow, hbw⟩ := hrel
                by_cases hlt2 : t < k + 1
                · obtain ⟨b2, o2, rfl, h2, hc2⟩ := P2.get (by omega)
                  have cc : wr.cell? ⟨b2, o2 + (j * (k + 1) + t), none⟩ = some (.int .u8 (zr (j * (k + 1) + t))) := (hbw.cell h2).trans (hc2 _ (by omega))
                  have tn : ((j : Int) * ((k : Int) + 1) + t).toNat = j * (k + 1) + t := by rw [HJ.out]; omega
                  have tb : (j : Int) * ((k : Int) + 1) + t < len1 := by rw [HJ.out]; omega
                  have tb0 : (0 : Int) ≤ (j : Int) * ((k : Int) + 1) + t := by omega
                  have dt : decide ((t : Int) < (k : Int) + 1) = true := decide_eq_true (by omega)
                  have hrowA : Row (wr.alloc (.cells #[.int .u8 (zr (j * (k + 1) + t))] 5)) w4.heap.size len1 (fun i => if i < len zm zr nm k j + t then outF zm zr nm k (j + 1) i else 0) := hrow.same (Below.heap_alloc wr _ _ hrow.is.lt)
                  have hrowB := (hrowA.laid (len zm zr nm k j + t) 1 (fun _ => zr (j * (k + 1) + t))).congr (f' := fun i => if i < len zm zr nm k j + (t + 1) then outF zm zr nm k (j + 1) i else 0) (fun i hi => by
                    by_cases h1 : i < len zm zr nm k j + t
                    · rw [if_neg (by omega), if_pos h1, if_pos (by omega)]
                    · by_cases h2 : i < len zm zr nm k j + t + 1
                      · rw [if_pos ⟨by omega, h2⟩, if_pos (by omega), HO.out, if_neg (by omega)]
                        congr 1
                        omega
                      · rw [if_neg (by omega), if_neg h1, if_neg (by omega)])
                  have hbB : Below w4.heap.size w4 ((wr.alloc (.cells #[.int .u8 (zr (j * (k + 1) + t))] 5)).setCells w4.heap.size (len zm zr nm k j + t) (rowL 1 (fun _ => zr (j * (k + 1) + t)))) := Below.setCells _ (Nat.le_refl _) _ _ _ (hbw.alloc hbw.size _)
                  have HA : Hid (Row (wr.alloc (.cells #[.int .u8 (zr (j * (k + 1) + t))] 5)) w4.heap.size len1 (fun i => if i < len zm zr nm k j + t then outF zm zr nm k (j + 1) i else 0)) := hrowA
                  have HB : Hid (Row ((wr.alloc (.cells #[.int .u8 (zr (j * (k + 1) + t))] 5)).setCells w4.heap.size (len zm zr nm k j + t) (rowL 1 (fun _ => zr (j * (k + 1) + t)))) w4.heap.size len1 (fun i => if i < len zm zr nm k j + (t + 1) then outF zm zr nm k (j + 1) i else 0)) := hrowB
                  clear hrowA hrowB hrow hc2
                  go_wp2_with (at_builtin; refine wpList_append_room rfl (.tmp 120) (.tmp 129) 22 rfl 5 i0 Trym.underlying22 hi0 hz1 w4.heap.size (len zm zr nm k j + t) len1 rfl ⟨wr.heap.size, 0, none⟩ 1 1 (rowL 1 (fun _ => zr (j * (k + 1) + t))) rfl rfl (one_cell _ _ _) (rowL_one _ _) (by omega) (fun t' ht' => by rw [HA.out.cell (by omega)]; rfl) (fun t' ht' => HA.out.is.frozen _) ?_)
                  go_roundw
                  case rel => exact ⟨t + 1, by go_num, by omega, rfl, HB.out, hbB⟩
                  case measure => simp [intOf]; omega
                · have htk : t = k + 1 := by omega
                  subst htk
                  have hrow' : Row wr w4.heap.size len1 (fun i => if i < len zm zr nm k (j + 1) then outF zm zr nm k (j + 1) i else 0) := by rw [HL.out]; exact hrow
                  clear hrow
                  go_wp2
                  go_roundw
                  case rel => exact ⟨j + 1, by go_num, by omega, by rw [HL.out], hrow', hbw⟩
                  case measure => simp [intOf]; omega
      · have hjn : j = nr := by omega
        subst hjn
        go_wp2
        go_meet
        case rel => exact ⟨rfl, hrow, hbel⟩
  case rest =>
    obtain ⟨rfl, hrw, hbw⟩ := hcut
    rename World => wq
    go_wp2_with fail
    refine (clone_walk p1 len0 len0 zm wq (by omega) (P1.below hbw) NN.out).mono ?_
    rintro e w5 ⟨p5, c5, rfl, C5⟩
    have e5 := C5.cap.symm
    subst e5
    go_upto_block 8 with fail
    go_cut [] (fun wx => Own wx p5 len0 (zeroed zm nm k (reset zm zr nm k nr)) ∧ Below wq.heap.size wq wx)
    case first =>
      have O5 := C5.own
      have hb5 := C5.1
      have HG5 : Hid (∀ g, p5 = some ⟨g, 0, none⟩ → g = wq.heap.size) := fun g hg => (C5.at g hg).1
      clear C1 C2 C3 C4 C5
      go_wp2_with fail
      go_loopw [18] (fun i wr => ∃ I : Nat, i = .int .i64 I ∧ I ≤ nm ∧ Own wr p5 len0 (zeroed zm nm k (fun r => decide (r < I) && reset zm zr nm k nr r)) ∧ Below wq.heap.size wq wr) (fun i _ => nm - (intOf i).toNat)
      case atStart => exact ⟨0, rfl, Nat.zero_le _, O5.congr (fun i hi => by rw [zeroed_congr zm nm k (Q := fun _ => false) (fun r hr => by simp), zeroed_none]), hb5⟩
      case round =>
        clear O5 hb5
        obtain ⟨I, rfl, hI, O5, hb5⟩ := hrel
        rename World => wo
        by_cases hlt : I < nm
        · have mj := mul_bd hlt HM.out
          have mj1 := mul_cast I k
          have HJ : Hid ((I : Int) * ((k : Int) + 1) = ((I * (k + 1) : Nat) : Int)) := mj1
          have mj2 : (0 : Int) ≤ (I : Int) * ((k : Int) + 1) := by rw [mj1]; omega
          have mj3 : (I : Int) * ((k : Int) + 1) ≤ 4096 := by rw [mj1]; omega
          clear mj1
          go_upto_block 10 with fail
          go_cut [19] (fun s19 wx => s19 = .bool (last zm nm k I) ∧ Below wo.heap.size wo wx)
          case first =>
            go_wp2_with fail
            go_loopw [19, 20] (fun s i wx => ∃ (t : Nat) (b : Bool), i = .int .i64 t ∧ s = .bool b ∧ I + 1 ≤ t ∧ t ≤ nm ∧ Below wo.heap.size wo wx ∧ Hid ((b = true ∧ ∀ r2, I < r2 → r2 < t → keyEq zm (r2 * (k + 1)) zm (I * (k + 1)) k = false) ∨ (b = false ∧ last zm nm k I = false))) (fun _ i _ => nm - (intOf i).toNat)
            case atStart => exact ⟨I + 1, true, by go_num, rfl, Nat.le_refl _, hlt, Below.refl _ _, .inl ⟨rfl, fun r2 h1 h2 => by omega⟩⟩
            case round =>
              obtain ⟨t, b, rfl, rfl, ht1, ht, hbx, HB⟩ := hrel
              have hbw4 : Below w4.heap.size w4 wr := hbw.trans ((hb5.mono hbw.size).trans (hbx.mono (Nat.le_trans hbw.size hb5.size)))
              by_cases hlt2 : t < nm
              · cases b
                · have HE : Hid (last zm nm k I = false) := by
                    rcases HB.out with ⟨h, _⟩ | ⟨_, h⟩
                    · cases h
                    · exact h
                  clear HB
                  go_wp2
                  go_meet
                  case rel => exact ⟨by rw [HE.out], hbx⟩
                · have HE : Hid (∀ r2, I < r2 → r2 < t → keyEq zm (r2 * (k + 1)) zm (I * (k + 1)) k = false) := by
                    rcases HB.out with ⟨_, h⟩ | ⟨h, _⟩
                    · exact h
                    · cases h
                  clear HB
                  have mt := mul_bd hlt2 HM.out
                  have mt1 := mul_cast t k
                  have HT : Hid ((t : Int) * ((k : Int) + 1) = ((t * (k + 1) : Nat) : Int)) := mt1
                  have mt2 : (0 : Int) ≤ (t : Int) * ((k : Int) + 1) := by rw [mt1]; omega
                  have mt3 : (t : Int) * ((k : Int) + 1) ≤ 4096 := by rw [mt1]; omega
                  clear mt1
                  have cs := fun c hc => same_walk p1 p1 len0 len0 len0 len0 zm zm (t * (k + 1)) (I * (k + 1)) k _ _ c HT.out HJ.out hc wr (P1.below hbw4) (P1.below hbw4) (by omega) (by omega) (by omega) (by omega) (by omega)
                  have HC : Hid _ := cs
                  clear cs
                  cases hke : keyEq zm (t * (k + 1)) zm (I * (k + 1)) k
                  · have HE' : Hid (∀ r2, I < r2 → r2 < t + 1 → keyEq zm (r2 * (k + 1)) zm (I * (k + 1)) k = false) := fun r2 h1 h2 => by
                      rcases Nat.lt_or_ge r2 t with hh | hh
                      · exact HE.out r2 h1 hh
                      · have : r2 = t := by omega
                        rw [this]; exact hke
                    have HK : Hid (keyEq zm (t * (k + 1)) zm (I * (k + 1)) k = false) := hke
                    clear hke HE
                    go_wp2_with fail
                    refine Calls.mono (HC.out _ (by omega)) ?_
                    rintro e wy ⟨rfl, hby⟩
                    rw [HK.out]
                    have hbz : Below wo.heap.size wo wy := hbx.trans (hby.mono hbx.size)
                    clear HC hby hbx hbw4
                    go_wp2
                    go_roundw
                    case rel => exact ⟨t + 1, true, by go_num, rfl, by omega, by omega, hbz, .inl ⟨rfl, HE'.out⟩⟩
                    case measure => simp [intOf]; omega
                  · have HE' : Hid (last zm nm k I = false) := last_no (by omega) hlt2 hke
                    have HK : Hid (keyEq zm (t * (k + 1)) zm (I * (k + 1)) k = true) := hke
                    clear hke HE
                    go_wp2_with fail
                    refine Calls.mono (HC.out _ (by omega)) ?_
                    rintro e wy ⟨rfl, hby⟩
                    rw [HK.out]
                    have hbz : Below wo.heap.size wo wy := hbx.trans (hby.mono hbx.size)
                    clear HC hby hbx hbw4
                    go_wp2
                    go_roundw
                    case rel => exact ⟨t + 1, false, by go_num, rfl, by omega, by omega, hbz, .inr ⟨rfl, HE'.out⟩⟩
                    case measure => simp [intOf]; omega
              · have HE : Hid (b = last zm nm k I) := by
                  show _ = _
                  rcases HB.out with ⟨h1, h2⟩ | ⟨h1, h2⟩
                  · rw [h1, (last_iff zm nm k).2 (fun r2 g1 g2 => h2 r2 g1 (by omega))]
                  · rw [h1, h2]
                clear HB
                go_wp2
                go_meet
                case rel => exact ⟨by rw [HE.out], hbx⟩
          case rest =>
            obtain ⟨rfl, hb1⟩ := hcut
            generalize hlv : last zm nm k I = lv
            have HLV : Hid (last zm nm k I = lv) := hlv
            clear hlv
            go_upto_block 12 with fail
            go_cut [21] (fun s21 wx => s21 = .bool (reset zm zr nm k nr I) ∧ Below wo.heap.size wo wx)
            case first =>
              go_wp2_with fail
              go_loopw [21, 22] (fun s i wx => ∃ (t : Nat) (b : Bool), i = .int .i64 t ∧ s = .bool b ∧ t ≤ nr ∧ Below wo.heap.size wo wx ∧ Hid ((b = false ∧ hit zm zr k t I = false) ∨ (b = true ∧ lv = true ∧ hit zm zr k nr I = true))) (fun _ i _ => nr - (intOf i).toNat)
              case atStart => exact ⟨0, false, rfl, rfl, Nat.zero_le _, hb1, .inl ⟨rfl, by simp [hit]⟩⟩
              case round =>
                obtain ⟨t, b, rfl, rfl, ht, hbx, HB⟩ := hrel
                have hbw4 : Below w4.heap.size w4 wr := hbw.trans ((hb5.mono hbw.size).trans (hbx.mono (Nat.le_trans hbw.size hb5.size)))
                by_cases hlt2 : t < nr
                · cases lv
                  · have HE : Hid (b = false ∧ reset zm zr nm k nr I = false) := by
                      refine ⟨?_, by unfold reset; rw [HLV.out]; rfl⟩
                      rcases HB.out with ⟨h, _⟩ | ⟨_, h, _⟩
                      · exact h
                      · cases h
                    obtain rfl := HE.out.1
                    clear HB
                    go_wp2
                    go_meet
                    case rel => exact ⟨by rw [HE.out.2], hbx⟩
                  · cases b
                    · have HE : Hid (hit zm zr k t I = false) := by
                        rcases HB.out with ⟨_, h⟩ | ⟨h, _⟩
                        · exact h
                        · cases h
                      clear HB
                      have mt := mul_bd hlt2 HR.out
                      have mt1 := mul_cast t k
                      have HT : Hid ((t : Int) * ((k : Int) + 1) = ((t * (k + 1) : Nat) : Int)) := mt1
                      have mt2 : (0 : Int) ≤ (t : Int) * ((k : Int) + 1) := by rw [mt1]; omega
                      have mt3 : (t : Int) * ((k : Int) + 1) ≤ 4096 := by rw [mt1]; omega
                      clear mt1
                      have cs := fun c hc => same_walk p1 p2 len0 len0 len1 len1 zm zr (I * (k + 1)) (t * (k + 1)) k _ _ c HJ.out HT.out hc wr (P1.below hbw4) (P2.below hbw4) (by omega) (by omega) (by omega) (by omega) (by omega)
                      have HC : Hid _ := cs
                      clear cs
                      cases hke : keyEq zm (I * (k + 1)) zr (t * (k + 1)) k
                      · have HE' : Hid (hit zm zr k (t + 1) I = false) := hit_no HE.out hke
                        have HK : Hid (keyEq zm (I * (k + 1)) zr (t * (k + 1)) k = false) := hke
                        clear hke HE
                        go_wp2_with fail
                        refine Calls.mono (HC.out _ (by omega)) ?_
                        rintro e wy ⟨rfl, hby⟩
                        rw [HK.out]
                        have hbz : Below wo.heap.size wo wy := hbx.trans (hby.mono hbx.size)
                        clear HC hby hbx hbw4
                        go_wp2
                        go_roundw
                        case rel => exact ⟨t + 1, false, by go_num, rfl, by omega, hbz, .inl ⟨rfl, HE'.out⟩⟩
                        case measure => simp [intOf]; omega
                      · have HE' : Hid (hit zm zr k nr I = true) := hit_yes hlt2 hke
                        have HK : Hid (keyEq zm (I * (k + 1)) zr (t * (k + 1)) k = true) := hke
                        clear hke HE
                        go_wp2_with fail
                        refine Calls.mono (HC.out _ (by omega)) ?_
                        rintro e wy ⟨rfl, hby⟩
                        rw [HK.out]
                        have hbz : Below wo.heap.size wo wy := hbx.trans (hby.mono hbx.size)
                        clear HC hby hbx hbw4
                        go_wp2
                        go_roundw
                        case rel => exact ⟨t + 1, true, by go_num, rfl, by omega, hbz, .inr ⟨rfl, trivial, HE'.out⟩⟩
                        case measure => simp [intOf]; omega
                    · have HE : Hid (reset zm zr nm k nr I = true) := by
                        rcases HB.out with ⟨h, _⟩ | ⟨_, _, h⟩
                        · cases h
                        · show _ = _
                          unfold reset
                          rw [HLV.out, h]; rfl
                      clear HB
                      go_wp2
                      go_meet
                      case rel => exact ⟨by rw [HE.out], hbx⟩
                · have HE : Hid (b = reset zm zr nm k nr I) := by
                    have : t = nr := by omega
                    subst this
                    show _ = _
                    unfold reset
                    rw [HLV.out]
                    rcases HB.out with ⟨h1, h2⟩ | ⟨h1, h2, h3⟩
                    · rw [h1, h2, Bool.and_false]
                    · rw [h1, h2, h3]; rfl
                  clear HB
                  go_wp2
                  go_meet
                  case rel => exact ⟨by rw [HE.out], hbx⟩
            case rest =>
              clear hb1 HLV
              obtain ⟨rfl, hb1⟩ := hcut
              have hb6 : Below wq.heap.size wq wc := hb5.trans (hb1.mono hb5.size)
              have O6 : Own wc p5 len0 (zeroed zm nm k (fun r => decide (r < I) && reset zm zr nm k nr r)) := O5.below hb1
              clear O5 hb5 hb1
              cases hrs : reset zm zr nm k nr I
              · have O7 : Own wc p5 len0 (zeroed zm nm k (fun r => decide (r < I + 1) && reset zm zr nm k nr r)) := O6.congr (fun i hi => zeroed_congr zm nm k (fun r hr => by
                  by_cases h1 : r = I
                  · subst h1; simp [hrs]
                  · have : decide (r < I + 1) = decide (r < I) := decide_eq_decide.2 (by omega)
                    simp only [this]) i)
                clear O6 hrs
                go_wp2
                go_roundw
                case rel => exact ⟨I + 1, by go_num, by omega, O7, hb6⟩
                case measure => simp [intOf]; omega
              · obtain ⟨g, rfl, hrow⟩ := O6 (by omega)
                have hg := HG5.out g rfl
                have O7 : Own (wc.setCell ⟨g, I * (k + 1) + k, none⟩ (.int .u8 0)) (some ⟨g, 0, none⟩) len0 (zeroed zm nm k (fun r => decide (r < I + 1) && reset zm zr nm k nr r)) := fun _ => ⟨g, rfl, (hrow.put (I * (k + 1) + k) 0).congr (fun i _ => (zeroed_one zm nm k hlt (fun r hr => by
                  by_cases h1 : r = I
                  · subst h1; simp [hrs]
                  · have h2 : decide (r < I + 1) = decide (r < I) := decide_eq_decide.2 (by omega)
                    have h3 : decide (r = I) = false := decide_eq_false h1
                    simp only [h2, h3, Bool.or_false]) i).symm)⟩
                have hb7 : Below wq.heap.size wq (wc.setCell ⟨g, I * (k + 1) + k, none⟩ (.int .u8 0)) := hb6.setCell (by show _ ≤ g; omega) _
                have hcell := hrow.cell (show I * (k + 1) + k < len0 by omega)
                have hfz := hrow.is.frozen (I * (k + 1) + k)
                have tn : ((I : Int) * ((k : Int) + 1) + ((k : Int) + 1) - 1).toNat = I * (k + 1) + k := by rw [HJ.out]; omega
                have tb : (I : Int) * ((k : Int) + 1) + ((k : Int) + 1) - 1 < len0 := by rw [HJ.out]; omega
                have tb0 : (0 : Int) ≤ (I : Int) * ((k : Int) + 1) + ((k : Int) + 1) - 1 := by omega
                clear O6 hrs hrow hg
                go_wp2
                go_roundw
                case rel => exact ⟨I + 1, by go_num, by omega, O7, hb7⟩
                case measure => simp [intOf]; omega
        · have hIn : I = nm := by omega
          subst hIn
          have O6 : Own wo p5 len0 (zeroed zm I k (reset zm zr I k nr)) := O5.congr (fun i hi => zeroed_congr zm I k (fun r hr => by simp [hr]) i)
          clear O5
          go_wp2
          go_meet
          case rel => exact ⟨O6, hb5⟩
    case rest =>
      obtain ⟨O5, hb5⟩ := hcut
      have b34 : Below w3.heap.size w3 w4 := C4.1
      have bq : Below w4.heap.size w4 wc := hbw.trans (hb5.mono hbw.size)
      have O3 : Own wc p3 len0 zm := (C3.own.below b34).below bq
      have O4 : (p4 = none ∧ len1 = 0) ∨ ∃ gr, p4 = some ⟨gr, 0, none⟩ ∧ Row wc gr len1 zr ∧ w2.heap.size ≤ gr ∧ gr < w4.heap.size := by
        rcases C4.2 with ⟨h1, h2, _⟩ | ⟨h1, _, h3, h4⟩
        · exact .inl ⟨h1, h2⟩
        · exact .inr ⟨_, h1, (Row.of h4).same (bq.block _ (by omega)), C3.1.size, by omega⟩
      have hne : ∀ g, p3 = some ⟨g, 0, none⟩ → w2.heap.size ≤ g ∧ g < w4.heap.size ∧ p4 ≠ some ⟨g, 0, none⟩ := fun g hg => by
        have h := C3.at g hg
        have h2 := C4.1.size
        refine ⟨by omega, by omega, fun e => ?_⟩
        have h3 := C4.at g e
        omega
      have hgw : w4.heap.size < wc.heap.size := Nat.lt_of_lt_of_le hrw.is.lt hb5.size
      have CU := zzunmarked_any p3 p4 len0 len1 nm nr k w2.heap.size w4.heap.size zm zr wc Z0 Z1 HM.out HR.out (by omega) (by omega) (by omega) O3 O4 hne
      have HC : Hid _ := CU
      have R6 : Row wc w4.heap.size len1 (fun i => if i < len zm zr nm k nr then outF zm zr nm k nr i else 0) := hrw.same (hb5.block _ hrw.is.lt)
      have b2c : Below w2.heap.size w2 wc := C3.1.trans ((b34.mono C3.1.size).trans (bq.mono (Nat.le_trans C3.1.size b34.size)))
      have bw' : Below w'.heap.size w' w2 := C1.1.trans (C2.1.mono C1.1.size)
      have P22 := C2.bts
      have HG5 : Hid (∀ g, p5 = some ⟨g, 0, none⟩ → w4.heap.size ≤ g) := fun g hg => by have := (C5.at g hg).1; have := hbw.size; omega
      have hL : len zm zr nm k nr ≤ len1 := by rw [HR.out]; exact len_le zm zr nm k nr
      have HRF : Hid (∀ i, recF zm zr nm k nr i = if i < len zm zr nm k nr then outF zm zr nm k nr i else zr i) := fun i => rfl
      clear CU O3 O4 hne hrw hb5 hbw b34 bq C1 C2 C3 C4 C5 P1 P2
      go_wp2_with fail
      refine Calls.mono HC.out ?_
      rintro e w7 ⟨rfl, OM7, OR7, HF⟩
      clear HC
      have b27 : Below w2.heap.size w2 w7 := b2c.trans ⟨HF.os, HF.tape, HF.output, HF.size, fun i hi => HF.block i (Nat.lt_of_lt_of_le hi b2c.size) (.inl hi)⟩
      have b7 : Below w'.heap.size w' w7 := bw'.trans (b27.mono bw'.size)
      have P27 := P22.below b27
      have R7 : Row w7 w4.heap.size len1 (fun i => if i < len zm zr nm k nr then outF zm zr nm k nr i else 0) := R6.same (HF.block _ hgw (.inr (Nat.le_refl _)))
      have O7 : Own w7 p5 len0 (zeroed zm nm k (reset zm zr nm k nr)) := fun h0 => by
        obtain ⟨g, h1, h2⟩ := O5 h0
        exact ⟨g, h1, h2.same (HF.block g h2.is.lt (.inr (HG5.out g h1)))⟩
      clear b2c bw' P22 b27 R6 O5 HF HG5 hgw
      generalize recF zm zr nm k nr = fR at *
      generalize outF zm zr nm k nr = fO at *
      generalize zeroed zm nm k (reset zm zr nm k nr) = fZ at *
      generalize len zm zr nm k nr = L at *
      have hnn : ((L : Int) != (L : Int)) = false := by simp
      go_wp2_with fail
      clear hnn
      go_loopw [24] (fun i wr => ∃ t : Nat, i = .int .i64 t ∧ t ≤ L ∧ Below w7.heap.size w7 wr) (fun i _ => L - (intOf i).toNat)
      case atStart => exact ⟨0, rfl, Nat.zero_le _, Below.refl _ _⟩
      case round =>
        obtain ⟨t, rfl, ht, hbx⟩ := hrel
        by_cases hlt : t < L
        · obtain ⟨gr, rfl, hrow⟩ := OR7 (by omega)
          have hcA : wr.cell? ⟨gr, t, none⟩ = some (.int .u8 (fO t)) := by
            rw [hbx.cell (p := ⟨gr, t, none⟩) hrow.is.lt, hrow.cell (by omega), HRF.out, if_pos hlt]
          have hcB : wr.cell? ⟨w4.heap.size, t, none⟩ = some (.int .u8 (fO t)) := by
            rw [hbx.cell (p := ⟨w4.heap.size, t, none⟩) R7.is.lt, R7.cell (by omega), if_pos hlt]
          have i1 : (0 : Int) ≤ (t : Int) := by omega
          have i2 : (t : Int) < L := by omega
          have i3 : (t : Int) < len1 := by omega
          have hne : (fO t != fO t) = false := by simp
          clear hrow
          go_wp2
          go_quiet (fail)
          go_wp2
          go_roundw
          case rel => exact ⟨t + 1, by go_num, by omega, below_drewN hbx _⟩
          case measure => simp [intOf]; omega
        · go_wp2
          go_loopw [25] (fun i wx => ∃ t : Nat, i = .int .i64 t ∧ L ≤ t ∧ t ≤ len1 ∧ Below w7.heap.size w7 wx) (fun i _ => len1 - (intOf i).toNat)
          case atStart => exact ⟨L, rfl, Nat.le_refl _, hL, hbx⟩
          case round =>
            clear hbx hlt ht
            obtain ⟨t, rfl, ht1, ht, hbx⟩ := hrel
            by_cases hlt : t < len1
            · obtain ⟨gr, rfl, hrow⟩ := OR7 (by omega)
              obtain ⟨b2, o2, rfl, h2, hc2⟩ := P27.get (by omega)
              have hcA : wr.cell? ⟨gr, t, none⟩ = some (.int .u8 (zr t)) := by
                rw [hbx.cell (p := ⟨gr, t, none⟩) hrow.is.lt, hrow.cell (by omega), HRF.out, if_neg (by omega)]
              have hcB : wr.cell? ⟨b2, o2 + t, none⟩ = some (.int .u8 (zr t)) := (hbx.cell h2).trans (hc2 t hlt)
              have i1 : (0 : Int) ≤ (t : Int) := by omega
              have i3 : (t : Int) < len1 := by omega
              have hne : (zr t != zr t) = false := by simp
              clear hrow hc2
              go_wp2
              go_quiet (fail)
              go_wp2
              go_roundw
              case rel => exact ⟨t + 1, by go_num, by omega, by omega, below_drewN hbx _⟩
              case measure => simp [intOf]; omega
            · go_wp2
              go_loopw [26] (fun i wx => ∃ t : Nat, i = .int .i64 t ∧ t ≤ len0 ∧ Below w7.heap.size w7 wx) (fun i _ => len0 - (intOf i).toNat)
              case atStart => exact ⟨0, rfl, Nat.zero_le _, hbx⟩
              case round =>
                clear hbx hlt ht ht1
                obtain ⟨t, rfl, ht, hbx⟩ := hrel
                by_cases hlt : t < len0
                · obtain ⟨gm, rfl, hrow⟩ := OM7 (by omega)
                  obtain ⟨g5, rfl, hrow5⟩ := O7 (by omega)
                  have hcA : wr.cell? ⟨gm, t, none⟩ = some (.int .u8 (fZ t)) := (hbx.cell (p := ⟨gm, t, none⟩) hrow.is.lt).trans (hrow.cell hlt)
                  have hcB : wr.cell? ⟨g5, t, none⟩ = some (.int .u8 (fZ t)) := (hbx.cell (p := ⟨g5, t, none⟩) hrow5.is.lt).trans (hrow5.cell hlt)
                  have i1 : (0 : Int) ≤ (t : Int) := by omega
                  have i3 : (t : Int) < len0 := by omega
                  have hne : (fZ t != fZ t) = false := by simp
                  clear hrow hrow5
                  go_wp2
                  go_quiet (fail)
                  go_wp2
                  go_roundw
                  case rel => exact ⟨t + 1, by go_num, by omega, below_drewN hbx _⟩
                  case measure => simp [intOf]; omega
                · have hfin : Below w'.heap.size w' wr := b7.trans (hbx.mono b7.size)
                  go_wp2
                  go_ret
                  exact ⟨rfl, hfin⟩

end Go.Proofs.Qxb6602052aMods
