/-
  Seat b6602110aM: a step added to a plan.
-/
import Derived.Test.Qxb6602110aModsEStep
import Derived.OwnWalk
import Derived.Deep.RegionHeld3
import Derived.Deep.RegionLaw
import Derived.Deep.DrawnRows
import Derived.Deep.AppendLies
import Derived.WalkSmall
import Derived.KernelRfl
import Derived.Deep.Heap
namespace Go.Proofs.Qxb6602110aMods
attribute [local go_sem ↓] Go.wp_at_zero Go.wp_at_succ
open Go.RowKit
set_option linter.unusedVariables false

theorem info31 : (Trym.prog.info? 31).map (fun i => (i.zero, i.size, i.bytes)) = some (some (.agg #[.int .i64 0, .string ⟨#[]⟩, .string ⟨#[]⟩, .string ⟨#[]⟩, .string ⟨#[]⟩, .bool false]), 6, 80) := by kernel_rfl

theorem frozen_of_row {w : World} {b : Nat} {C : Array Value} {t : TypeId} (h : w.heap[b]? = some (.cells C t)) (i : Nat) : w.frozen? ⟨b, i, none⟩ = false := by
  simp [World.frozen?, h]

/-- The world at the append: the step's own variable, and the step once more. -/
abbrev atApp (w : World) (s : St) : World := ((w.alloc (.cells #[.int .i64 s.k, .string s.a, .string s.b, .string s.c, .string s.d, .bool s.m] 31)).alloc (.cells #[.int .i64 s.k, .string s.a, .string s.b, .string s.c, .string s.d, .bool s.m] 31)).drew

theorem atApp_new (w : World) (s : St) : ∀ j u, s.cells[j]? = some u → (atApp w s).cell? ((⟨w.heap.size + 1, 0, none⟩ : Addr).add j) = some u :=
  World.news_of_block (cs := #[.int .i64 s.k, .string s.a, .string s.b, .string s.c, .string s.d, .bool s.m]) (t := 31) (fr := (0, 0)) (by
    have h := heap_alloc_new (w.alloc (.cells #[.int .i64 s.k, .string s.a, .string s.b, .string s.c, .string s.d, .bool s.m] 31)) (.cells #[.int .i64 s.k, .string s.a, .string s.b, .string s.c, .string s.d, .bool s.m] 31)
    have e : (atApp w s).heap[w.heap.size + 1]? = ((w.alloc (.cells #[.int .i64 s.k, .string s.a, .string s.b, .string s.c, .string s.d, .bool s.m] 31)).alloc (.cells #[.int .i64 s.k, .string s.a, .string s.b, .string s.c, .string s.d, .bool s.m] 31)).heap[(w.alloc (.cells #[.int .i64 s.k, .string s.a, .string s.b, .string s.c, .string s.d, .bool s.m] 31)).heap.size]? := by simp [World.drew]
    exact e.trans h)

theorem atApp_kept {w w1 : World} {s : St} {p : Nat} {C : Array Value} {t : TypeId} {row : Option Nat} (hp : w.heap[p]? = some (.cells C t)) (hrow : ∀ k, row = some k → p + 1 ≤ k ∧ k < w.heap.size) (hg : (atApp w s).grownBy w1 row) :
    w1.heap[p]? = some (.cells C t) ∧ w1.heap[w.heap.size]? = some (.cells #[.int .i64 s.k, .string s.a, .string s.b, .string s.c, .string s.d, .bool s.m] 31) ∧ Below p w w1 := by
  have hlt : p < w.heap.size := by
    rcases Nat.lt_or_ge p w.heap.size with h | h
    · exact h
    · rw [Array.getElem?_eq_none h] at hp; cases hp
  have hsz : (atApp w s).heap.size = w.heap.size + 2 := by simp
  refine ⟨?_, ?_, ?_⟩
  · rw [hg.block p (by omega) (fun e => by have := hrow p e.symm; omega)]
    show ((w.alloc _).alloc _).heap[p]? = _
    rw [Go.Deep.blk_alloc_lt _ _ _ (by simp; omega), Go.Deep.blk_alloc_lt _ _ _ hlt, hp]
  · rw [hg.block w.heap.size (by omega) (fun e => by have := hrow w.heap.size e.symm; omega)]
    show ((w.alloc _).alloc _).heap[w.heap.size]? = _
    rw [Go.Deep.blk_alloc_lt _ _ _ (by simp), Go.Deep.blk_alloc_new]
  · exact ((((Below.refl p w).alloc (by omega) _).alloc (by simp; omega) _).drew).grown hg (by have := hsz; show p ≤ (atApp w s).heap.size; omega) (fun k hk => by have := hrow k hk; omega)

/-- Between the regions of add. -/
structure Mid (w : World) (p : Nat) (s : St) (n : Nat) (xs : List Value) (gg cap : Nat) (F D L Z : Int) (w2 : World) : Prop where
  below : Below p w w2
  plan : w2.heap[p]? = some (.cells #[.slice (some ⟨gg, 0, none⟩) n cap, .int .i64 F, .int .i64 D, .int .i64 L, .int .i64 Z] 57)
  box : w2.heap[w.heap.size]? = some (.cells #[.int .i64 s.k, .string s.a, .string s.b, .string s.c, .string s.d, .bool s.m] 31)
  own : w2.ownsRow (p + 1) 31 6 (.slice (some ⟨gg, 0, none⟩) n cap) n xs
  lt : p < w.heap.size

theorem lt_of_blk {w : World} {b : Nat} {o : Obj} (h : w.heap[b]? = some o) : b < w.heap.size := by
  rcases Nat.lt_or_ge b w.heap.size with h' | h'
  · exact h'
  · rw [Array.getElem?_eq_none h'] at h; cases h

theorem Mid.set {w : World} {p : Nat} {s : St} {n : Nat} {xs : List Value} {gg cap : Nat} {F D L Z F' D' L' Z' : Int} {w2 : World} (h : Mid w p s n xs gg cap F D L Z w2) (i : Nat) (v : Value)
    (e : (#[.slice (some ⟨gg, 0, none⟩) n cap, .int .i64 F, .int .i64 D, .int .i64 L, .int .i64 Z] : Array Value).setIfInBounds i v = #[.slice (some ⟨gg, 0, none⟩) n cap, .int .i64 F', .int .i64 D', .int .i64 L', .int .i64 Z']) : Mid w p s n xs gg cap F' D' L' Z' (w2.setCell ⟨p, i, none⟩ v) where
  below := h.below.setCell (Nat.le_refl _) _
  plan := by rw [heap_setCell_same _ _ _ _ _ _ h.plan, e]
  box := by rw [heap_setCell_other _ _ _ _ (by have := h.lt; show w.heap.size ≠ p; omega)]; exact h.box
  own := ownsRow_setCell_below h.own (Nat.lt_succ_self _) _
  lt := h.lt

theorem Mid.on {w : World} {p : Nat} {s : St} {n : Nat} {xs : List Value} {gg cap : Nat} {F D L Z : Int} {w2 w3 : World} (h : Mid w p s n xs gg cap F D L Z w2) (hb : Below w2.heap.size w2 w3) : Mid w p s n xs gg cap F D L Z w3 where
  below := h.below.trans (hb.mono (Nat.le_of_lt (lt_of_blk h.plan)))
  plan := by rw [hb.block _ (lt_of_blk h.plan)]; exact h.plan
  box := by rw [hb.block _ (lt_of_blk h.box)]; exact h.box
  own := h.own.kept ⟨hb.os, hb.tape, hb.output, hb.size, fun k hk _ => hb.block k hk⟩ (row := none) (.inr (by simp [Value.ownBlock]))
  lt := h.lt

theorem Mid.start {w w1 : World} {p : Nat} {s : St} {n cp : Nat} {a : Option Addr} {xs : List Value} {gg cap : Nat} {F D L Z : Int} {row : Option Nat} {n' : Nat} (hp : w.heap[p]? = some (.cells #[.slice a n' cp, .int .i64 F, .int .i64 D, .int .i64 L, .int .i64 Z] 57))
    (hrow : ∀ k, row = some k → p + 1 ≤ k ∧ k < w.heap.size) (hg : (atApp w s).grownBy w1 row) (hown : w1.ownsRow (p + 1) 31 6 (.slice (some ⟨gg, 0, none⟩) n cap) n xs) : Mid w p s n xs gg cap F D L Z (w1.setCell ⟨p, 0, none⟩ (.slice (some ⟨gg, 0, none⟩) n cap)) := by
  obtain ⟨h1, h2, h3⟩ := atApp_kept hp hrow hg
  have hlt := lt_of_blk hp
  exact { below := h3.setCell (Nat.le_refl _) _
          plan := by rw [heap_setCell_same _ _ _ _ _ _ h1]; rfl
          box := by rw [heap_setCell_other _ _ _ _ (by show w.heap.size ≠ p; omega)]; exact h2
          own := ownsRow_setCell_below hown (Nat.lt_succ_self _) _
          lt := hlt }

/-- What stands behind an add: the plan's block bears a new slice, which holds one step more. -/
def AddPost (w : World) (p : Nat) (s : St) (n : Nat) (xs : List Value) (e : Ending) (w' : World) : Prop :=
  ∃ g cap F D L Z, e = .returned (.tuple #[]) ∧ Mid w p s n xs g cap F D L Z w'

set_option maxRecDepth 100000 in
set_option maxHeartbeats 3200000 in
theorem add33 (p : Nat) (a : Option Addr) (n cp : Nat) (F D L Z : Int) (xs : List Value) (s : St) (w : World) (hn : n ≤ 13107)
    (hp : w.heap[p]? = some (.cells #[.slice a n cp, .int .i64 F, .int .i64 D, .int .i64 L, .int .i64 Z] 57)) (hown : w.ownsRow (p + 1) 31 6 (.slice a n cp) n xs) :
    Calls Trym.prog 33 #[.pointer (some ⟨p, 0, none⟩), .agg #[.int .i64 s.k, .string s.a, .string s.b, .string s.c, .string s.d, .bool s.m]] w (AddPost w p s (n + 1) (xs ++ s.cells)) := by
  obtain ⟨i0, hi0, hz0, hz1, hz2⟩ := info_parts info31
  have hp0 : w.cell? ⟨p, 0, none⟩ = some (.slice a n cp) := cell_of_row w p 0 _ _ _ hp
  have hlt : p < w.heap.size := World.block_lt_of_cell? w _ hp0
  have hu := Trym.underlying55
  have hrow : ∀ k, (Value.slice a n cp).ownBlock = some k → p + 1 ≤ k ∧ k < w.heap.size := hown.lt
  have hownA : (atApp w s).ownsRow (p + 1) 31 6 (.slice a n cp) n xs := (((hown.alloc _).alloc _).drew)
  go_enter Trym.func33, Trym.ntmps33
  go_wp2
  rename_i K hK
  have HK : ∀ (gg cap : Nat) (w2 : World), Mid w p s (n + 1) (xs ++ s.cells) gg cap F D L Z w2 → K { tmps := #[.pointer (some ⟨p, 0, none⟩), .agg #[.int .i64 s.k, .string s.a, .string s.b, .string s.c, .string s.d, .bool s.m], undef, .pointer (some ⟨w.heap.size, 0, none⟩), .pointer (some ⟨p, 0, none⟩), .pointer (some ⟨p, 0, none⟩), .pointer (some ⟨p, 0, none⟩), .pointer (some ⟨p, 0, none⟩), .slice a n cp, .agg #[.int .i64 s.k, .string s.a, .string s.b, .string s.c, .string s.d, .bool s.m], .slice (some ⟨w.heap.size + 1, 0, none⟩) 1 1, .slice (some ⟨gg, 0, none⟩) (n + 1) cap, .pointer (some ⟨p, 0, none⟩), .pointer (some ⟨p, 0, none⟩), undef, undef, undef, undef, undef, undef, undef, undef, undef, undef, undef, undef, undef, undef, undef, undef, undef, undef, undef, undef, undef, undef, undef, undef, undef, undef, undef, undef, undef, undef, undef, undef, undef, undef, undef, undef, undef, undef], defers := [] } w2 := by
    intro gg cap w2 hm
    apply hK
    clear hK
    have HM : Hid (Mid w p s (n + 1) (xs ++ s.cells) gg cap F D L Z w2) := hm
    have q1 : w2.cell? ⟨p, 4, none⟩ = some (.int .i64 Z) := cell_of_row w2 p 4 _ _ _ hm.plan
    have q2 : w2.frozen? ⟨p, 4, none⟩ = false := frozen_of_row hm.plan 4
    have b0 : w2.cell? ⟨w.heap.size, 0, none⟩ = some (.int .i64 s.k) := cell_of_row w2 _ 0 _ _ _ hm.box
    have b1 : w2.cell? ⟨w.heap.size, 1, none⟩ = some (.string s.a) := cell_of_row w2 _ 1 _ _ _ hm.box
    have b2 : w2.cell? ⟨w.heap.size, 2, none⟩ = some (.string s.b) := cell_of_row w2 _ 2 _ _ _ hm.box
    have b3 : w2.cell? ⟨w.heap.size, 3, none⟩ = some (.string s.c) := cell_of_row w2 _ 3 _ _ _ hm.box
    have b4 : w2.cell? ⟨w.heap.size, 4, none⟩ = some (.string s.d) := cell_of_row w2 _ 4 _ _ _ hm.box
    have b5 : w2.cell? ⟨w.heap.size, 5, none⟩ = some (.bool s.m) := cell_of_row w2 _ 5 _ _ _ hm.box
    clear hm hp hp0 hrow hownA hown hi0 hz0 hz1 hz2 i0
    have QF : ∀ wy, Below w2.heap.size w2 wy → wy.cell? ⟨p, 4, none⟩ = some (.int .i64 Z) ∧ wy.frozen? ⟨p, 4, none⟩ = false := fun wy h => ⟨cell_of_row wy p 4 _ _ _ (HM.out.on h).plan, frozen_of_row (HM.out.on h).plan 4⟩
    have HQ : Hid (∀ wy, Below w2.heap.size w2 wy → wy.cell? ⟨p, 4, none⟩ = some (.int .i64 Z) ∧ wy.frozen? ⟨p, 4, none⟩ = false) := QF
    clear QF
    go_wp2_with fail
    rename_i K2 hK2
    have HK2 : ∀ (r : Int) (w3 : World), Mid w p s (n + 1) (xs ++ s.cells) gg cap F D L (IntKind.i64.wrap (Z + r)) w3 → K2 { tmps := #[.pointer (some ⟨p, 0, none⟩), .agg #[.int .i64 s.k, .string s.a, .string s.b, .string s.c, .string s.d, .bool s.m], undef, .pointer (some ⟨w.heap.size, 0, none⟩), .pointer (some ⟨p, 0, none⟩), .pointer (some ⟨p, 0, none⟩), .pointer (some ⟨p, 0, none⟩), .pointer (some ⟨p, 0, none⟩), .slice a n cp, .agg #[.int .i64 s.k, .string s.a, .string s.b, .string s.c, .string s.d, .bool s.m], .slice (some ⟨w.heap.size + 1, 0, none⟩) 1 1, .slice (some ⟨gg, 0, none⟩) (n + 1) cap, .pointer (some ⟨p, 0, none⟩), .pointer (some ⟨p, 0, none⟩), .pointer (some ⟨p, 0, none⟩), .pointer (some ⟨p, 0, none⟩), .pointer (some ⟨p, 4, none⟩), .int .i64 Z, .agg #[.int .i64 s.k, .string s.a, .string s.b, .string s.c, .string s.d, .bool s.m], .int .i64 r, .int .i64 (IntKind.i64.wrap (Z + r)), .pointer (some ⟨p, 0, none⟩), .pointer (some ⟨p, 4, none⟩), undef, undef, undef, undef, undef, undef, undef, undef, undef, undef, undef, undef, undef, undef, undef, undef, undef, undef, undef, undef, undef, undef, undef, undef, undef, undef, undef, undef, undef], defers := [] } w3 := by
      intro r w3 hm
      apply hK2
      clear hK2 HQ q1 q2 b0 b1 b2 b3 b4 b5 HM
      have b0 : w3.cell? ⟨w.heap.size, 0, none⟩ = some (.int .i64 s.k) := cell_of_row w3 _ 0 _ _ _ hm.box
      have q1 : w3.cell? ⟨p, 1, none⟩ = some (.int .i64 F) := cell_of_row w3 p 1 _ _ _ hm.plan
      have q2 : w3.cell? ⟨p, 2, none⟩ = some (.int .i64 D) := cell_of_row w3 p 2 _ _ _ hm.plan
      have q3 : w3.cell? ⟨p, 3, none⟩ = some (.int .i64 L) := cell_of_row w3 p 3 _ _ _ hm.plan
      have z1 : w3.frozen? ⟨p, 1, none⟩ = false := frozen_of_row hm.plan 1
      have z2 : w3.frozen? ⟨p, 2, none⟩ = false := frozen_of_row hm.plan 2
      have z3 : w3.frozen? ⟨p, 3, none⟩ = false := frozen_of_row hm.plan 3
      have HM : Hid (Mid w p s (n + 1) (xs ++ s.cells) gg cap F D L (IntKind.i64.wrap (Z + r)) w3) := hm
      clear hm
      by_cases k1 : s.k = 1
      · have t1 : (s.k == 1) = true := by simp [k1]
        go_wp2
        exact bodyPost_end (v := .tuple #[]) (by simp [results, Trym.results33]) rfl ⟨gg, cap, F, _, L, _, rfl, HM.out.set 2 _ rfl⟩
      have t1 : (s.k == 1) = false := by simp [k1]
      by_cases k2 : s.k = 0
      · have t2 : (s.k == 0) = true := by simp [k2]
        go_wp2
        exact bodyPost_end (v := .tuple #[]) (by simp [results, Trym.results33]) rfl ⟨gg, cap, _, D, L, _, rfl, HM.out.set 1 _ rfl⟩
      have t2 : (s.k == 0) = false := by simp [k2]
      by_cases k3 : s.k = 2
      · have t3 : (s.k == 2) = true := by simp [k3]
        go_wp2
        exact bodyPost_end (v := .tuple #[]) (by simp [results, Trym.results33]) rfl ⟨gg, cap, F, D, _, _, rfl, HM.out.set 3 _ rfl⟩
      have t3 : (s.k == 2) = false := by simp [k3]
      go_wp2
      exact bodyPost_end (v := .tuple #[]) (by simp [results, Trym.results33]) rfl ⟨gg, cap, F, D, L, _, rfl, HM.out⟩
    go_region_with (go_at_call 43; refine (size43 s _).mono ?_; rintro e wy ⟨r, rfl, hby⟩; have hbw : Below w2.heap.size w2 wy := ⟨hby.os, hby.tape, hby.output, hby.size, hby.block⟩; have hq1 := (HQ.out wy hbw).1; have hq2 := (HQ.out wy hbw).2; clear hby)
    all_goals exact HK2 r _ ((HM.out.on hbw).set 4 _ rfl)
  go_region_law (refine step_append_lies _ (by rfl) _ _ _ (by rfl) (p + 1) 31 i0 _ 6 80 hu hi0 hz0 hz1 hz2 rfl (by omega) (.slice a n cp) n xs (by rfl) hownA ⟨w.heap.size + 1, 0, none⟩ 1 1 s.cells (by rfl) (by rfl) (atApp_new w s) (by simp [Value.oneCell', St.cells]) (by omega) (by simp [maxLen]; omega) (by omega) (by simp; omega) (w.heap.size + 2) (by simp) ?_; intro gg cap w1 hown1 hgrow hat hgl; have hk1 := (atApp_kept hp hrow hgrow).1; have hk2 := cell_of_row w1 p 0 _ _ _ hk1; have hk3 := frozen_of_row hk1 0)
  all_goals exact HK gg cap _ (Mid.start hp hrow hgrow hown1)

/-- A plan in memory: its block, and the row of its steps, which lies behind it. -/
def Plan (w : World) (p n : Nat) (xs : List Value) : Prop := ∃ a cp F D L Z, w.heap[p]? = some (.cells #[.slice a n cp, .int .i64 F, .int .i64 D, .int .i64 L, .int .i64 Z] 57) ∧ w.ownsRow (p + 1) 31 6 (.slice a n cp) n xs

def AddedPost (w : World) (p n : Nat) (xs : List Value) (e : Ending) (w' : World) : Prop := e = .returned (.tuple #[]) ∧ Below p w w' ∧ Plan w' p n xs

set_option maxRecDepth 100000 in
theorem add14 (p n : Nat) (xs : List Value) (s : St) (w : World) (hn : n ≤ 13107) (h : Plan w p n xs) :
    Calls Trym.prog 14 #[.pointer (some ⟨p, 0, none⟩), .agg #[.int .i64 s.k, .string s.a, .string s.b, .string s.c, .string s.d, .bool s.m]] w (AddedPost w p (n + 1) (xs ++ s.cells)) := by
  obtain ⟨a, cp, F, D, L, Z, hp, hown⟩ := h
  have hlt := lt_of_blk hp
  have hp' : (w.alloc (.cells #[.int .i64 s.k, .string s.a, .string s.b, .string s.c, .string s.d, .bool s.m] 31)).heap[p]? = some (.cells #[.slice a n cp, .int .i64 F, .int .i64 D, .int .i64 L, .int .i64 Z] 57) := by
    rw [Go.Deep.blk_alloc_lt _ _ _ hlt, hp]
  have HC : Hid _ := add33 p a n cp F D L Z xs s _ hn hp' (hown.alloc _)
  clear hp' hp hown
  go_enter Trym.func14, Trym.ntmps14
  go_wp2_with fail
  refine Calls.mono HC.out ?_
  rintro e wx ⟨g, cap, F', D', L', Z', rfl, hm⟩
  have hb : Below p w wx := ((Below.refl p w).alloc (Nat.le_of_lt hlt) _).trans hm.below
  have hP : Plan wx p (n + 1) (xs ++ s.cells) := ⟨_, _, _, _, _, _, hm.plan, hm.own⟩
  clear hm HC
  go_wp2
  exact bodyPost_end (v := .tuple #[]) (by simp [results, Trym.results14]) rfl ⟨rfl, hb, hP⟩

end Go.Proofs.Qxb6602110aMods
