/-
  Seat b6602052aM: the walk of 'shift' over a row of the call's own.
-/
import Derived.Test.Qxb6602052aModsBase
import Derived.Laws.CopyOwn
namespace Go.Proofs.Qxb6602052aMods
open Go.RowKit
set_option linter.unusedVariables false

def rowL (n : Nat) (f : Nat → Int) : List Value := (List.range n).map fun i => .int .u8 (f i)
theorem rowL_len (n : Nat) (f : Nat → Int) : (rowL n f).length = n := by simp [rowL]
theorem rowL_get (n : Nat) (f : Nat → Int) (j : Nat) (hj : j < n) : (rowL n f)[j]? = some (.int .u8 (f j)) := by simp [rowL, hj]
theorem rowL_one (n : Nat) (f : Nat → Int) : ∀ u ∈ rowL n f, u.oneCell' = true := by
  intro u hu
  simp only [rowL, List.mem_map] at hu
  obtain ⟨i, _, rfl⟩ := hu
  rfl
theorem rowL_ext {n : Nat} {f : Nat → Int} {L : List Value} (hl : L.length = n) (h : ∀ j, j < n → L[j]? = some (.int .u8 (f j))) : L = rowL n f := by
  apply List.ext_getElem?
  intro j
  by_cases hj : j < n
  · rw [h j hj, rowL_get n f j hj]
  · rw [List.getElem?_eq_none (by omega), List.getElem?_eq_none (by rw [rowL_len]; omega)]
theorem rowL_congr {n : Nat} {f g : Nat → Int} (h : ∀ j, j < n → f j = g j) : rowL n f = rowL n g :=
  rowL_ext (rowL_len _ _) (fun j hj => by rw [rowL_get n f j hj, h j hj])

/-- Block g is a row of n bytes f. -/
def Row (w : World) (g n : Nat) (f : Nat → Int) : Prop := w.heap[g]? = some (.cells (rowL n f).toArray 5 (0, 0))

theorem Row.of {w : World} {g n : Nat} {f : Nat → Int} (h : w.rowIs g 5 n (fun i => .int .u8 (f i))) : Row w g n f := by
  obtain ⟨c, hb, hn, hc⟩ := h
  have : c.toList = rowL n f := rowL_ext (by simpa using hn) (fun j hj => by simpa using hc j hj)
  unfold Row
  rw [hb, ← this]
theorem Row.is {w : World} {g n : Nat} {f : Nat → Int} (h : Row w g n f) : w.rowIs g 5 n (fun i => .int .u8 (f i)) :=
  ⟨_, h, by simp [rowL], fun i hi => by simp [rowL, hi]⟩
theorem Row.cell {w : World} {g n : Nat} {f : Nat → Int} (h : Row w g n f) {i : Nat} (hi : i < n) : w.cell? ⟨g, i, none⟩ = some (.int .u8 (f i)) := h.is.cell hi
theorem Row.congr {w : World} {g n : Nat} {f f' : Nat → Int} (h : Row w g n f) (e : ∀ j, j < n → f j = f' j) : Row w g n f' := by
  unfold Row
  rw [← rowL_congr e]
  exact h
theorem Row.same {w w' : World} {g n : Nat} {f : Nat → Int} (h : Row w g n f) (e : w'.heap[g]? = w.heap[g]?) : Row w' g n f := e.trans h

theorem splice_row (n off m : Nat) (f h : Nat → Int) (hm : off + m ≤ n) : splice (rowL n f) off (rowL m h) = rowL n (fun i => if off ≤ i ∧ i < off + m then h (i - off) else f i) := by
  refine rowL_ext ?_ ?_
  · rw [length_splice _ _ _ (by rw [rowL_len, rowL_len]; exact hm), rowL_len]
  · intro j hj
    have hl : (List.take off (rowL n f)).length = off := by rw [List.length_take, rowL_len]; omega
    unfold splice
    by_cases h1 : j < off
    · rw [List.getElem?_append_left (by omega), List.getElem?_take, if_pos h1, rowL_get n f j hj]
      rw [if_neg (by omega)]
    · rw [List.getElem?_append_right (by omega), hl]
      by_cases h2 : j < off + m
      · rw [List.getElem?_append_left (by rw [rowL_len]; omega), rowL_get m h _ (by omega), if_pos (by omega)]
      · rw [List.getElem?_append_right (by rw [rowL_len]; omega), rowL_len, List.getElem?_drop, rowL_get n f _ (by omega), if_neg (by omega)]
        congr 3
        omega

theorem Trym.size5 : (Trym.prog.info? 5).map (·.size) = some 1 := by kernel_rfl

theorem Trym.zero5 : ∀ w, (zeroValue 5).run Trym.prog w = .ok (.int .u8 0) w := fun w => by
  obtain ⟨i, hi, hz0, _⟩ := info_parts Trym.info5
  simp [zeroValue, typeInfo, hi, hz0]

/-- 'clear(s)' as a law for the walk. -/
theorem wpList_clear {P : Program} {w : World} {ops : Array Oper} {rest : List Oper} {o : Oper} {a : Act} {Q : Exit → Act → World → Prop} (hgd : o.guard = none) (s : Operand) (t : TypeId)
    (ho : o.op = .call { callee := .builtin .clear, args := #[s], argTypes := #[t] }) (e : TypeId) (z : Value) (ht : P.underlying t = some (.slice e)) (hv : ∀ w, (zeroValue e).run P w = .ok z w) (hz : z.cells = #[z]) (h1 : z.oneCell' = true)
    (b off n c : Nat) (hs : a.eval s = .slice (some ⟨b, off, none⟩) n c) (hn : 0 < n) (hc : ∀ j, j < n → (w.cell? ⟨b, off + j, none⟩).isSome = true) (hf : ∀ j, j < n → w.frozen? ⟨b, off + j, none⟩ = false)
    (h : wpList P ops Q rest (a.put o.dst (.tuple #[])) (w.setCells b off (List.replicate n z))) : wpList P ops Q (o :: rest) a w := by
  refine wpList_plain hgd fun K hK => ?_
  have hrun := Lib.run_clear_slice (P := P) w t e o.type z ht hv hz h1 b off n c hn hc hf
  unfold Oper.wp
  simp [execOp, ho, resolve, invoke, builtin, hs, hrun, Result.andThen]
  exact hK _ _ h

theorem rowIs_setCells {g n : Nat} {t : TypeId} : ∀ (vs : List Value) (o : Nat) (w : World) (f : Nat → Value), w.rowIs g t n f → (w.setCells g o vs).rowIs g t n (fun j => if o ≤ j then (vs[j - o]?).getD (f j) else f j)
  | [], o, w, f, h => h.congr (fun i hi => by simp)
  | v :: r, o, w, f, h => by
    rw [World.setCells]
    refine (rowIs_setCells r (o + 1) _ _ (h.set o v)).congr (fun i hi => ?_)
    by_cases h1 : i = o
    · subst h1
      rw [if_neg (by omega), if_pos rfl, if_pos (Nat.le_refl _), Nat.sub_self]
      rfl
    · by_cases h2 : o + 1 ≤ i
      · obtain ⟨k, rfl⟩ : ∃ k, i = o + 1 + k := ⟨i - (o + 1), by omega⟩
        rw [if_pos h2, if_neg h1, if_pos (by omega), show o + 1 + k - (o + 1) = k by omega, show o + 1 + k - o = k + 1 by omega, List.getElem?_cons_succ]
      · rw [if_neg h2, if_neg h1, if_neg (by omega)]

theorem Row.cleared {w : World} {g n : Nat} {f : Nat → Int} (h : Row w g n f) (o m : Nat) : Row (w.setCells g o (List.replicate m (.int .u8 0))) g n (fun j => if o ≤ j ∧ j < o + m then 0 else f j) := by
  refine Row.of ((rowIs_setCells _ o w _ h.is).congr (fun i hi => ?_))
  by_cases h1 : o ≤ i
  · rw [if_pos h1]
    by_cases h2 : i < o + m
    · rw [if_pos ⟨h1, h2⟩, List.getElem?_replicate_of_lt (by omega)]
      rfl
    · rw [if_neg (by omega), List.getElem?_eq_none (by simp; omega)]
      rfl
  · rw [if_neg h1, if_neg (by omega)]

theorem Below.setCells {B : Nat} {a : World} (b : Nat) (hb : B ≤ b) : ∀ (vs : List Value) (o : Nat) (w : World), Below B a w → Below B a (w.setCells b o vs)
  | [], o, w, h => h
  | v :: r, o, w, h => by
    rw [World.setCells]
    exact Below.setCells b hb r (o + 1) _ (h.setCell hb v)

/-- The cells that a copy reads. -/
theorem src_cells {w : World} {g cap fr n : Nat} {f : Nat → Int} (h : Row w g cap f) (hfit : fr + n ≤ cap) (ad : Addr) (had : ad = ⟨g, fr, none⟩) : ∀ j v, (rowL n (fun j => f (fr + j)))[j]? = some v → w.cell? (ad.add j) = some v := by
  intro j v hj
  subst had
  have hlt : j < n := by
    have := (List.getElem?_eq_some_iff.1 hj).1
    rwa [rowL_len] at this
  rw [rowL_get _ _ _ hlt] at hj
  rw [Addr.add_lit, h.cell (by omega)]
  exact hj

theorem Row.drew {w : World} {g n : Nat} {f : Nat → Int} (h : Row w g n f) : Row w.drew g n f := h

/-- 'copy' inside one row of bytes, as one step of a region that draws its order. -/
theorem step_copy_row {ops : Array Oper} {o : Oper} {a : Act} {w : World} {K : Act → World → Prop} {Q : Exit → Act → World → Prop} {E : Prop} (hgd : o.guard = none) (d s : Operand)
    (ho : o.op = .call { callee := .builtin .copy, args := #[d, s], argTypes := #[22, 22] })
    (dp sp : Option Addr) (dLen dCap sLen sCap : Nat) (hd : a.eval d = .slice dp dLen dCap) (hs : a.eval s = .slice sp sLen sCap)
    (g off src m cap : Nat) (f : Nat → Int) (hrow : Row w g cap f) (hm : m = Nat.min sLen dLen) (hpos : 0 < m → dp = some ⟨g, off, none⟩ ∧ sp = some ⟨g, src, none⟩)
    (hfit : off + m ≤ cap) (hfit2 : src + m ≤ cap) (B : Nat) (w0 : World) (hb : RowKit.Below B w0 w) (hBg : B ≤ g)
    (h : ∀ w', Row w' g cap (fun i => if off ≤ i ∧ i < off + m then f (src + (i - off)) else f i) → RowKit.Below B w0 w' → K (a.put o.dst (goInt m)) w') :
    if Region.wanted o (yielded ops a.tmps) = true then Oper.wp Trym.prog o a w K Q else E := by
  refine step_copy_splice hgd d s 22 22 ho 5 Trym.underlying22 Trym.size5 dp sp dLen dCap sLen sCap hd hs g off (rowL cap f) 5 hrow (rowL m (fun j => f (src + j))) (by rw [rowL_len]; exact hm) ?_ (by rw [rowL_len, rowL_len]; exact hfit) (rowL_one _ _) B w0 hb hBg ?_
  · intro h0
    rw [rowL_len] at h0
    exact ⟨(hpos h0).1, _, (hpos h0).2, src_cells hrow hfit2 _ rfl⟩
  · intro w' hg' hb'
    rw [rowL_len]
    refine h w' ?_ hb'
    have := hg'.out
    rw [splice_row _ _ _ _ _ hfit] at this
    exact this

theorem up_eq {fr to n : Nat} (f : Nat → Int) (hft : fr < to) (j : Nat) : (if fr ≤ j ∧ j < fr + (to - fr) then 0 else if to ≤ j ∧ j < to + n then f (fr + (j - to)) else f j) = (if j < fr then f j else if j < to then 0 else if j < to + n then f (j - (to - fr)) else f j) := by
  by_cases h1 : j < fr
  · rw [if_neg (by omega), if_neg (by omega), if_pos h1]
  · rw [if_neg h1]
    by_cases h2 : j < to
    · rw [if_pos (by omega), if_pos h2]
    · rw [if_neg (by omega), if_neg h2]
      by_cases h3 : j < to + n
      · rw [if_pos (by omega), if_pos h3]
        congr 1
        omega
      · rw [if_neg (by omega), if_neg h3]
theorem dn_eq {fr to n : Nat} (f : Nat → Int) (hft : to < fr) (j : Nat) : (if to ≤ j ∧ j < to + n then f (fr + (j - to)) else f j) = (if j < to then f j else if j < to + n then f (j + (fr - to)) else f j) := by
  by_cases h1 : j < to
  · rw [if_neg (by omega), if_pos h1]
  · rw [if_neg h1]
    by_cases h3 : j < to + n
    · rw [if_pos (by omega), if_pos h3]
      congr 1
      omega
    · rw [if_neg (by omega), if_neg h3]

set_option maxHeartbeats 400000 in
theorem shift_up1 (g n cap fr to : Nat) (f : Nat → Int) (w : World) (hrow : Row w g cap f) (hft : fr < to) (hfit : to + n ≤ cap) (hx : to < cap) (hc : cap ≤ 4000000) :
    Calls Trym.prog 20 #[.slice (some ⟨g, 0, none⟩) (fr + n) cap, .int .i64 fr, .int .i64 to] w fun e w' => e = .returned (.slice (some ⟨g, 0, none⟩) (to + n) cap) ∧ Below g w w' ∧
      Row w' g cap (fun i => if i < fr then f i else if i < to then 0 else if i < to + n then f (i - (to - fr)) else f i) := by
  have h1 : ((to : Int) == (fr : Int)) = false := by simp; omega
  have s1 : fr + n - fr = n := by omega
  have s2 : (fr : Int) + n - fr = n := by omega
  have s3 : to + n - to = n := by omega
  have hct : ¬ cap = to := by omega
  have hcf : ¬ cap = fr := by omega
  have i1 : (to : Int) ≤ to + n := by omega
  have i2 : (fr : Int) ≤ fr + n := by omega
  have i3 : (fr : Int) + n ≤ cap := by omega
  have i4 : IntKind.i64.wrap ((fr : Int) + n) = fr + n := IntWalk.i64_in _ (by omega)
  have i5 : ((fr : Int) + n).toNat = fr + n := by omega
  go_enter Trym.func20, Trym.ntmps20
  go_wp2_with fail
  go_region_law (refine step_copy_row (by rfl) (.tmp 39) (.tmp 45) (by rfl) (some ⟨g, to, none⟩) (some ⟨g, fr, none⟩) n (cap - to) n (cap - fr) (by simp [Act.eval, Act.put]) (by simp [Act.eval, Act.put]) g to fr n cap f (by exact hrow) (by simp) (by intro h0; first | exact ⟨rfl, rfl⟩ | omega) (by omega) (by omega) g w (by exact (Below.refl _ _).drew) (Nat.le_refl _) ?_; intro w2 hg2 hb2)
  clear hrow
  have HC1 : Hid (∀ j, j < to - fr → (w2.cell? ⟨g, fr + j, none⟩).isSome = true) := fun j hj => by rw [hg2.cell (by omega)]; rfl
  have HC2 : Hid (∀ j, j < to - fr → w2.frozen? ⟨g, fr + j, none⟩ = false) := fun j hj => hg2.is.frozen _
  have hg3 := (hg2.cleared fr (to - fr)).congr (f' := fun i => if i < fr then f i else if i < to then 0 else if i < to + n then f (i - (to - fr)) else f i) (fun j hj => up_eq f hft j)
  have hb3 := Below.setCells g (Nat.le_refl _) (List.replicate (to - fr) (.int .u8 0)) fr w2 hb2
  clear hg2
  go_wp2_with (refine wpList_clear rfl _ 22 rfl 5 (.int .u8 0) Trym.underlying22 Trym.zero5 rfl rfl g fr (to - fr) _ (by rfl) (by omega) HC1.out HC2.out ?_)
  go_ret
  exact ⟨rfl, hb3, hg3⟩

set_option maxHeartbeats 400000 in
theorem shift_up2 (g fr to : Nat) (f : Nat → Int) (w : World) (hrow : Row w g to f) (hft : fr < to) (hc : to ≤ 4000000) :
    Calls Trym.prog 20 #[.slice (some ⟨g, 0, none⟩) fr to, .int .i64 fr, .int .i64 to] w fun e w' => e = .returned (.slice (some ⟨g, 0, none⟩) to to) ∧ Below g w w' ∧
      Row w' g to (fun i => if i < fr then f i else if i < to then 0 else if i < to + 0 then f (i - (to - fr)) else f i) := by
  have h1 : ((to : Int) == (fr : Int)) = false := by simp; omega
  have hcf : ¬ to = fr := by omega
  have i1 : (fr : Int) ≤ to := by omega
  have i4 : IntKind.i64.wrap (fr : Int) = fr := IntWalk.i64_in _ (by omega)
  go_enter Trym.func20, Trym.ntmps20
  go_wp2_with fail
  go_region_law (refine step_copy_row (by rfl) (.tmp 39) (.tmp 45) (by rfl) (some ⟨g, 0, none⟩) (some ⟨g, fr, none⟩) 0 0 0 (to - fr) (by simp [Act.eval, Act.put]) (by simp [Act.eval, Act.put]) g to fr 0 to f (by exact hrow) (by simp) (by intro h0; omega) (by omega) (by omega) g w (by exact (Below.refl _ _).drew) (Nat.le_refl _) ?_; intro w2 hg2 hb2)
  clear hrow
  have HC1 : Hid (∀ j, j < to - fr → (w2.cell? ⟨g, fr + j, none⟩).isSome = true) := fun j hj => by rw [hg2.cell (by omega)]; rfl
  have HC2 : Hid (∀ j, j < to - fr → w2.frozen? ⟨g, fr + j, none⟩ = false) := fun j hj => hg2.is.frozen _
  have hg3 := (hg2.cleared fr (to - fr)).congr (f' := fun i => if i < fr then f i else if i < to then 0 else if i < to + 0 then f (i - (to - fr)) else f i) (fun j hj => up_eq f hft j)
  have hb3 := Below.setCells g (Nat.le_refl _) (List.replicate (to - fr) (.int .u8 0)) fr w2 hb2
  clear hg2
  go_wp2_with (refine wpList_clear rfl _ 22 rfl 5 (.int .u8 0) Trym.underlying22 Trym.zero5 rfl rfl g fr (to - fr) _ (by rfl) (by omega) HC1.out HC2.out ?_)
  go_ret
  exact ⟨rfl, hb3, hg3⟩

set_option maxHeartbeats 400000 in
theorem shift_dn1 (g n cap fr to : Nat) (f : Nat → Int) (w : World) (hrow : Row w g cap f) (hft : to < fr) (hfit : fr + n ≤ cap) (hx : fr < cap) (hc : cap ≤ 4000000) :
    Calls Trym.prog 20 #[.slice (some ⟨g, 0, none⟩) (fr + n) cap, .int .i64 fr, .int .i64 to] w fun e w' => e = .returned (.slice (some ⟨g, 0, none⟩) (to + n) cap) ∧ Below g w w' ∧
      Row w' g cap (fun i => if i < to then f i else if i < to + n then f (i + (fr - to)) else f i) := by
  have h1 : ((to : Int) == (fr : Int)) = false := by simp; omega
  have s1 : fr + n - fr = n := by omega
  have s2 : (fr : Int) + n - fr = n := by omega
  have hct : ¬ cap = to := by omega
  have hcf : ¬ cap = fr := by omega
  have i1 : (to : Int) ≤ fr + n := by omega
  have i2 : (fr : Int) ≤ fr + n := by omega
  have i3 : (fr : Int) + n ≤ cap := by omega
  go_enter Trym.func20, Trym.ntmps20
  go_wp2_with fail
  go_region_law (refine step_copy_row (by rfl) (.tmp 14) (.tmp 17) (by rfl) (some ⟨g, to, none⟩) (some ⟨g, fr, none⟩) (fr + n - to) (cap - to) n (cap - fr) (by simp [Act.eval, Act.put]) (by simp [Act.eval, Act.put]) g to fr n cap f (by exact hrow) (by show n = min n _; omega) (by intro h0; first | exact ⟨rfl, rfl⟩ | omega) (by omega) (by omega) g w (by exact (Below.refl _ _).drew) (Nat.le_refl _) ?_; intro w2 hg2 hb2)
  clear hrow
  have hg3 := hg2.congr (f' := fun i => if i < to then f i else if i < to + n then f (i + (fr - to)) else f i) (fun j hj => dn_eq f hft j)
  clear hg2
  go_wp2
  go_ret
  exact ⟨rfl, hb2, hg3⟩

set_option maxHeartbeats 400000 in
theorem shift_dn2 (g fr to : Nat) (f : Nat → Int) (w : World) (hrow : Row w g fr f) (hft : to < fr) (hc : fr ≤ 4000000) :
    Calls Trym.prog 20 #[.slice (some ⟨g, 0, none⟩) fr fr, .int .i64 fr, .int .i64 to] w fun e w' => e = .returned (.slice (some ⟨g, 0, none⟩) to fr) ∧ Below g w w' ∧
      Row w' g fr (fun i => if i < to then f i else if i < to + 0 then f (i + (fr - to)) else f i) := by
  have h1 : ((to : Int) == (fr : Int)) = false := by simp; omega
  have hct : ¬ fr = to := by omega
  have i1 : (to : Int) ≤ fr := by omega
  go_enter Trym.func20, Trym.ntmps20
  go_wp2_with fail
  go_region_law (refine step_copy_row (by rfl) (.tmp 14) (.tmp 17) (by rfl) (some ⟨g, to, none⟩) (some ⟨g, 0, none⟩) (fr - to) (fr - to) 0 0 (by simp [Act.eval, Act.put]) (by simp [Act.eval, Act.put]) g to fr 0 fr f (by exact hrow) (by show 0 = min 0 _; omega) (by intro h0; omega) (by omega) (by omega) g w (by exact (Below.refl _ _).drew) (Nat.le_refl _) ?_; intro w2 hg2 hb2)
  clear hrow
  have hg3 := hg2.congr (f' := fun i => if i < to then f i else if i < to + 0 then f (i + (fr - to)) else f i) (fun j hj => dn_eq f hft j)
  clear hg2
  go_wp2
  go_ret
  exact ⟨rfl, hb2, hg3⟩

/-- What 'shift' makes of a row. -/
def shf (f : Nat → Int) (fr to n i : Nat) : Int :=
  if to = fr then f i else if fr < to then (if i < fr then f i else if i < to then 0 else if i < to + n then f (i - (to - fr)) else f i)
  else (if i < to then f i else if i < to + n then f (i + (fr - to)) else f i)

theorem shift_any (g n cap fr to : Nat) (f : Nat → Int) (w : World) (hrow : Row w g cap f) (h1 : fr + n ≤ cap) (h2 : to + n ≤ cap) (hc : cap ≤ 4000000) :
    Calls Trym.prog 20 #[.slice (some ⟨g, 0, none⟩) (fr + n) cap, .int .i64 fr, .int .i64 to] w fun e w' => e = .returned (.slice (some ⟨g, 0, none⟩) (to + n) cap) ∧ Below g w w' ∧ Row w' g cap (shf f fr to n) := by
  rcases Nat.lt_trichotomy fr to with hlt | heq | hgt
  · have hs : shf f fr to n = fun i => if i < fr then f i else if i < to then 0 else if i < to + n then f (i - (to - fr)) else f i := by
      funext i
      unfold shf
      rw [if_neg (by omega), if_pos hlt]
    rw [hs]
    by_cases hx : to < cap
    · exact shift_up1 g n cap fr to f w hrow hlt h2 hx hc
    · obtain rfl : n = 0 := by omega
      obtain rfl : to = cap := by omega
      exact shift_up2 g fr to f w hrow hlt hc
  · subst heq
    have hs : shf f fr fr n = f := by
      funext i
      unfold shf
      rw [if_pos rfl]
    rw [hs]
    have s2 : (fr : Int) + n - fr = n := by omega
    go_enter Trym.func20, Trym.ntmps20
    go_wp2
    go_ret
    exact ⟨rfl, Below.refl _ _, hrow⟩
  · have hs : shf f fr to n = fun i => if i < to then f i else if i < to + n then f (i + (fr - to)) else f i := by
      funext i
      unfold shf
      rw [if_neg (by omega), if_neg (by omega)]
    rw [hs]
    by_cases hx : fr < cap
    · exact shift_dn1 g n cap fr to f w hrow hgt h1 hx hc
    · obtain rfl : n = 0 := by omega
      obtain rfl : fr = cap := by omega
      exact shift_dn2 g fr to f w hrow hgt hc

theorem zzshift_any (g n cap fr to : Nat) (f : Nat → Int) (w : World) (hrow : Row w g cap f) (h1 : fr + n ≤ cap) (h2 : to + n ≤ cap) (hc : cap ≤ 4000000) :
    Calls Trym.prog 10 #[.slice (some ⟨g, 0, none⟩) (fr + n) cap, .int .i64 fr, .int .i64 to] w fun e w' => e = .returned (.slice (some ⟨g, 0, none⟩) (to + n) cap) ∧ Below g w w' ∧ Row w' g cap (shf f fr to n) := by
  go_enter Trym.func10, Trym.ntmps10
  go_wp2_with fail
  refine (shift_any g n cap fr to f w hrow h1 h2 hc).mono ?_
  rintro e w1 ⟨rfl, hb, hr⟩
  go_wp2
  go_ret
  exact ⟨rfl, hb, hr⟩

end Go.Proofs.Qxb6602052aMods
