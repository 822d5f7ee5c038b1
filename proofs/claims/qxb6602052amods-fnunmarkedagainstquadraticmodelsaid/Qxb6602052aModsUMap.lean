/-
  Seat b6602052aM: the walk of 'unmarked': its map, the marks that it resets, the records that it lays out.
-/
import Derived.Test.Qxb6602052aModsUKey
import Derived.Maps.OwnSet
import Derived.Laws.BytesArg
import Derived.ArgAppend
namespace Go.Proofs.Qxb6602052aMods
open Go.RowKit Go.Maps
set_option linter.unusedVariables false

theorem keyed9 : Keyed Trym.prog 9 := string_keyed Trym.underlying9
theorem zero3 (w : World) : (zeroValue 3).run Trym.prog w = .ok (.int .i64 0) w := by kernel_rfl
theorem mk38 (w : World) (h : Int) : (Instr.makeMap 38 (some (.int .i64 h))).run Trym.prog w = .ok (.map (some w.heap.size)) (w.alloc (.map #[] 0)) := by
  simp [Instr.makeMap, run_underlying Trym.underlying38, asInt, asIntOf]

/-- The map as read holds at each key what v says. -/
def Tracks (D : DataW Unit) (v : List UInt8 → Option Int) : Prop :=
  IsMap D ∧ ∀ κ, Maps.has D (.string κ) = (v κ).isSome ∧ ∀ c, v κ = some c → D.atKey (.string κ) (.lit (.int .i64 0)) = .lit (.int .i64 c)

theorem Tracks.empty {v : List UInt8 → Option Int} (h : ∀ κ, v κ = none) : Tracks (.map []) v :=
  ⟨isMap_empty, fun κ => ⟨by rw [h κ]; rfl, fun c hc => by rw [h κ] at hc; cases hc⟩⟩

theorem Tracks.put {D : DataW Unit} {v v' : List UInt8 → Option Int} (h : Tracks D v) (κ0 : List UInt8) (c : Int) (hv : ∀ κ, v' κ = if κ = κ0 then some c else v κ) : Tracks (D.put (.string κ0) (.lit (.int .i64 c))) v' := by
  refine ⟨h.1.put _ _, fun κ => ?_⟩
  by_cases hk : κ = κ0
  · subst hk
    rw [hv κ, if_pos rfl]
    refine ⟨has_put_same h.1 (show WideAt.IsKeyLit (.string κ) from trivial) _, fun c' hc' => ?_⟩
    obtain rfl := Option.some.inj hc'
    exact atKey_put_same h.1 (show WideAt.IsKeyLit (.string κ) from trivial) _ _
  · have hne : (Lit.string κ) ≠ .string κ0 := fun e => hk (Lit.string.inj e)
    rw [hv κ, if_neg hk]
    exact ⟨(has_put_other hne _).trans (h.2 κ).1, fun c' hc' => (atKey_put_other hne _ _).trans ((h.2 κ).2 c' hc')⟩

theorem Tracks.congr {D : DataW Unit} {v v' : List UInt8 → Option Int} (h : Tracks D v) (hv : ∀ κ, v' κ = v κ) : Tracks D v' :=
  ⟨h.1, fun κ => by rw [hv κ]; exact h.2 κ⟩

/-- A slice over the head of a row of the call's own; nothing is known of one without elements. -/
def Own (w : World) (a : Option Addr) (n : Nat) (z : Nat → Int) : Prop := 0 < n → ∃ g, a = some ⟨g, 0, none⟩ ∧ Row w g n z

/-- w' is w but for the rows of am and gr, and for new blocks. -/
structure Frm (w : World) (am : Option Addr) (gr : Nat) (w' : World) : Prop where
  os : w'.os = w.os
  tape : w'.tape = w.tape
  output : w'.output = w.output
  size : w.heap.size ≤ w'.heap.size
  block : ∀ i, i < w.heap.size → (∀ g, am = some ⟨g, 0, none⟩ → i ≠ g) → i ≠ gr → w'.heap[i]? = w.heap[i]?

theorem Frm.refl (w : World) (am : Option Addr) (gr : Nat) : Frm w am gr w := ⟨rfl, rfl, rfl, Nat.le_refl _, fun _ _ _ _ => rfl⟩
theorem Frm.alloc {w w' : World} {am : Option Addr} {gr : Nat} (h : Frm w am gr w') (o : Obj) : Frm w am gr (w'.alloc o) :=
  ⟨h.os, h.tape, h.output, Nat.le_trans h.size (by simp), fun i hi h1 h2 => (Below.heap_alloc w' o i (Nat.lt_of_lt_of_le hi h.size)).trans (h.block i hi h1 h2)⟩
theorem Frm.grown {w w1 w2 : World} {am : Option Addr} {gr B : Nat} (h : Frm w am gr w1) (hg : w1.grownBy w2 (some B)) (hB : w.heap.size ≤ B) : Frm w am gr w2 :=
  ⟨hg.os.trans h.os, hg.tape.trans h.tape, hg.output.trans h.output, Nat.le_trans h.size hg.size, fun i hi h1 h2 => (hg.block i (Nat.lt_of_lt_of_le hi h.size) (fun e => by have := Option.some.inj e; omega)).trans (h.block i hi h1 h2)⟩
theorem Frm.setMark {w w1 : World} {am : Option Addr} {gr g : Nat} (h : Frm w am gr w1) (hg : am = some ⟨g, 0, none⟩) (o : Nat) (v : Value) : Frm w am gr (w1.setCell ⟨g, o, none⟩ v) :=
  ⟨h.os, h.tape, h.output, by simpa [World.setCell] using h.size, fun i hi h1 h2 => (Below.heap_setCell w1 _ v i (h1 g hg)).trans (h.block i hi h1 h2)⟩
theorem Frm.setRec {am : Option Addr} {gr : Nat} {w : World} : ∀ (vs : List Value) (o : Nat) (w1 : World), Frm w am gr w1 → Frm w am gr (w1.setCells gr o vs)
  | [], o, w1, h => h
  | v :: r, o, w1, h => by
    rw [World.setCells]
    exact Frm.setRec r (o + 1) _ ⟨h.os, h.tape, h.output, by simpa [World.setCell] using h.size, fun i hi h1 h2 => (Below.heap_setCell w1 _ v i h2).trans (h.block i hi h1 h2)⟩

theorem heap_setCells_other (b : Nat) : ∀ (vs : List Value) (o : Nat) (w : World) (i : Nat), i ≠ b → (w.setCells b o vs).heap[i]? = w.heap[i]?
  | [], o, w, i, h => rfl
  | v :: r, o, w, i, h => by
    rw [World.setCells, heap_setCells_other b r (o + 1) _ i h]
    exact Below.heap_setCell w _ v i h

/-- 'append' within the capacity, the cells written out. -/
theorem wpList_append_room {P : Program} {w : World} {ops : Array Oper} {rest : List Oper} {o : Oper} {a : Act} {Q : Exit → Act → World → Prop} (hgd : o.guard = none) (s x : Operand) (t : TypeId)
    (ho : o.op = .call { callee := .builtin .append, args := #[s, x], argTypes := #[t, t] }) (e : TypeId) (i : TypeInfo) (ht : P.underlying t = some (.slice e)) (hi : P.info? e = some i) (h4 : i.size = 1)
    (b n cap : Nat) (hs : a.eval s = .slice (some ⟨b, 0, none⟩) n cap) (ad : Addr) (m c : Nat) (news : List Value) (hx : a.eval x = .slice (some ad) m c) (hl : news.length = m) (hnews : ∀ j u, news[j]? = some u → w.cell? (ad.add j) = some u) (h1 : ∀ u ∈ news, u.oneCell' = true)
    (hroom : n + m ≤ cap) (hc : ∀ j, j < m → (w.cell? ⟨b, n + j, none⟩).isSome = true) (hf : ∀ j, j < m → w.frozen? ⟨b, n + j, none⟩ = false)
    (h : wpList P ops Q rest (a.put o.dst (.slice (some ⟨b, 0, none⟩) (n + m) cap)) (w.setCells b n news)) : wpList P ops Q (o :: rest) a w := by
  refine wpList_plain hgd fun K hK => ?_
  have hrun := run_append_room_cells (P := P) w t o.type e i ht hi b 0 n cap ad m c news (by rw [h4]; omega) hnews h1 hroom (fun j hj => by rw [h4, Nat.mul_one, Nat.zero_add]; exact hc j (by omega)) (fun j hj => by rw [h4, Nat.mul_one, Nat.zero_add]; exact hf j (by omega))
  rw [h4, Nat.mul_one, Nat.zero_add] at hrun
  unfold Oper.wp
  simp [execOp, ho, resolve, invoke, builtin, hs, hx, hrun, Result.andThen]
  exact hK _ _ h

/-- A row behind a run of bytes laid over it. -/
theorem Row.laid {w : World} {g n : Nat} {f : Nat → Int} (h : Row w g n f) (o m : Nat) (y : Nat → Int) : Row (w.setCells g o (rowL m y)) g n (fun j => if o ≤ j ∧ j < o + m then y (j - o) else f j) := by
  refine Row.of ((rowIs_setCells _ o w _ h.is).congr (fun i hi => ?_))
  by_cases h1 : o ≤ i
  · rw [if_pos h1]
    by_cases h2 : i < o + m
    · rw [if_pos ⟨h1, h2⟩, rowL_get _ _ _ (by omega)]
      rfl
    · rw [if_neg (by omega), List.getElem?_eq_none (by rw [rowL_len]; omega)]
      rfl
  · rw [if_neg h1, if_neg (by omega)]

/-- The key's string. -/
def kst (z : Nat → Int) (p k : Nat) : ByteArray := strOfNums ((List.range k).map fun t => z (p + t))
theorem kst_data (z : Nat → Int) (p k : Nat) : (kst z p k).data.toList = kb z p k := by
  rw [kst, strOfNums_data, List.map_map]
  rfl
theorem kst_size (z : Nat → Int) (p k : Nat) : (kst z p k).size = k := by simp [kst, strOfNums_size]
theorem kst_key (z : Nat → Int) (p k : Nat) (hk : k ≤ 4096) : keyOf Trym.prog 9 (.string (kst z p k)) = some (.string (kb z p k)) := by
  rw [WideMaps.keyOf_string_mk Trym.underlying9 (by rw [kst_size]; unfold maxLen; omega), kst_data]
theorem kst_conv {w : World} {g n : Nat} {f : Nat → Int} (h : Row w g n f) (p k c : Nat) (hp : p + k ≤ n) : (convert 22 9 (.slice (some ⟨g, p, none⟩) k c)).run Trym.prog w = .ok (.string (kst f p k)) w :=
  run_convert_bytes_arg (P := Trym.prog) w 22 5 Trym.underlying22 Trym.underlying5 g p k c ((List.range k).map fun t => f (p + t)) (by simp) (fun i hi => by rw [h.cell (by omega)]; simp [hi]) 9 Trym.underlying9

theorem wpList_look_some {w : World} {ops : Array Oper} {rest : List Oper} {o : Oper} {a : Act} {Q : Exit → Act → World → Prop} (hg : o.guard = none) (m x : Operand) (hop : o.op = Op.lookup 38 m x true)
    (b n : Nat) (D : DataW Unit) (hm : a.eval m = .map (some b)) (hown : w.ownsMap Trym.prog 9 (plainElem Trym.prog 3) b n D) (key : Value) (κ : List UInt8) (hx : a.eval x = key) (hkey : keyOf Trym.prog 9 key = some (.string κ))
    {v : List UInt8 → Option Int} (hT : Tracks D v) (c : Int) (hv : v κ = some c) (hK : wpList Trym.prog ops Q rest (a.put o.dst (.tuple #[.int .i64 c, .bool true])) w) :
    wpList Trym.prog ops Q (o :: rest) a w := by
  refine wpList_lookup_own_ok_int w hg m x 38 hop 9 3 .i64 keyed9 Trym.underlying38 Trym.underlying3 (zero3 _) b n D hm hown key (.string κ) hx hkey ?_
  intro c' hat hwc
  have h1 := (hT.2 κ).2 c hv
  rw [h1] at hat
  obtain rfl : c = c' := by simpa using hat
  rw [(hT.2 κ).1, hv]
  exact hK

theorem wpList_look_none {w : World} {ops : Array Oper} {rest : List Oper} {o : Oper} {a : Act} {Q : Exit → Act → World → Prop} (hg : o.guard = none) (m x : Operand) (hop : o.op = Op.lookup 38 m x true)
    (b n : Nat) (D : DataW Unit) (hm : a.eval m = .map (some b)) (hown : w.ownsMap Trym.prog 9 (plainElem Trym.prog 3) b n D) (key : Value) (κ : List UInt8) (hx : a.eval x = key) (hkey : keyOf Trym.prog 9 key = some (.string κ))
    {v : List UInt8 → Option Int} (hT : Tracks D v) (hv : v κ = none) (hK : wpList Trym.prog ops Q rest (a.put o.dst (.tuple #[.int .i64 0, .bool false])) w) :
    wpList Trym.prog ops Q (o :: rest) a w := by
  refine wpList_lookup_own_ok_int w hg m x 38 hop 9 3 .i64 keyed9 Trym.underlying38 Trym.underlying3 (zero3 _) b n D hm hown key (.string κ) hx hkey ?_
  intro c' hat hwc
  have h1 : Maps.has D (.string κ) = false := by rw [(hT.2 κ).1, hv]; rfl
  rw [atKey_of_not_has h1] at hat
  obtain rfl : 0 = c' := by simpa using hat
  rw [h1]
  exact hK

theorem Own.same {w w' : World} {a : Option Addr} {n : Nat} {z : Nat → Int} (h : Own w a n z) (he : ∀ g, a = some ⟨g, 0, none⟩ → w'.heap[g]? = w.heap[g]?) : Own w' a n z := fun hn => by
  obtain ⟨g, h1, h2⟩ := h hn
  exact ⟨g, h1, h2.same (he g h1)⟩
theorem Own.below {w w' : World} {a : Option Addr} {n : Nat} {z : Nat → Int} (h : Own w a n z) (hb : Below w.heap.size w w') : Own w' a n z := fun hn => by
  obtain ⟨g, h1, h2⟩ := h hn
  exact ⟨g, h1, h2.same (hb.block g h2.is.lt)⟩
theorem Own.congr {w : World} {a : Option Addr} {n : Nat} {z z' : Nat → Int} (h : Own w a n z) (e : ∀ j, j < n → z j = z' j) : Own w a n z' := fun hn => by
  obtain ⟨g, h1, h2⟩ := h hn
  exact ⟨g, h1, h2.congr e⟩

theorem grownBy_setCells (b : Nat) (vs : List Value) (o : Nat) (w : World) : w.grownBy (w.setCells b o vs) (some b) := by
  have h : ∀ (vs : List Value) (o : Nat) (w : World), (w.setCells b o vs).os = w.os ∧ (w.setCells b o vs).tape = w.tape ∧ (w.setCells b o vs).output = w.output ∧ (w.setCells b o vs).heap.size = w.heap.size := by
    intro vs
    induction vs with
    | nil => intro o w; exact ⟨rfl, rfl, rfl, rfl⟩
    | cons v r ih =>
      intro o w
      rw [World.setCells]
      obtain ⟨h1, h2, h3, h4⟩ := ih (o + 1) (w.setCell ⟨b, o, none⟩ v)
      exact ⟨h1, h2, h3, by rw [h4]; simp [World.setCell]⟩
  obtain ⟨h1, h2, h3, h4⟩ := h vs o w
  exact ⟨h1, h2, h3, by omega, fun k hk hne => heap_setCells_other b vs o w k (fun e => hne (by rw [e]))⟩

theorem grownBy_setCell (b o : Nat) (v : Value) (w : World) : w.grownBy (w.setCell ⟨b, o, none⟩ v) (some b) := grownBy_setCells b [v] o w

theorem Row.put {w : World} {g n : Nat} {f : Nat → Int} (h : Row w g n f) (i : Nat) (x : Int) : Row (w.setCell ⟨g, i, none⟩ (.int .u8 x)) g n (fun j => if j = i then x else f j) :=
  Row.of ((h.is.set i (.int .u8 x)).congr (fun j hj => by by_cases hh : j = i <;> simp [hh]))

theorem kst_congr {a b : Nat → Int} {p k : Nat} (h : ∀ t, t < k → a (p + t) = b (p + t)) : kst a p k = kst b p k := by
  unfold kst
  congr 1
  apply List.map_congr_left
  intro t ht
  exact h t (List.mem_range.1 ht)

set_option maxHeartbeats 1000000 in
theorem unmarked_walk (am : Option Addr) (M gr R nm nr k : Nat) (zm zr : Nat → Int) (w : World) (hm : Byt zm) (hr : Byt zr) (hM : M = nm * (k + 1)) (hR : R = nr * (k + 1)) (hMb : M ≤ 4096) (hRb : R ≤ 4096) (hk : k + 1 ≤ 9223372036854775807)
    (OM : Own w am M zm) (OR : Row w gr R zr) (hne : ∀ g, am = some ⟨g, 0, none⟩ → g ≠ gr) :
    Calls Trym.prog 21 #[.slice am M M, .slice (some ⟨gr, 0, none⟩) R R, .int .i64 ((k : Int) + 1)] w fun e w' => e = .returned (.slice (some ⟨gr, 0, none⟩) (len zm zr nm k nr) R) ∧ Own w' am M (zeroed zm nm k (reset zm zr nm k nr)) ∧ Row w' gr R (recF zm zr nm k nr) ∧ Frm w am gr w' := by
  have HM : Hid (M = nm * (k + 1)) := hM
  have HR : Hid (R = nr * (k + 1)) := hR
  have HN : Hid (∀ g, am = some ⟨g, 0, none⟩ → g ≠ gr) := hne
  have hgr : gr < w.heap.size := OR.is.lt
  have hnm : nm ≤ 4096 := by rw [hM] at hMb; exact Nat.le_trans (Nat.le_mul_of_pos_right nm (by omega)) hMb
  have hnr : nr ≤ 4096 := by rw [hR] at hRb; exact Nat.le_trans (Nat.le_mul_of_pos_right nr (by omega)) hRb
  clear hM hR hne
  obtain ⟨i0, hi, hz0, hz1, hz2⟩ := info_parts Trym.info5
  have hmk := mk38
  go_enter Trym.func21, Trym.ntmps21
  go_wp2
  clear hmk
  go_loopw [8] (fun i wr => ∃ (r x : Nat) (D : DataW Unit), i = .int .i64 x ∧ r ≤ nm ∧ Hid (x = r * (k + 1)) ∧ wr.ownsMap Trym.prog 9 (plainElem Trym.prog 3) w.heap.size r D ∧ Tracks D (val zm zr k r 0) ∧ Below w.heap.size w wr) (fun i _ => M - (intOf i).toNat)
  case atStart => exact ⟨0, 0, .map [], rfl, Nat.zero_le _, by simp [Hid], World.ownsMap_made _ _ _ _, Tracks.empty (fun κ => by simp [val, lastIdx]), (Below.refl _ _).alloc (Nat.le_refl _) _⟩
  case round =>
    obtain ⟨r, x, D, rfl, hrn, HX, hown, HT, hbel⟩ := hrel
    by_cases hlt : x < M
    · have hr1 : r < nm := by
        have h1 := HX.out
        have h2 := HM.out
        rw [h1, h2] at hlt
        exact Nat.lt_of_mul_lt_mul_right hlt
      have hx1 : x + (k + 1) ≤ M := by
        rw [HX.out, HM.out, ← Nat.succ_mul]
        exact Nat.mul_le_mul_right _ hr1
      obtain ⟨gm, rfl, hrow⟩ := OM (by omega)
      have hrow' : Row wr gm M zm := hrow.same (hbel.block gm hrow.is.lt)
      have hkey := kst_key zm x k (by omega)
      have hcv := kst_conv hrow' x k (M - x) (by omega)
      have HX' : Hid (x + (k + 1) = (r + 1) * (k + 1)) := by show _ = _; rw [Nat.succ_mul, HX.out]
      have HT' : Tracks (D.put (.string (kb zm x k)) (.lit (.int .i64 (x : Int)))) (val zm zr k (r + 1) 0) := HT.put _ _ (fun κ => by rw [val_mark, HX.out])
      go_wp2_with (at_mapUpdate; refine wpList_mapUpdate_own _ rfl _ _ _ 38 rfl 9 3 keyed9 Trym.underlying38 _ w.heap.size r D rfl hown (by unfold maxLen; omega) _ _ _ rfl rfl hkey (.lit (.int .i64 (x : Int))) [] (plainElem_int Trym.underlying3 (WalkArith.wf_i64 (by omega))) ?_; intro w1 hown1 hgrow1)
      have hbel' := hbel.grown hgrow1 hbel.size (fun j hj => by cases hj; exact Nat.le_refl _)
      clear hown hgrow1 hbel hcv hkey hrow hrow' HT
      go_roundw
      case rel => exact ⟨r + 1, x + (k + 1), _, by go_num, hr1, HX', hown1, HT', hbel'⟩
      case measure => simp [intOf]; omega
    · have hrr : r = nm := by
        have h1 := HX.out
        have h2 := HM.out
        rcases Nat.lt_or_ge r nm with hh | hh
        · exfalso
          apply hlt
          rw [h1, h2]
          exact Nat.mul_lt_mul_of_pos_right hh (by omega)
        · omega
      subst hrr
      clear HX
      have OM1 : Own wr am M (zeroed zm r k (reset zm zr r k 0)) := (OM.below hbel).congr (fun j hj => by rw [zeroed_congr zm r k (fun r' _ => reset_zero zm zr r k r'), zeroed_none])
      have OR1 : Row wr gr R (recF zm zr r k 0) := (OR.same (hbel.block gr hgr)).congr (fun j hj => by unfold recF; rw [if_neg (by simp [len])])
      have HF1 : Frm w am gr wr := ⟨hbel.os, hbel.tape, hbel.output, hbel.size, fun i hi _ _ => hbel.block i hi⟩
      have HG : Hid (∀ g, am = some ⟨g, 0, none⟩ → 0 < M → g < w.heap.size) := fun g hg h0 => by
        obtain ⟨g', h1, h2⟩ := OM h0
        rw [h1] at hg
        obtain rfl : g' = g := by simpa using hg
        exact h2.is.lt
      clear OM OR hbel
      go_wp2
      go_loopw [9, 10] (fun o i wr => ∃ (j x c : Nat) (D : DataW Unit), i = .int .i64 x ∧ o = .slice (some ⟨gr, 0, none⟩) (len zm zr r k j) R ∧ j ≤ nr ∧ Hid (x = j * (k + 1)) ∧ c ≤ r + j ∧ wr.ownsMap Trym.prog 9 (plainElem Trym.prog 3) w.heap.size c D ∧ Tracks D (val zm zr k r j) ∧ Own wr am M (zeroed zm r k (reset zm zr r k j)) ∧ Row wr gr R (recF zm zr r k j) ∧ Frm w am gr wr) (fun _ i _ => R - (intOf i).toNat)
      case atStart => exact ⟨0, 0, r, D, rfl, rfl, Nat.zero_le _, by simp [Hid], by omega, hown, HT, OM1, OR1, HF1⟩
      case round =>
        clear OM1 OR1 HF1 hown HT
        obtain ⟨j, y, c, D, rfl, rfl, hjn, HX, hcb, hown, HT, OM1, OR1, HF1⟩ := hrel
        have hlj := len_le zm zr r k j
        rw [← HX.out] at hlj
        by_cases hlt2 : y < R
        · have hj1 : j < nr := by
            have h1 := HX.out
            have h2 := HR.out
            rw [h1, h2] at hlt2
            exact Nat.lt_of_mul_lt_mul_right hlt2
          have hy1 : y + (k + 1) ≤ R := by
            rw [HX.out, HR.out, ← Nat.succ_mul]
            exact Nat.mul_le_mul_right _ hj1
          have hkey := kst_key zr y k (by omega)
          have hcv := kst_conv OR1 y k (R - y) (by omega)
          rw [kst_congr (b := zr) (fun t ht => by rw [HX.out]; exact recF_key zm zr r k j t)] at hcv
          have HX' : Hid (y + (k + 1) = (j + 1) * (k + 1)) := by show _ = _; rw [Nat.succ_mul, HX.out]
          cases hv : val zm zr k r j (kb zr y k) with
          | none =>
            have hfr : fresh zm zr r k j = true := (val_none zm zr r k hm hr).1 (by rw [← HX.out]; exact hv)
            have HL : Hid (len zm zr r k (j + 1) = len zm zr r k j + (k + 1)) := len_yes zm zr r k hfr
            have HT2 : Tracks (D.put (.string (kb zr y k)) (.lit (.int .i64 (-1)))) (val zm zr k r (j + 1)) := HT.put _ _ (fun κ => by rw [val_fresh zm zr r k hm hr hfr, HX.out])
            have hlast : lastIdx zm k (kb zr (j * (k + 1)) k) r = none := by
              cases hl : lastIdx zm k (kb zr (j * (k + 1)) k) r with
              | none => rfl
              | some q =>
                rw [HX.out] at hv
                simp [val, hl] at hv
            have OM2 : Own wr am M (zeroed zm r k (reset zm zr r k (j + 1))) := OM1.congr (fun i _ => (zeroed_congr zm r k (reset_other zm zr r k hm hr hlast) i).symm)
            have HR2 : Hid (∀ i, (if len zm zr r k j ≤ i ∧ i < len zm zr r k j + (k + 1) then recF zm zr r k j (y + (i - len zm zr r k j)) else recF zm zr r k j i) = recF zm zr r k (j + 1) i) := fun i => by rw [recF_yes zm zr r k hfr, HX.out]
            have HV : Hid (val zm zr k r j (kb zr y k) = none) := hv
            have s3 : y + (k + 1) - y = k + 1 := by omega
            clear hv hfr hlast OM1
            go_wp2_with (first
              | (at_lookup; refine wpList_look_none rfl _ _ rfl w.heap.size c D rfl hown _ _ rfl hkey HT HV.out ?_)
              | (at_mapUpdate; refine wpList_mapUpdate_own _ rfl _ _ _ 38 rfl 9 3 keyed9 Trym.underlying38 _ w.heap.size c D rfl hown (by unfold maxLen; omega) _ _ _ rfl rfl hkey (.lit (.int .i64 (-1))) [] (plainElem_int Trym.underlying3 (by decide)) ?_; intro w1 hown1 hgrow1; have OR3 : Row w1 gr R (recF zm zr r k j) := OR1.same (hgrow1.block gr OR1.is.lt (fun e => by have := Option.some.inj e; omega)))
              | (at_builtin; refine wpList_append_room rfl (.tmp 73) (.tmp 79) 22 rfl 5 i0 Trym.underlying22 hi hz1 gr (len zm zr r k j) R rfl ⟨gr, y, none⟩ _ _ (rowL (k + 1) (fun t => recF zm zr r k j (y + t))) rfl (by rw [rowL_len]; omega) (src_cells OR3 (by omega) _ rfl) (rowL_one _ _) (by omega) (fun t ht => by rw [OR3.cell (by omega)]; rfl) (fun t ht => OR3.is.frozen _) ?_))
            have hg2 := grownBy_setCells gr (rowL (k + 1) (fun t => recF zm zr r k j (y + t))) (len zm zr r k j) w1
            have OR4 := (OR3.laid (len zm zr r k j) (k + 1) (fun t => recF zm zr r k j (y + t))).congr (fun i _ => HR2.out i)
            have hown2 := hown1.kept hg2 (fun e => by have := Option.some.inj e; omega)
            have HF2 := (HF1.grown hgrow1 (Nat.le_refl _)).setRec (rowL (k + 1) (fun t => recF zm zr r k j (y + t))) (len zm zr r k j) w1
            have OM3 : Own (w1.setCells gr (len zm zr r k j) (rowL (k + 1) (fun t => recF zm zr r k j (y + t)))) am M (zeroed zm r k (reset zm zr r k (j + 1))) := fun h0 => by
              obtain ⟨g, h1, h2⟩ := OM2 h0
              have hlt3 := HG.out g h1 h0
              refine ⟨g, h1, h2.same ?_⟩
              rw [heap_setCells_other gr _ _ _ g (HN.out g h1)]
              exact hgrow1.block g h2.is.lt (fun e => by have := Option.some.inj e; omega)
            clear hown hown1 hgrow1 OR1 OR3 OM2 HF1 HT hg2 hcv hkey HV HR2
            go_roundw
            case rel => exact ⟨j + 1, y + (k + 1), c + 1, _, by go_num, by rw [HL.out], hj1, HX', by omega, hown2, HT2, OM3, OR4, HF2⟩
            case measure => simp [intOf]; omega
          | some c0 =>
            have hfr : fresh zm zr r k j = false := by
              cases hf : fresh zm zr r k j
              · rfl
              · have := (val_none zm zr r k hm hr).2 hf
                rw [← HX.out, hv] at this
                cases this
            have OR2 : Row wr gr R (recF zm zr r k (j + 1)) := OR1.congr (fun i _ => (recF_no zm zr r k hfr i).symm)
            have HT2 : Tracks D (val zm zr k r (j + 1)) := HT.congr (val_stale zm zr r k hm hr hfr)
            have HL : Hid (len zm zr r k (j + 1) = len zm zr r k j) := len_no zm zr r k hfr
            cases hl : lastIdx zm k (kb zr y k) r with
            | none =>
              have hc0 : c0 = -1 := by
                unfold val at hv
                rw [hl] at hv
                simp only [] at hv
                split at hv
                · exact (Option.some.inj hv).symm
                · cases hv
              subst hc0
              have OM2 : Own wr am M (zeroed zm r k (reset zm zr r k (j + 1))) := OM1.congr (fun i _ => (zeroed_congr zm r k (reset_other zm zr r k hm hr (by rw [← HX.out]; exact hl)) i).symm)
              clear OM1 hfr hl
              have HV : Hid (val zm zr k r j (kb zr y k) = some (-1)) := hv
              clear hv
              go_wp2_with (at_lookup; refine wpList_look_some rfl _ _ rfl w.heap.size c D rfl hown _ _ rfl hkey HT (-1) HV.out ?_)
              go_roundw
              case rel => exact ⟨j + 1, y + (k + 1), c, D, by go_num, by rw [HL.out], hj1, HX', by omega, hown, HT2, OM2, OR2, HF1⟩
              case measure => simp [intOf]; omega
            | some q =>
              obtain ⟨u, hu⟩ : ∃ u, u = q * (k + 1) := ⟨_, rfl⟩
              have hc0 : c0 = (u : Int) := by
                unfold val at hv
                rw [hl] at hv
                rw [hu]
                exact (Option.some.inj hv).symm
              subst hc0
              have hq := (lastIdx_some zm k hl).1
              have hu1 : u + (k + 1) ≤ M := by
                rw [hu, HM.out, ← Nat.succ_mul]
                exact Nat.mul_le_mul_right _ hq
              obtain ⟨gm, rfl, hrow⟩ := OM1 (by omega)
              have hgm := HG.out gm rfl (by omega)
              have hgn := HN.out gm rfl
              have OM2 : Own (wr.setCell ⟨gm, u + k, none⟩ (.int .u8 0)) (some ⟨gm, 0, none⟩) M (zeroed zm r k (reset zm zr r k (j + 1))) := fun _ => ⟨gm, rfl, (hrow.put (u + k) 0).congr (fun i _ => by
                rw [zeroed_one zm r k hq (reset_mark zm zr r k hm hr (by rw [← HX.out]; exact hl)) i, hu])⟩
              have hg2 := grownBy_setCell gm (u + k) (.int .u8 0) wr
              have hown2 := hown.kept hg2 (fun e => by have := Option.some.inj e; omega)
              have OR3 : Row (wr.setCell ⟨gm, u + k, none⟩ (.int .u8 0)) gr R (recF zm zr r k (j + 1)) := OR2.same (hg2.block gr OR2.is.lt (fun e => by have := Option.some.inj e; omega))
              have HF2 := HF1.setMark rfl (u + k) (.int .u8 0)
              have hcell := hrow.cell (show u + k < M by omega)
              have hfz := hrow.is.frozen (u + k)
              have HV : Hid (val zm zr k r j (kb zr y k) = some (u : Int)) := hv
              clear OM1 hfr hl hv hu OR2 OR1 hrow hg2
              go_wp2_with (at_lookup; refine wpList_look_some rfl _ _ rfl w.heap.size c D rfl hown _ _ rfl hkey HT (u : Int) HV.out ?_)
              go_roundw
              case rel => exact ⟨j + 1, y + (k + 1), c, D, by go_num, by rw [HL.out], hj1, HX', by omega, hown2, HT2, OM2, OR3, HF2⟩
              case measure => simp [intOf]; omega
        · have hjj : j = nr := by
            have h1 := HX.out
            have h2 := HR.out
            rcases Nat.lt_or_ge j nr with hh | hh
            · exfalso
              apply hlt2
              rw [h1, h2]
              exact Nat.mul_lt_mul_of_pos_right hh (by omega)
            · omega
          subst hjj
          clear HX
          go_wp2
          go_ret
          exact ⟨rfl, OM1, OR1, HF1⟩

/-- Without records nothing is laid out, and no mark is reset. -/
theorem unmarked_none (am : Option Addr) (M nm k : Nat) (zm : Nat → Int) (w : World) (hM : M = nm * (k + 1)) (hMb : M ≤ 4096) (hk : k + 1 ≤ 9223372036854775807)
    (OM : Own w am M zm) :
    Calls Trym.prog 21 #[.slice am M M, .slice none (0 : Nat) (0 : Nat), .int .i64 ((k : Int) + 1)] w fun e w' => e = .returned (.slice none (0 : Nat) (0 : Nat)) ∧ Below w.heap.size w w' := by
  have HM : Hid (M = nm * (k + 1)) := hM
  have hnm : nm ≤ 4096 := by rw [hM] at hMb; exact Nat.le_trans (Nat.le_mul_of_pos_right nm (by omega)) hMb
  clear hM
  have hmk := mk38
  go_enter Trym.func21, Trym.ntmps21
  go_wp2
  clear hmk
  go_loopw [8] (fun i wr => ∃ (r x : Nat) (D : DataW Unit), i = .int .i64 x ∧ r ≤ nm ∧ Hid (x = r * (k + 1)) ∧ wr.ownsMap Trym.prog 9 (plainElem Trym.prog 3) w.heap.size r D ∧ Below w.heap.size w wr) (fun i _ => M - (intOf i).toNat)
  case atStart => exact ⟨0, 0, .map [], rfl, Nat.zero_le _, by simp [Hid], World.ownsMap_made _ _ _ _, (Below.refl _ _).alloc (Nat.le_refl _) _⟩
  case round =>
    obtain ⟨r, x, D, rfl, hrn, HX, hown, hbel⟩ := hrel
    by_cases hlt : x < M
    · have hr1 : r < nm := by
        have h1 := HX.out
        have h2 := HM.out
        rw [h1, h2] at hlt
        exact Nat.lt_of_mul_lt_mul_right hlt
      have hx1 : x + (k + 1) ≤ M := by
        rw [HX.out, HM.out, ← Nat.succ_mul]
        exact Nat.mul_le_mul_right _ hr1
      obtain ⟨gm, rfl, hrow⟩ := OM (by omega)
      have hrow' : Row wr gm M zm := hrow.same (hbel.block gm hrow.is.lt)
      have hkey := kst_key zm x k (by omega)
      have hcv := kst_conv hrow' x k (M - x) (by omega)
      have HX' : Hid (x + (k + 1) = (r + 1) * (k + 1)) := by show _ = _; rw [Nat.succ_mul, HX.out]
      go_wp2_with (at_mapUpdate; refine wpList_mapUpdate_own _ rfl _ _ _ 38 rfl 9 3 keyed9 Trym.underlying38 _ w.heap.size r D rfl hown (by unfold maxLen; omega) _ _ _ rfl rfl hkey (.lit (.int .i64 (x : Int))) [] (plainElem_int Trym.underlying3 (WalkArith.wf_i64 (by omega))) ?_; intro w1 hown1 hgrow1)
      have hbel' := hbel.grown hgrow1 hbel.size (fun j hj => by cases hj; exact Nat.le_refl _)
      clear hown hgrow1 hbel hcv hkey hrow hrow'
      go_roundw
      case rel => exact ⟨r + 1, x + (k + 1), _, by go_num, hr1, HX', hown1, hbel'⟩
      case measure => simp [intOf]; omega
    · clear HX
      go_wp2
      refine wp_loop_rounds 1 ?_
      rw [rounds_succ]
      go_wp2
      go_ret
      exact ⟨rfl, hbel⟩

/-- Below lo and from hi on w' is as w was. -/
structure Mid (lo hi : Nat) (w w' : World) : Prop where
  os : w'.os = w.os
  tape : w'.tape = w.tape
  output : w'.output = w.output
  size : w.heap.size ≤ w'.heap.size
  block : ∀ i, i < w.heap.size → (i < lo ∨ hi ≤ i) → w'.heap[i]? = w.heap[i]?

theorem zzunmarked_any (am ar : Option Addr) (M R nm nr k lo hi : Nat) (zm zr : Nat → Int) (w : World) (hm : Byt zm) (hr : Byt zr) (hM : M = nm * (k + 1)) (hR : R = nr * (k + 1)) (hMb : M ≤ 4096) (hRb : R ≤ 4096) (hk : k + 1 ≤ 9223372036854775807)
    (OM : Own w am M zm) (OR : (ar = none ∧ R = 0) ∨ ∃ gr, ar = some ⟨gr, 0, none⟩ ∧ Row w gr R zr ∧ lo ≤ gr ∧ gr < hi) (hne : ∀ g, am = some ⟨g, 0, none⟩ → lo ≤ g ∧ g < hi ∧ ar ≠ some ⟨g, 0, none⟩) :
    Calls Trym.prog 13 #[.slice am M M, .slice ar R R, .int .i64 ((k : Int) + 1)] w fun e w' => e = .returned (.slice ar (len zm zr nm k nr) R) ∧ Own w' am M (zeroed zm nm k (reset zm zr nm k nr)) ∧ Own w' ar R (recF zm zr nm k nr) ∧ Mid lo hi w w' := by
  rcases OR with ⟨rfl, h0⟩ | ⟨gr, rfl, OR, g1, g2⟩
  · have hnr : nr = 0 := by
      rcases Nat.eq_zero_or_pos nr with h | h
      · exact h
      · have := Nat.mul_pos h (show 0 < k + 1 by omega)
        omega
    subst hnr h0
    have C := unmarked_none am M nm k zm w hM hMb hk OM
    have HC : Hid _ := C
    clear hM hR hne C
    go_enter Trym.func13, Trym.ntmps13
    go_wp2_with fail
    refine Calls.mono HC.out ?_
    clear HC
    rintro e w1 ⟨rfl, hb⟩
    have OM1 : Own w1 am M (zeroed zm nm k (reset zm zr nm k 0)) := (OM.below hb).congr (fun j hj => by rw [zeroed_congr zm nm k (fun r' _ => reset_zero zm zr nm k r'), zeroed_none])
    clear OM
    go_wp2
    go_ret
    exact ⟨rfl, OM1, fun h => by omega, ⟨hb.os, hb.tape, hb.output, hb.size, fun i hi _ => hb.block i hi⟩⟩
  · have HN : Hid (∀ g, am = some ⟨g, 0, none⟩ → lo ≤ g ∧ g < hi ∧ (some ⟨gr, 0, none⟩ : Option Addr) ≠ some ⟨g, 0, none⟩) := hne
    have hne' : ∀ g, am = some ⟨g, 0, none⟩ → g ≠ gr := fun g hg e => (hne g hg).2.2 (by rw [e])
    have C := unmarked_walk am M gr R nm nr k zm zr w hm hr hM hR hMb hRb hk OM OR hne'
    have HC : Hid _ := C
    clear hM hR hne hne' C OM OR
    go_enter Trym.func13, Trym.ntmps13
    go_wp2_with fail
    refine Calls.mono HC.out ?_
    clear HC
    rintro e w1 ⟨rfl, OM1, OR1, HF⟩
    go_wp2
    go_ret
    exact ⟨rfl, OM1, fun _ => ⟨gr, rfl, OR1⟩, ⟨HF.os, HF.tape, HF.output, HF.size, fun i hi h => HF.block i hi (fun g hg e => by have := HN.out g hg; omega) (by omega)⟩⟩

end Go.Proofs.Qxb6602052aMods
