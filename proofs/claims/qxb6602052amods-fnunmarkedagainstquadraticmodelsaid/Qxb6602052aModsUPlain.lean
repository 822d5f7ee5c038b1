/-
  Seat b6602052aM: the plain law beneath 'FnUnmarkedAgainstQuadraticModel', with no Go in sight: records of width W = k + 1, their keys, what is fresh, what is laid out, which marks are reset.
-/
namespace Go.Proofs.Qxb6602052aMods

/-- Two keys of k bytes are the same. -/
def keyEq (a : Nat → Int) (p : Nat) (b : Nat → Int) (q k : Nat) : Bool := (List.range k).all fun t => a (p + t) == b (q + t)
theorem keyEq_iff {a b : Nat → Int} {p q k : Nat} : keyEq a p b q k = true ↔ ∀ t, t < k → a (p + t) = b (q + t) := by
  simp [keyEq, List.all_eq_true]
theorem keyEq_symm (a b : Nat → Int) (p q k : Nat) : keyEq a p b q k = keyEq b q a p k := by
  rw [Bool.eq_iff_iff, keyEq_iff, keyEq_iff]
  exact ⟨fun h t ht => (h t ht).symm, fun h t ht => (h t ht).symm⟩

/-- A key's bytes. -/
def kb (z : Nat → Int) (p k : Nat) : List UInt8 := (List.range k).map fun t => UInt8.ofNat (z (p + t)).toNat

theorem ofNat_inj {a b : Int} (ha : 0 ≤ a ∧ a ≤ 255) (hb : 0 ≤ b ∧ b ≤ 255) (h : UInt8.ofNat a.toNat = UInt8.ofNat b.toNat) : a = b := by
  have h1 := congrArg UInt8.toNat h
  simp only [UInt8.toNat_ofNat'] at h1
  have : a.toNat % 2 ^ 8 = b.toNat % 2 ^ 8 := h1
  omega

def Byt (z : Nat → Int) : Prop := ∀ i, 0 ≤ z i ∧ z i ≤ 255

theorem kb_eq {a b : Nat → Int} (ha : Byt a) (hb : Byt b) {p q k : Nat} : kb a p k = kb b q k ↔ keyEq a p b q k = true := by
  rw [keyEq_iff]
  constructor
  · intro h t ht
    have h1 := congrArg (fun l => l[t]?) h
    simp only [kb, List.getElem?_map, List.getElem?_range ht, Option.map_some] at h1
    exact ofNat_inj (ha _) (hb _) (Option.some.inj h1)
  · intro h
    unfold kb
    apply List.map_congr_left
    intro t ht
    rw [h t (List.mem_range.1 ht)]

theorem kb_congr {a b : Nat → Int} {p k : Nat} (h : ∀ t, t < k → a (p + t) = b (p + t)) : kb a p k = kb b p k := by
  unfold kb
  apply List.map_congr_left
  intro t ht
  rw [h t (List.mem_range.1 ht)]

section
variable (zm zr : Nat → Int) (nm k : Nat)

/-- Record j's key is that of no mark and of no earlier record. -/
def fresh (j : Nat) : Bool := (List.range nm).all (fun i => !keyEq zm (i * (k + 1)) zr (j * (k + 1)) k) && (List.range j).all (fun e => !keyEq zr (e * (k + 1)) zr (j * (k + 1)) k)

theorem fresh_iff {j : Nat} : fresh zm zr nm k j = true ↔ (∀ i, i < nm → keyEq zm (i * (k + 1)) zr (j * (k + 1)) k = false) ∧ ∀ e, e < j → keyEq zr (e * (k + 1)) zr (j * (k + 1)) k = false := by
  simp [fresh, List.all_eq_true]

/-- How long the answer is behind j records. -/
def len : Nat → Nat
  | 0 => 0
  | j + 1 => if fresh zm zr nm k j then len j + (k + 1) else len j

/-- .. and what it holds. -/
def outF : Nat → Nat → Int
  | 0, _ => 0
  | j + 1, i => if fresh zm zr nm k j then (if i < len zm zr nm k j then outF j i else zr (j * (k + 1) + (i - len zm zr nm k j))) else outF j i

theorem len_yes {j : Nat} (h : fresh zm zr nm k j = true) : len zm zr nm k (j + 1) = len zm zr nm k j + (k + 1) := by simp [len, h]
theorem len_no {j : Nat} (h : fresh zm zr nm k j = false) : len zm zr nm k (j + 1) = len zm zr nm k j := by simp [len, h]
theorem outF_yes {j : Nat} (h : fresh zm zr nm k j = true) (i : Nat) : outF zm zr nm k (j + 1) i = if i < len zm zr nm k j then outF zm zr nm k j i else zr (j * (k + 1) + (i - len zm zr nm k j)) := by simp [outF, h]
theorem outF_no {j : Nat} (h : fresh zm zr nm k j = false) (i : Nat) : outF zm zr nm k (j + 1) i = outF zm zr nm k j i := by simp [outF, h]

theorem len_le (j : Nat) : len zm zr nm k j ≤ j * (k + 1) := by
  induction j with
  | zero => simp [len]
  | succ j ih =>
    rw [Nat.succ_mul]
    unfold len
    split <;> omega

/-- The records' array behind j records. -/
def recF (j i : Nat) : Int := if i < len zm zr nm k j then outF zm zr nm k j i else zr i

theorem recF_key (j t : Nat) : recF zm zr nm k j (j * (k + 1) + t) = zr (j * (k + 1) + t) := by
  have := len_le zm zr nm k j
  unfold recF
  rw [if_neg (by omega)]

theorem recF_no {j : Nat} (h : fresh zm zr nm k j = false) (i : Nat) : recF zm zr nm k (j + 1) i = recF zm zr nm k j i := by
  unfold recF
  rw [len_no zm zr nm k h, outF_no zm zr nm k h]

theorem recF_yes {j : Nat} (h : fresh zm zr nm k j = true) (i : Nat) : recF zm zr nm k (j + 1) i = if len zm zr nm k j ≤ i ∧ i < len zm zr nm k j + (k + 1) then recF zm zr nm k j (j * (k + 1) + (i - len zm zr nm k j)) else recF zm zr nm k j i := by
  by_cases h1 : i < len zm zr nm k j
  · rw [if_neg (by omega)]
    unfold recF
    rw [len_yes zm zr nm k h, if_pos (by omega), if_pos h1, outF_yes zm zr nm k h, if_pos h1]
  · by_cases h2 : i < len zm zr nm k j + (k + 1)
    · rw [if_pos ⟨by omega, h2⟩, recF_key]
      unfold recF
      rw [len_yes zm zr nm k h, if_pos h2, outF_yes zm zr nm k h, if_neg h1]
    · rw [if_neg (by omega)]
      unfold recF
      rw [len_yes zm zr nm k h, if_neg (by omega), if_neg h1]

/-- Mark r is the last of its key. -/
def last (r : Nat) : Bool := (List.range nm).all fun r2 => !(decide (r < r2)) || !keyEq zm (r2 * (k + 1)) zm (r * (k + 1)) k
theorem last_iff {r : Nat} : last zm nm k r = true ↔ ∀ r2, r < r2 → r2 < nm → keyEq zm (r2 * (k + 1)) zm (r * (k + 1)) k = false := by
  simp only [last, List.all_eq_true, List.mem_range, Bool.or_eq_true, Bool.not_eq_true', decide_eq_false_iff_not]
  constructor
  · intro h r2 h1 h2
    rcases h r2 h2 with h3 | h3
    · omega
    · exact h3
  · intro h r2 h2
    by_cases h1 : r < r2
    · exact .inr (h r2 h1 h2)
    · exact .inl h1

/-- One of the first j records has mark r's key. -/
def hit (j r : Nat) : Bool := (List.range j).any fun e => keyEq zm (r * (k + 1)) zr (e * (k + 1)) k
theorem hit_succ (j r : Nat) : hit zm zr k (j + 1) r = (hit zm zr k j r || keyEq zm (r * (k + 1)) zr (j * (k + 1)) k) := by
  simp [hit, List.range_succ, List.any_append]

/-- The marks with the last byte of each mark that P tells set to 0. -/
def zeroed (P : Nat → Bool) (i : Nat) : Int := if (List.range nm).any (fun r => decide (i = r * (k + 1) + k) && P r) then 0 else zm i

theorem zeroed_congr {P Q : Nat → Bool} (h : ∀ r, r < nm → P r = Q r) (i : Nat) : zeroed zm nm k P i = zeroed zm nm k Q i := by
  have : (List.range nm).any (fun r => decide (i = r * (k + 1) + k) && P r) = (List.range nm).any (fun r => decide (i = r * (k + 1) + k) && Q r) := by
    rw [Bool.eq_iff_iff, List.any_eq_true, List.any_eq_true]
    constructor
    · rintro ⟨r, h1, h2⟩
      exact ⟨r, h1, by rw [← h r (List.mem_range.1 h1)]; exact h2⟩
    · rintro ⟨r, h1, h2⟩
      exact ⟨r, h1, by rw [h r (List.mem_range.1 h1)]; exact h2⟩
  unfold zeroed
  rw [this]

theorem zeroed_none (i : Nat) : zeroed zm nm k (fun _ => false) i = zm i := by
  unfold zeroed
  rw [if_neg]
  simp

/-- One mark more. -/
theorem zeroed_one {P Q : Nat → Bool} {r : Nat} (hr : r < nm) (h : ∀ r', r' < nm → Q r' = (P r' || decide (r' = r))) (i : Nat) : zeroed zm nm k Q i = if i = r * (k + 1) + k then 0 else zeroed zm nm k P i := by
  by_cases hi : i = r * (k + 1) + k
  · rw [if_pos hi]
    unfold zeroed
    rw [if_pos]
    rw [List.any_eq_true]
    exact ⟨r, List.mem_range.2 hr, by rw [h r hr]; simp [hi]⟩
  · rw [if_neg hi]
    have : (List.range nm).any (fun r => decide (i = r * (k + 1) + k) && Q r) = (List.range nm).any (fun r => decide (i = r * (k + 1) + k) && P r) := by
      rw [Bool.eq_iff_iff, List.any_eq_true, List.any_eq_true]
      constructor
      · rintro ⟨r', h1, h2⟩
        refine ⟨r', h1, ?_⟩
        rw [h r' (List.mem_range.1 h1)] at h2
        simp only [Bool.and_eq_true, decide_eq_true_eq, Bool.or_eq_true] at h2 ⊢
        refine ⟨h2.1, ?_⟩
        rcases h2.2 with h3 | h3
        · exact h3
        · exact absurd (h3 ▸ h2.1) hi
      · rintro ⟨r', h1, h2⟩
        refine ⟨r', h1, ?_⟩
        rw [h r' (List.mem_range.1 h1)]
        simp only [Bool.and_eq_true, decide_eq_true_eq, Bool.or_eq_true] at h2 ⊢
        exact ⟨h2.1, .inl h2.2⟩
    unfold zeroed
    rw [this]

/-- The last of the first I marks whose key is κ. -/
def lastIdx (κ : List UInt8) : Nat → Option Nat
  | 0 => none
  | I + 1 => if kb zm (I * (k + 1)) k = κ then some I else lastIdx κ I

theorem lastIdx_some {κ : List UInt8} : ∀ {I r : Nat}, lastIdx zm k κ I = some r → r < I ∧ kb zm (r * (k + 1)) k = κ ∧ ∀ r2, r < r2 → r2 < I → kb zm (r2 * (k + 1)) k ≠ κ
  | 0, r, h => by simp [lastIdx] at h
  | I + 1, r, h => by
    unfold lastIdx at h
    by_cases hI : kb zm (I * (k + 1)) k = κ
    · rw [if_pos hI] at h
      obtain rfl := Option.some.inj h
      exact ⟨by omega, hI, fun r2 h1 h2 => by omega⟩
    · rw [if_neg hI] at h
      obtain ⟨h1, h2, h3⟩ := lastIdx_some h
      refine ⟨by omega, h2, fun r2 g1 g2 => ?_⟩
      rcases Nat.lt_or_ge r2 I with hh | hh
      · exact h3 r2 g1 hh
      · have : r2 = I := by omega
        rw [this]; exact hI

theorem lastIdx_none {κ : List UInt8} : ∀ {I : Nat}, lastIdx zm k κ I = none → ∀ r, r < I → kb zm (r * (k + 1)) k ≠ κ
  | 0, h, r, hr => by omega
  | I + 1, h, r, hr => by
    unfold lastIdx at h
    by_cases hI : kb zm (I * (k + 1)) k = κ
    · rw [if_pos hI] at h; cases h
    · rw [if_neg hI] at h
      rcases Nat.lt_or_ge r I with hh | hh
      · exact lastIdx_none h r hh
      · have : r = I := by omega
        rw [this]; exact hI

/-- What the map holds at κ behind I marks and j records. -/
def val (I j : Nat) (κ : List UInt8) : Option Int :=
  match lastIdx zm k κ I with
  | some r => some ((r * (k + 1) : Nat) : Int)
  | none => if (List.range j).any (fun e => decide (kb zr (e * (k + 1)) k = κ)) then some (-1) else none

theorem val_mark (I : Nat) (κ : List UInt8) : val zm zr k (I + 1) 0 κ = if κ = kb zm (I * (k + 1)) k then some ((I * (k + 1) : Nat) : Int) else val zm zr k I 0 κ := by
  by_cases h : kb zm (I * (k + 1)) k = κ
  · rw [if_pos h.symm]
    simp [val, lastIdx, h]
  · rw [if_neg (fun e => h e.symm)]
    simp [val, lastIdx, h]

theorem val_none {j : Nat} (hm : Byt zm) (hr : Byt zr) : val zm zr k nm j (kb zr (j * (k + 1)) k) = none ↔ fresh zm zr nm k j = true := by
  rw [fresh_iff]
  constructor
  · intro h
    cases hl : lastIdx zm k (kb zr (j * (k + 1)) k) nm with
    | some r => simp [val, hl] at h
    | none =>
      have h1 := lastIdx_none zm k hl
      refine ⟨fun i hi => ?_, fun e he => ?_⟩
      · cases hk : keyEq zm (i * (k + 1)) zr (j * (k + 1)) k
        · rfl
        · exact absurd ((kb_eq hm hr).2 hk) (h1 i hi)
      · cases hk : keyEq zr (e * (k + 1)) zr (j * (k + 1)) k
        · rfl
        · have : (List.range j).any (fun e => decide (kb zr (e * (k + 1)) k = kb zr (j * (k + 1)) k)) = true := by
            rw [List.any_eq_true]
            exact ⟨e, List.mem_range.2 he, by simp [(kb_eq hr hr).2 hk]⟩
          simp [val, hl, this] at h
  · rintro ⟨h1, h2⟩
    cases hl : lastIdx zm k (kb zr (j * (k + 1)) k) nm with
    | some r =>
      obtain ⟨g1, g2, _⟩ := lastIdx_some zm k hl
      have := h1 r g1
      rw [(kb_eq hm hr).1 g2] at this
      cases this
    | none =>
      have : (List.range j).any (fun e => decide (kb zr (e * (k + 1)) k = kb zr (j * (k + 1)) k)) = false := by
        rw [Bool.eq_false_iff]
        intro h
        rw [List.any_eq_true] at h
        obtain ⟨e, he, h3⟩ := h
        have h3 : kb zr (e * (k + 1)) k = kb zr (j * (k + 1)) k := by simpa using h3
        have := h2 e (List.mem_range.1 he)
        rw [(kb_eq hr hr).1 h3] at this
        cases this
      simp [val, hl, this]

/-- A fresh record: its key is held from now on. -/
theorem val_fresh {j : Nat} (hm : Byt zm) (hr : Byt zr) (hf : fresh zm zr nm k j = true) (κ : List UInt8) : val zm zr k nm (j + 1) κ = if κ = kb zr (j * (k + 1)) k then some (-1) else val zm zr k nm j κ := by
  by_cases h : κ = kb zr (j * (k + 1)) k
  · rw [if_pos h]
    subst h
    have hn := (val_none zm zr nm k hm hr).2 hf
    cases hl : lastIdx zm k (kb zr (j * (k + 1)) k) nm with
    | some r => simp [val, hl] at hn
    | none => simp [val, hl, List.range_succ, List.any_append]
  · rw [if_neg h]
    have : decide (kb zr (j * (k + 1)) k = κ) = false := decide_eq_false (fun e => h e.symm)
    unfold val
    cases lastIdx zm k κ nm with
    | some r => rfl
    | none => simp [List.range_succ, List.any_append, this]

/-- A record that isn't fresh: the map holds what it held. -/
theorem val_stale {j : Nat} (hm : Byt zm) (hr : Byt zr) (hf : fresh zm zr nm k j = false) (κ : List UInt8) : val zm zr k nm (j + 1) κ = val zm zr k nm j κ := by
  by_cases h : κ = kb zr (j * (k + 1)) k
  · subst h
    have hn : val zm zr k nm j (kb zr (j * (k + 1)) k) ≠ none := fun e => by
      rw [(val_none zm zr nm k hm hr).1 e] at hf; cases hf
    unfold val at hn ⊢
    cases hl : lastIdx zm k (kb zr (j * (k + 1)) k) nm with
    | some r => rfl
    | none =>
      rw [hl] at hn
      simp only [ne_eq, ite_eq_right_iff, reduceCtorEq, imp_false, Bool.not_eq_true, Bool.not_eq_false] at hn
      simp [List.range_succ, List.any_append, hn]
  · have : decide (kb zr (j * (k + 1)) k = κ) = false := decide_eq_false (fun e => h e.symm)
    unfold val
    cases lastIdx zm k κ nm with
    | some r => rfl
    | none => simp [List.range_succ, List.any_append, this]

/-- Which marks are reset behind j records. -/
def reset (j r : Nat) : Bool := last zm nm k r && hit zm zr k j r

theorem reset_mark {j r : Nat} (hm : Byt zm) (hr : Byt zr) (hl : lastIdx zm k (kb zr (j * (k + 1)) k) nm = some r) : ∀ r', r' < nm → reset zm zr nm k (j + 1) r' = (reset zm zr nm k j r' || decide (r' = r)) := by
  intro r' hr'
  obtain ⟨g1, g2, g3⟩ := lastIdx_some zm k hl
  have hrk := (kb_eq hm hr).1 g2
  unfold reset
  rw [hit_succ]
  by_cases he : r' = r
  · subst he
    have : last zm nm k r' = true := (last_iff zm nm k).2 (fun r2 h1 h2 => by
      cases hk : keyEq zm (r2 * (k + 1)) zm (r' * (k + 1)) k
      · rfl
      · exact absurd (((kb_eq hm hm).2 hk).trans g2) (g3 r2 h1 h2))
    simp [this, hrk]
  · have hd : decide (r' = r) = false := decide_eq_false he
    rw [hd, Bool.or_false]
    cases hk : keyEq zm (r' * (k + 1)) zr (j * (k + 1)) k
    · rw [Bool.or_false]
    · have hκ := (kb_eq hm hr).2 hk
      have hlt : r' < r := by
        rcases Nat.lt_trichotomy r' r with h | h | h
        · exact h
        · exact absurd h he
        · exact absurd hκ (g3 r' h hr')
      have hkk : keyEq zm (r * (k + 1)) zm (r' * (k + 1)) k = true := (kb_eq hm hm).1 (g2.trans hκ.symm)
      have : last zm nm k r' = false := by
        cases hl' : last zm nm k r'
        · rfl
        · have := (last_iff zm nm k).1 hl' r hlt g1
          rw [hkk] at this; cases this
      simp [this]

theorem reset_other {j : Nat} (hm : Byt zm) (hr : Byt zr) (hl : lastIdx zm k (kb zr (j * (k + 1)) k) nm = none) : ∀ r', r' < nm → reset zm zr nm k (j + 1) r' = reset zm zr nm k j r' := by
  intro r' hr'
  have h1 := lastIdx_none zm k hl r' hr'
  unfold reset
  rw [hit_succ]
  cases hk : keyEq zm (r' * (k + 1)) zr (j * (k + 1)) k
  · rw [Bool.or_false]
  · exact absurd ((kb_eq hm hr).2 hk) h1

theorem reset_zero (r : Nat) : reset zm zr nm k 0 r = false := by simp [reset, hit]

end
end Go.Proofs.Qxb6602052aMods
