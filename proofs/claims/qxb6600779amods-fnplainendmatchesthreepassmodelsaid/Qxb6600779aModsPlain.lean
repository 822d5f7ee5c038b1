/-
  Seat b6600779aM: the plain law of plainEnd, with no Go in sight: what the answer is, that it is one, and how it moves.
-/
namespace Go.Proofs.Qxb6600779aMods

def blankB (z : Nat → Int) (n i : Nat) : Bool := i == n || z i == 32 || z i == 10

/-- What the scan meets at i: 0 nothing, 1 the end of the scalar (a newline, a comment), 2 a key's colon. -/
def ev (z : Nat → Int) (n i : Nat) : Nat :=
  if z i = 10 then 1 else if z i = 58 then (if blankB z n (i + 1) then 2 else 0) else if z i = 32 then (if i + 1 < n ∧ z (i + 1) = 35 then 1 else 0) else 0

/-- From i back to e there are spaces alone, and e is pos or stands behind another sign. -/
def Trim (z : Nat → Int) (pos i e : Nat) : Prop := pos ≤ e ∧ e ≤ i ∧ (∀ j, e ≤ j → j < i → z j = 32) ∧ (e = pos ∨ ¬ z (e - 1) = 32)

/-- The scan from pos stops at i. -/
def Quiet (z : Nat → Int) (n pos i : Nat) : Prop := pos ≤ i ∧ i ≤ n ∧ ∀ j, pos ≤ j → j < i → ev z n j = 0

/-- plainEnd's answer is e, k. -/
def PE (z : Nat → Int) (n pos e : Nat) (k : Bool) : Prop :=
  ∃ i, Quiet z n pos i ∧ ((k = true ∧ i < n ∧ ev z n i = 2 ∧ e = i) ∨ (k = false ∧ (i = n ∨ (i < n ∧ ev z n i = 1)) ∧ Trim z pos i e))

theorem Trim.one {z : Nat → Int} {pos i e e' : Nat} (h : Trim z pos i e) (h' : Trim z pos i e') : e = e' := by
  obtain ⟨a1, a2, a3, a4⟩ := h
  obtain ⟨b1, b2, b3, b4⟩ := h'
  rcases Nat.lt_trichotomy e e' with hlt | heq | hgt
  · rcases b4 with b4 | b4
    · omega
    · exact absurd (a3 (e' - 1) (by omega) (by omega)) b4
  · exact heq
  · rcases a4 with a4 | a4
    · omega
    · exact absurd (b3 (e - 1) (by omega) (by omega)) a4

theorem PE.one {z : Nat → Int} {n pos e e' : Nat} {k k' : Bool} (h : PE z n pos e k) (h' : PE z n pos e' k') : e = e' ∧ k = k' := by
  obtain ⟨i, ⟨q1, q2, q3⟩, h⟩ := h
  obtain ⟨j, ⟨r1, r2, r3⟩, h'⟩ := h'
  have hij : i = j := by
    rcases Nat.lt_trichotomy i j with hlt | heq | hgt
    · have := r3 i q1 hlt
      rcases h with ⟨_, _, h, _⟩ | ⟨_, h | ⟨_, h⟩, _⟩ <;> omega
    · exact heq
    · have := q3 j r1 hgt
      rcases h' with ⟨_, _, h, _⟩ | ⟨_, h | ⟨_, h⟩, _⟩ <;> omega
  subst hij
  rcases h with ⟨h1, h2, h3, h4⟩ | ⟨h1, h2, h3⟩ <;> rcases h' with ⟨g1, g2, g3, g4⟩ | ⟨g1, g2, g3⟩
  · exact ⟨by omega, by rw [h1, g1]⟩
  · rcases g2 with g2 | g2 <;> omega
  · rcases h2 with h2 | h2 <;> omega
  · exact ⟨h3.one g3, by rw [h1, g1]⟩

theorem PE.le {z : Nat → Int} {n pos e : Nat} {k : Bool} (h : PE z n pos e k) : e ≤ n := by
  obtain ⟨i, ⟨_, q2, _⟩, ⟨_, _, _, h4⟩ | ⟨_, _, _, t2, _⟩⟩ := h <;> omega

theorem blankB_lt {z : Nat → Int} {n i : Nat} (h : i < n) : blankB z n i = (z i == 32 || z i == 10) := by
  have : (i == n) = false := beq_eq_false_iff_ne.2 (by omega)
  unfold blankB
  rw [this]
  rfl

/-- A longer text with the same bytes around: the line ends inside both. -/
theorem PE.move {z y : Nat → Int} {n m d e : Nat} {k : Bool} (q : Nat) (hq : q < m) (hm : d + m ≤ n) (hz : ∀ j, j < m → z (d + j) = y j) (hnl : y q = 10) (h : PE y m 0 e k) : PE z n d (e + d) k := by
  obtain ⟨i, ⟨_, q2, q3⟩, h⟩ := h
  have hiq : i ≤ q := by
    rcases Nat.lt_or_ge q i with hlt | hge
    · have := q3 q (Nat.zero_le _) hlt
      simp [ev, hnl] at this
    · exact hge
  -- up to q both texts show the same
  have hev : ∀ j, j ≤ q → ev z n (d + j) = ev y m j := by
    intro j hj
    have e0 : z (d + j) = y j := hz j (by omega)
    rcases Nat.lt_or_ge j q with hlt | hge
    · have e1 : z (d + j + 1) = y (j + 1) := by rw [Nat.add_assoc]; exact hz (j + 1) (by omega)
      have hb : blankB z n (d + j + 1) = blankB y m (j + 1) := by rw [blankB_lt (by omega), blankB_lt (by omega), e1]
      unfold ev
      rw [e0, e1, hb]
      have t1 : d + j + 1 < n := by omega
      have t2 : j + 1 < m := by omega
      simp only [t1, t2]
    · have : j = q := by omega
      subst this
      unfold ev
      rw [e0, hnl]
      rfl
  refine ⟨d + i, ⟨by omega, by omega, ?_⟩, ?_⟩
  · intro j h1 h2
    obtain ⟨j', rfl⟩ : ∃ j', j = d + j' := ⟨j - d, by omega⟩
    rw [hev j' (by omega)]
    exact q3 j' (Nat.zero_le _) (by omega)
  · rcases h with ⟨h1, h2, h3, h4⟩ | ⟨h1, h2, t1, t2, t3, t4⟩
    · exact .inl ⟨h1, by omega, by rw [hev i hiq]; exact h3, by omega⟩
    · refine .inr ⟨h1, ?_, by omega, by omega, ?_, ?_⟩
      · rcases h2 with h2 | ⟨h2, h3⟩
        · omega
        · exact .inr ⟨by omega, by rw [hev i hiq]; exact h3⟩
      · intro j g1 g2
        obtain ⟨j', rfl⟩ : ∃ j', j = d + j' := ⟨j - d, by omega⟩
        rw [hz j' (by omega)]
        exact t3 j' (by omega) (by omega)
      · rcases t4 with t4 | t4
        · exact .inl (by omega)
        · rcases Nat.eq_zero_or_pos e with he | he
          · exact .inl (by omega)
          · refine .inr ?_
            have : e + d - 1 = d + (e - 1) := by omega
            rw [this, hz (e - 1) (by omega)]
            exact t4

/-- The three passes: the line's end, the comment, the key. -/
def PM (z : Nat → Int) (n pos e : Nat) (k : Bool) : Prop :=
  ∃ le st, (pos ≤ le ∧ le ≤ n ∧ (∀ j, pos ≤ j → j < le → ¬ z j = 10) ∧ (le = n ∨ (le < n ∧ z le = 10))) ∧
    (pos ≤ st ∧ st ≤ le ∧ (∀ j, pos ≤ j → j < st → j + 1 < le → ¬ (z j = 32 ∧ z (j + 1) = 35)) ∧ (st = le ∨ (st + 1 < le ∧ z st = 32 ∧ z (st + 1) = 35))) ∧
    ((k = true ∧ pos ≤ e ∧ e < st ∧ z e = 58 ∧ blankB z n (e + 1) = true ∧ ∀ j, pos ≤ j → j < e → ¬ (z j = 58 ∧ blankB z n (j + 1) = true)) ∨
     (k = false ∧ (∀ j, pos ≤ j → j < st → ¬ (z j = 58 ∧ blankB z n (j + 1) = true)) ∧ Trim z pos st e))

theorem PM.pe {z : Nat → Int} {n pos e : Nat} {k : Bool} (h : PM z n pos e k) : PE z n pos e k := by
  obtain ⟨le, st, ⟨l1, l2, l3, l4⟩, ⟨s1, s2, s3, s4⟩, h⟩ := h
  -- below st nothing but a key's colon is met
  have hq : ∀ j, pos ≤ j → j < st → ¬ (z j = 58 ∧ blankB z n (j + 1) = true) → ev z n j = 0 := by
    intro j h1 h2 h3
    unfold ev
    rw [if_neg (l3 j h1 (by omega))]
    split
    · rename_i h58
      rw [if_neg (fun hb => h3 ⟨h58, hb⟩)]
    · split
      · rename_i h32
        rw [if_neg]
        rintro ⟨g1, g2⟩
        have hle : j + 1 < le := by
          rcases Nat.lt_or_ge (j + 1) le with hh | hh
          · exact hh
          · have : le = j + 1 := by omega
            rcases l4 with l4 | ⟨_, l4⟩
            · omega
            · rw [this, g2] at l4; omega
        exact s3 j h1 h2 hle ⟨h32, g2⟩
      · rfl
  rcases h with ⟨rfl, h1, h2, h3, h4, h5⟩ | ⟨rfl, h1, h2⟩
  · refine ⟨e, ⟨h1, by omega, fun j g1 g2 => hq j g1 (by omega) (h5 j g1 g2)⟩, .inl ⟨rfl, by omega, ?_, rfl⟩⟩
    simp [ev, h3, h4]
  · refine ⟨st, ⟨s1, by omega, fun j g1 g2 => hq j g1 g2 (h1 j g1 g2)⟩, .inr ⟨rfl, ?_, h2⟩⟩
    rcases s4 with s4 | ⟨g1, g2, g3⟩
    · rcases l4 with l4 | ⟨g1, g2⟩
      · exact .inl (by omega)
      · refine .inr ⟨by omega, ?_⟩
        rw [s4]
        simp [ev, g2]
    · refine .inr ⟨by omega, ?_⟩
      have : st + 1 < n := by omega
      simp [ev, g2, g3, this]

end Go.Proofs.Qxb6600779aMods
