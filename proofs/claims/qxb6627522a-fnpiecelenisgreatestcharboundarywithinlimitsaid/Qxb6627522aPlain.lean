/-
  THE PLAIN LAW OF SEAT b6627522a: no Go in sight. Bytes are a function 'f : Nat → Int' and a length 'n'.
-/
namespace Go.Proofs.Qxb6627522a.Plain

/-- a continuation byte -/
def cont (c : Int) : Bool := decide (128 ≤ c) && decide (c ≤ 191)

/-- how many bytes the lead byte announces; 0: no lead byte -/
def need (b : Int) : Nat :=
  if b < 128 then 1 else if b < 194 then 0 else if b ≤ 223 then 2 else if b ≤ 239 then 3 else if b ≤ 244 then 4 else 0

def lo (b : Int) : Int := if b = 224 then 160 else if b = 240 then 144 else 128
def hi (b : Int) : Int := if b = 237 then 159 else if b = 244 then 143 else 191

/-- the length of the well-formed sequence at the head of 'rem' bytes that begin c0 c1 c2 c3 -/
def seqC (rem : Nat) (c0 c1 c2 c3 : Int) : Nat :=
  if rem = 0 then 0
  else if c0 < 128 then 1
  else if need c0 = 0 then 0
  else if rem < need c0 then 0
  else if c1 < lo c0 then 0
  else if hi c0 < c1 then 0
  else if 3 ≤ need c0 ∧ cont c2 = false then 0
  else if 4 ≤ need c0 ∧ cont c3 = false then 0
  else need c0

theorem cont_no {c : Int} (h : c < 128 ∨ 191 < c) : cont c = false := by simp [cont]; omega
theorem cont_yes {c : Int} (h : 128 ≤ c) (h' : c ≤ 191) : cont c = true := by simp [cont]; omega

/-- no sequence -/
theorem seqC_no {rem : Nat} {c0 c1 c2 c3 : Int} {N : Nat} {L H : Int} (h0 : ¬ c0 < 128) (hn : need c0 = N) (hl : lo c0 = L) (hh : hi c0 = H)
    (h : N = 0 ∨ rem < N ∨ c1 < L ∨ H < c1 ∨ (3 ≤ N ∧ (c2 < 128 ∨ 191 < c2)) ∨ (4 ≤ N ∧ (c3 < 128 ∨ 191 < c3))) : seqC rem c0 c1 c2 c3 = 0 := by
  subst hn hl hh
  unfold seqC
  by_cases a0 : rem = 0
  · rw [if_pos a0]
  rw [if_neg a0, if_neg h0]
  by_cases a2 : need c0 = 0
  · rw [if_pos a2]
  rw [if_neg a2]
  by_cases a3 : rem < need c0
  · rw [if_pos a3]
  rw [if_neg a3]
  by_cases a4 : c1 < lo c0
  · rw [if_pos a4]
  rw [if_neg a4]
  by_cases a5 : hi c0 < c1
  · rw [if_pos a5]
  rw [if_neg a5]
  rcases h with h | h | h | h | ⟨h, h'⟩ | ⟨h, h'⟩
  · exact absurd h a2
  · exact absurd h a3
  · exact absurd h a4
  · exact absurd h a5
  · rw [if_pos ⟨h, cont_no h'⟩]
  · by_cases a6 : 3 ≤ need c0 ∧ cont c2 = false
    · rw [if_pos a6]
    · rw [if_neg a6, if_pos ⟨h, cont_no h'⟩]

/-- a whole sequence -/
theorem seqC_yes {rem : Nat} {c0 c1 c2 c3 : Int} {N : Nat} {L H : Int} (h0 : ¬ c0 < 128) (hn : need c0 = N) (hl : lo c0 = L) (hh : hi c0 = H) (hN : N ≠ 0) (hr : N ≤ rem)
    (h1 : L ≤ c1) (h2 : c1 ≤ H) (h3 : 3 ≤ N → 128 ≤ c2 ∧ c2 ≤ 191) (h4 : 4 ≤ N → 128 ≤ c3 ∧ c3 ≤ 191) : seqC rem c0 c1 c2 c3 = N := by
  subst hn hl hh
  have a6 : ¬ (3 ≤ need c0 ∧ cont c2 = false) := fun ⟨a, b⟩ => by rw [cont_yes (h3 a).1 (h3 a).2] at b; cases b
  have a7 : ¬ (4 ≤ need c0 ∧ cont c3 = false) := fun ⟨a, b⟩ => by rw [cont_yes (h4 a).1 (h4 a).2] at b; cases b
  have a0 : ¬ rem = 0 := by omega
  have a3 : ¬ rem < need c0 := by omega
  have a4 : ¬ c1 < lo c0 := by omega
  have a5 : ¬ hi c0 < c1 := by omega
  rw [seqC, if_neg a0, if_neg h0, if_neg hN, if_neg a3, if_neg a4, if_neg a5, if_neg a6, if_neg a7]

theorem seqC_one {rem : Nat} {c0 c1 c2 c3 : Int} (h0 : c0 < 128) (hr : 1 ≤ rem) : seqC rem c0 c1 c2 c3 = 1 := by
  have a0 : ¬ rem = 0 := by omega
  rw [seqC, if_neg a0, if_pos h0]

theorem need_le (b : Int) : need b ≤ 4 := by
  unfold need; repeat' split
  all_goals omega

theorem need_two (b : Int) (h : ¬ b < 128) (h0 : need b ≠ 0) : 2 ≤ need b ∧ 194 ≤ b := by
  unfold need at *
  repeat' split at h0
  all_goals first | omega | (simp_all; done) | skip
  all_goals (repeat' split) <;> omega

theorem seqC_le (rem : Nat) (c0 c1 c2 c3 : Int) : seqC rem c0 c1 c2 c3 ≤ 4 ∧ seqC rem c0 c1 c2 c3 ≤ rem := by
  have := need_le c0
  unfold seqC; repeat' split
  all_goals omega

theorem lohi (b : Int) : 128 ≤ lo b ∧ hi b ≤ 191 := by
  unfold lo hi; constructor <;> (repeat' split) <;> omega

/-- what a sequence's bytes are -/
theorem seqC_pos {rem : Nat} {c0 c1 c2 c3 : Int} (h : seqC rem c0 c1 c2 c3 ≠ 0) :
    cont c0 = false ∧ (1 < seqC rem c0 c1 c2 c3 → cont c1 = true) ∧ (2 < seqC rem c0 c1 c2 c3 → cont c2 = true) ∧ (3 < seqC rem c0 c1 c2 c3 → cont c3 = true) := by
  have hl := lohi c0
  by_cases a0 : rem = 0
  · simp [seqC, a0] at h
  by_cases a1 : c0 < 128
  · have e : seqC rem c0 c1 c2 c3 = 1 := by simp [seqC, a0, a1]
    rw [e]
    refine ⟨?_, by omega, by omega, by omega⟩
    simp [cont]; omega
  by_cases a2 : need c0 = 0
  · simp [seqC, a0, a1, a2] at h
  have hn := need_two c0 a1 a2
  by_cases a3 : rem < need c0
  · simp [seqC, a0, a1, a2, a3] at h
  by_cases a4 : c1 < lo c0
  · simp [seqC, a0, a1, a2, a3, a4] at h
  by_cases a5 : hi c0 < c1
  · simp [seqC, a0, a1, a2, a3, a4, a5] at h
  by_cases a6 : 3 ≤ need c0 ∧ cont c2 = false
  · simp [seqC, a0, a1, a2, a3, a4, a5, a6] at h
  by_cases a7 : 4 ≤ need c0 ∧ cont c3 = false
  · rw [seqC, if_neg a0, if_neg a1, if_neg a2, if_neg a3, if_neg a4, if_neg a5, if_neg a6, if_pos a7] at h; exact absurd rfl h
  have e : seqC rem c0 c1 c2 c3 = need c0 := by rw [seqC, if_neg a0, if_neg a1, if_neg a2, if_neg a3, if_neg a4, if_neg a5, if_neg a6, if_neg a7]
  rw [e]
  refine ⟨by simp [cont]; omega, fun _ => by simp [cont]; omega, fun x => ?_, fun x => ?_⟩
  · cases hc : cont c2
    · exact absurd ⟨by omega, hc⟩ a6
    · rfl
  · cases hc : cont c3
    · exact absurd ⟨by omega, hc⟩ a7
    · rfl

/-- a sequence that ends within a shorter text is one there too -/
theorem seqC_short {rem m : Nat} {c0 c1 c2 c3 : Int} (h : seqC rem c0 c1 c2 c3 ≠ 0) (hm : seqC rem c0 c1 c2 c3 ≤ m) :
    seqC m c0 c1 c2 c3 = seqC rem c0 c1 c2 c3 := by
  by_cases a0 : rem = 0
  · simp [seqC, a0] at h
  by_cases a1 : c0 < 128
  · have e : seqC rem c0 c1 c2 c3 = 1 := by simp [seqC, a0, a1]
    rw [e] at hm
    rw [e, seqC, if_neg (by omega), if_pos a1]
  by_cases a2 : need c0 = 0
  · simp [seqC, a0, a1, a2] at h
  by_cases a3 : rem < need c0
  · simp [seqC, a0, a1, a2, a3] at h
  have h4 : seqC rem c0 c1 c2 c3 = need c0 := by
    have hp := h
    rw [seqC, if_neg a0, if_neg a1, if_neg a2, if_neg a3] at hp ⊢
    repeat' split at hp
    all_goals first | exact absurd rfl hp | skip
    all_goals (rw [if_neg (by assumption), if_neg (by assumption), if_neg (by assumption), if_neg (by assumption)])
  have hm' := hm
  rw [h4] at hm'
  have m0 : ¬ m = 0 := by omega
  have m1 : ¬ m < need c0 := by omega
  rw [seqC, seqC, if_neg a0, if_neg a1, if_neg a2, if_neg a3, if_neg m0, if_neg m1]
  rw [if_neg a1, if_neg a2]

/-- the length of the sequence at i of the n bytes f -/
def seq (f : Nat → Int) (n i : Nat) : Nat := seqC (n - i) (f i) (f (i + 1)) (f (i + 2)) (f (i + 3))

theorem seq_le4 (f : Nat → Int) (n i : Nat) : seq f n i ≤ 4 := (seqC_le _ _ _ _ _).1
theorem seq_end {f : Nat → Int} {n i : Nat} (h : i ≤ n) : i + seq f n i ≤ n := by have := (seqC_le (n - i) (f i) (f (i + 1)) (f (i + 2)) (f (i + 3))).2; unfold seq; omega

theorem seq_lead {f : Nat → Int} {n i : Nat} (h : seq f n i ≠ 0) : cont (f i) = false := (seqC_pos h).1
theorem seq_tail {f : Nat → Int} {n i j : Nat} (h : seq f n i ≠ 0) (h1 : i < j) (h2 : j < i + seq f n i) : cont (f j) = true := by
  have hp := seqC_pos h
  have h4 := seq_le4 f n i
  obtain ⟨t, rfl⟩ : ∃ t, j = i + t := ⟨j - i, by omega⟩
  match t, h1, h2 with
  | 0, h1, _ => omega
  | 1, _, h2 => exact hp.2.1 (by unfold seq at h2; omega)
  | 2, _, h2 => exact hp.2.2.1 (by unfold seq at h2; omega)
  | 3, _, h2 => exact hp.2.2.2 (by unfold seq at h2; omega)
  | t + 4, _, h2 => omega

theorem seq_short {f : Nat → Int} {n m i : Nat} (h : seq f n i ≠ 0) (hm : i + seq f n i ≤ m) : seq f m i = seq f n i :=
  seqC_short h (by unfold seq at hm; omega)

theorem seq_shift (f : Nat → Int) (a n i : Nat) : seq (fun j => f (a + j)) n i = seq f (a + n) (a + i) := by
  unfold seq
  rw [show a + n - (a + i) = n - i from by omega]
  simp only [Nat.add_assoc]

/-- from i on the n bytes f are whole sequences -/
def vf (f : Nat → Int) (n : Nat) : Nat → Nat → Bool
  | 0, i => decide (n ≤ i)
  | k + 1, i => if n ≤ i then true else if seq f n i = 0 then false else vf f n k (i + seq f n i)

theorem vf_end {f : Nat → Int} {n : Nat} (k : Nat) {i : Nat} (h : n ≤ i) : vf f n k i = true := by
  cases k <;> simp [vf, h]

/-- fuel enough is fuel enough -/
theorem vf_fuel (f : Nat → Int) (n : Nat) : ∀ (k k' i : Nat), n ≤ i + k → n ≤ i + k' → vf f n k i = vf f n k' i := by
  intro k
  induction k with
  | zero => intro k' i h h'; rw [vf_end 0 (by omega), vf_end k' (by omega)]
  | succ k ih =>
    intro k' i h h'
    by_cases hi : n ≤ i
    · rw [vf_end _ hi, vf_end _ hi]
    · cases k' with
      | zero => omega
      | succ k' =>
        rw [vf, vf, if_neg hi, if_neg hi]
        by_cases h0 : seq f n i = 0
        · rw [if_pos h0, if_pos h0]
        · rw [if_neg h0, if_neg h0]
          exact ih k' _ (by omega) (by omega)

/-- valid from i on -/
def V (f : Nat → Int) (n i : Nat) : Bool := vf f n n i

theorem V_end {f : Nat → Int} {n i : Nat} (h : n ≤ i) : V f n i = true := vf_end _ h
theorem V_zero {f : Nat → Int} {n i : Nat} (h : i < n) (h0 : seq f n i = 0) : V f n i = false := by
  unfold V
  cases n with
  | zero => omega
  | succ n => rw [vf, if_neg (by omega), if_pos h0]
theorem V_step {f : Nat → Int} {n i : Nat} (h : i < n) (h0 : seq f n i ≠ 0) : V f n i = V f n (i + seq f n i) := by
  unfold V
  have e : vf f n n i = vf f n (n + 1) i := vf_fuel f n _ _ _ (by omega) (by omega)
  rw [e, vf, if_neg (by omega), if_neg h0]
theorem V_seq {f : Nat → Int} {n i : Nat} (h : i < n) (hv : V f n i = true) : seq f n i ≠ 0 := by
  intro h0; rw [V_zero h h0] at hv; cases hv

theorem V_shift (f : Nat → Int) (a n i : Nat) : V (fun j => f (a + j)) n i = V f (a + n) (a + i) := by
  have h : ∀ k i, vf (fun j => f (a + j)) n k i = vf f (a + n) k (a + i) := by
    intro k
    induction k with
    | zero => intro i; simp [vf]
    | succ k ih =>
      intro i
      rw [vf, vf, seq_shift]
      by_cases h1 : n ≤ i
      · rw [if_pos h1, if_pos (by omega)]
      · have h2 : ¬ a + n ≤ a + i := by omega
        rw [if_neg h1, if_neg h2, ih, Nat.add_assoc]
  unfold V
  rw [h]
  exact vf_fuel _ _ _ _ _ (by omega) (by omega)

/-- the cut: the greatest whole end at or below L -/
theorem cut_at (f : Nat → Int) (n L : Nat) (hL : L < n) : ∀ (k i : Nat), L ≤ i + k → i ≤ L → V f n i = true →
    ∃ c, i ≤ c ∧ c ≤ L ∧ V f n c = true ∧ L < c + seq f n c ∧ V f c i = true := by
  intro k
  induction k with
  | zero =>
    intro i h1 h2 hv
    have hs := V_seq (by omega) hv
    exact ⟨i, Nat.le_refl _, h2, hv, by omega, V_end (Nat.le_refl _)⟩
  | succ k ih =>
    intro i h1 h2 hv
    have hs := V_seq (by omega) hv
    by_cases hc : L < i + seq f n i
    · exact ⟨i, Nat.le_refl _, h2, hv, hc, V_end (Nat.le_refl _)⟩
    · obtain ⟨c, a1, a2, a3, a4, a5⟩ := ih (i + seq f n i) (by omega) (by omega) (by rw [← V_step (by omega) hs]; exact hv)
      refine ⟨c, by omega, a2, a3, a4, ?_⟩
      have e := seq_short (f := f) (n := n) (m := c) (i := i) hs a1
      rw [V_step (by omega) (by rw [e]; exact hs), e]
      exact a5

/-- what PieceLen answers for a longer text: the first of limit, limit-1, limit-2, limit-3 that is no continuation byte; else limit -/
def cutC (limit : Nat) (f : Nat → Int) : Nat :=
  if cont (f limit) = false then limit
  else if cont (f (limit - 1)) = false then limit - 1
  else if cont (f (limit - 2)) = false then limit - 2
  else if cont (f (limit - 3)) = false then limit - 3
  else limit

theorem cutC_range (limit : Nat) (f : Nat → Int) (h : 4 ≤ limit) : limit - 3 ≤ cutC limit f ∧ cutC limit f ≤ limit := by
  unfold cutC; repeat' split
  all_goals omega

theorem cutC_of {f : Nat → Int} {n c limit : Nat} (h4 : 4 ≤ limit) (hs : seq f n c ≠ 0) (h1 : c ≤ limit) (h2 : limit < c + seq f n c) : cutC limit f = c := by
  have hle := seq_le4 f n c
  have hl := seq_lead hs
  have ht : ∀ j, c < j → j ≤ limit → ¬ cont (f j) = false := fun j a b => by rw [seq_tail hs a (by omega)]; simp
  unfold cutC
  by_cases e0 : c = limit
  · subst e0; rw [if_pos hl]
  rw [if_neg (ht _ (by omega) (by omega))]
  by_cases e1 : c = limit - 1
  · subst e1; rw [if_pos hl]
  rw [if_neg (ht _ (by omega) (by omega))]
  by_cases e2 : c = limit - 2
  · subst e2; rw [if_pos hl]
  rw [if_neg (ht _ (by omega) (by omega))]
  have e3 : c = limit - 3 := by omega
  subst e3; rw [if_pos hl]

end Go.Proofs.Qxb6627522a.Plain
