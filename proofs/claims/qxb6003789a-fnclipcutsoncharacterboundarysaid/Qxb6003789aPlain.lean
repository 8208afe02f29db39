/-
  DERIVED. THE PLAIN LAW of the clip statement: no Go in sight: bytes as a function of their place.
-/
namespace Go.Proofs.Qxb6003789a.Plain

/-- A byte that can only follow: 10xxxxxx. -/
def Cont (b : Nat) : Prop := 128 ≤ b ∧ b ≤ 191

/-- How many bytes a character has whose first byte is c; 0: c opens none. -/
def lead (c : Nat) : Nat :=
  if c < 128 then 1 else if 194 ≤ c ∧ c ≤ 223 then 2 else if 224 ≤ c ∧ c ≤ 239 then 3 else if 240 ≤ c ∧ c ≤ 244 then 4 else 0

/-- What the second byte may be behind c. -/
def Sec (c d : Nat) : Prop := (c = 224 → 160 ≤ d) ∧ (c = 237 → d ≤ 159) ∧ (c = 240 → 144 ≤ d) ∧ (c = 244 → d ≤ 143)

/-- At place i of n bytes g a whole character stands. -/
def OkAt (g : Nat → Nat) (n i : Nat) : Prop :=
  lead (g i) ≠ 0 ∧ i + lead (g i) ≤ n ∧ (∀ k, 1 ≤ k → k < lead (g i) → Cont (g (i + k))) ∧ (2 ≤ lead (g i) → Sec (g i) (g (i + 1)))

/-- From place i on, f characters far: characters alone. -/
def Val (g : Nat → Nat) (n : Nat) : Nat → Nat → Prop
  | 0, _ => True
  | f + 1, i => i < n → OkAt g n i ∧ Val g n f (i + lead (g i))

theorem lead_le (c : Nat) : lead c ≤ 4 := by unfold lead; (repeat' split) <;> omega

theorem not_cont {c : Nat} (h : lead c ≠ 0) : ¬ Cont c := by
  unfold lead at h; unfold Cont; intro hc; apply h
  rw [if_neg (by omega), if_neg (by omega), if_neg (by omega), if_neg (by omega)]

theorem val_end (g : Nat → Nat) (n f i : Nat) (h : n ≤ i) : Val g n f i := by
  cases f with
  | zero => trivial
  | succ f => intro hi; omega

theorem val_step (g : Nat → Nat) (n f i : Nat) (h : i < n) : Val g n (f + 1) i ↔ OkAt g n i ∧ Val g n f (i + lead (g i)) :=
  ⟨fun hv => hv h, fun hv _ => hv⟩

/-- A text of characters alone, cut where no byte that can only follow stands, is one. -/
theorem val_cut (g g' : Nat → Nat) (n p : Nat) (hp : p < n) (hs : ¬ Cont (g p)) (he : ∀ j, j < p → g' j = g j) :
    ∀ f i, i ≤ p → Val g n f i → Val g' p f i := by
  intro f
  induction f with
  | zero => intro i _ _; trivial
  | succ f ih =>
    intro i hi hv hlt
    obtain ⟨⟨h1, h2, h3, h4⟩, hr⟩ := hv (by omega)
    have hle : i + lead (g i) ≤ p := by
      by_cases hc : i + lead (g i) ≤ p
      · exact hc
      · exfalso
        apply hs
        have := h3 (p - i) (by omega) (by omega)
        rwa [show i + (p - i) = p from by omega] at this
    have e0 : g' i = g i := he i hlt
    refine ⟨⟨by rw [e0]; exact h1, by rw [e0]; exact hle, ?_, ?_⟩, ?_⟩
    · intro k k1 k2
      rw [e0] at k2
      rw [he (i + k) (by omega)]
      exact h3 k k1 k2
    · intro k2
      rw [e0] at k2 ⊢
      rw [he (i + 1) (by omega)]
      exact h4 k2
    · rw [e0]; exact ih _ hle hr

/-- A fuel that is less serves too. -/
theorem val_less (g : Nat → Nat) (n : Nat) : ∀ f f' i, f' ≤ f → Val g n f i → Val g n f' i := by
  intro f
  induction f with
  | zero => intro f' i h _; obtain rfl : f' = 0 := (by omega); trivial
  | succ f ih =>
    intro f' i h hv
    cases f' with
    | zero => trivial
    | succ f' => intro hi; exact ⟨(hv hi).1, ih f' _ (by omega) (hv hi).2⟩

/-- No more than three bytes ahead of each place a character begins. -/
theorem near (g : Nat → Nat) (n p : Nat) (hp : p < n) :
    ∀ f i, i ≤ p → n ≤ i + f → Val g n f i → ∃ q, q ≤ p ∧ p ≤ q + 3 ∧ ¬ Cont (g q) := by
  intro f
  induction f with
  | zero => intro i _ _ _; omega
  | succ f ih =>
    intro i hi hn hv
    obtain ⟨⟨h1, h2, h3, h4⟩, hr⟩ := hv (by omega)
    have := lead_le (g i)
    by_cases hc : p < i + lead (g i)
    · exact ⟨i, hi, by omega, not_cont h1⟩
    · exact ih _ (by omega) (by omega) hr

/-- Where clip cuts: the last place up to 40 at which no byte that can only follow stands; or 0. -/
def CutAt (g : Nat → Nat) (i : Nat) : Prop := i ≤ 40 ∧ (i = 0 ∨ ¬ Cont (g i)) ∧ ∀ j, i < j → j ≤ 40 → Cont (g j)

theorem cut_far (g : Nat → Nat) (n i : Nat) (hn : 40 < n) (hc : CutAt g i) (hv : Val g n n 0) : 37 ≤ i := by
  obtain ⟨q, q1, q2, q3⟩ := near g n 40 hn n 0 (by omega) (by omega) hv
  obtain ⟨c1, c2, c3⟩ := hc
  by_cases h : q ≤ i
  · omega
  · exact absurd (c3 q (by omega) q1) q3

theorem cut_valid (g g' : Nat → Nat) (n i : Nat) (hn : 40 < n) (hc : CutAt g i) (hv : Val g n n 0) (he : ∀ j, j < i → g' j = g j) : Val g' i i 0 := by
  have h37 := cut_far g n i hn hc hv
  obtain ⟨c1, c2, c3⟩ := hc
  have hs : ¬ Cont (g i) := by rcases c2 with h | h; omega; exact h
  exact val_less g' i n i 0 (by omega) (val_cut g g' n i (by omega) hs he n 0 (by omega) hv)

theorem cut_ascii (g : Nat → Nat) (n i : Nat) (hn : 40 < n) (hc : CutAt g i) (ha : ∀ j, j < n → g j < 128) : i = 40 := by
  obtain ⟨c1, c2, c3⟩ := hc
  by_cases h : i = 40
  · exact h
  · have := c3 40 (by omega) (by omega)
    have h4 := ha 40 hn
    unfold Cont at this
    omega

end Go.Proofs.Qxb6003789a.Plain
