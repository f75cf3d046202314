/- The plain law of the lines: 'i lies on the line of top', its depth. No Go in sight. -/
namespace Go.Proofs.Ybulkcrss

/-- Is i on the line of top? (with fuel) -/
def onF (bl : Nat → Int) (i : Nat) : Nat → Nat → Bool
  | 0, x => decide (x = i)
  | f + 1, x => if x = i then true else if bl x < 0 then false else onF bl i f (bl x).toNat

/-- Is i on the line of top? -/
def onL (bl : Nat → Int) (x i : Nat) : Bool := onF bl i x x

/-- The depth of x on its line (with fuel). -/
def dpF (bl : Nat → Int) : Nat → Nat → Nat
  | 0, _ => 0
  | f + 1, x => if bl x < 0 then 0 else dpF bl f (bl x).toNat + 1

def dp (bl : Nat → Int) (x : Nat) : Nat := dpF bl x x

/-- Each line goes down. -/
def Down (bl : Nat → Int) : Prop := ∀ x, -1 ≤ bl x ∧ bl x < (x : Int)

theorem onF_fuel {bl : Nat → Int} (hd : Down bl) (i : Nat) : ∀ f g x, x ≤ f → x ≤ g → onF bl i f x = onF bl i g x
  | 0, 0, _, _, _ => rfl
  | 0, g + 1, x, h, _ => by
    have hx : x = 0 := by omega
    subst hx
    have h0 : bl 0 < 0 := by have := hd 0; omega
    simp [onF, h0]
  | f + 1, 0, x, _, h => by
    have hx : x = 0 := by omega
    subst hx
    have h0 : bl 0 < 0 := by have := hd 0; omega
    simp [onF, h0]
  | f + 1, g + 1, x, h1, h2 => by
    have := hd x
    unfold onF
    split
    · rfl
    · split
      · rfl
      · exact onF_fuel hd i f g _ (by omega) (by omega)

theorem dpF_fuel {bl : Nat → Int} (hd : Down bl) : ∀ f g x, x ≤ f → x ≤ g → dpF bl f x = dpF bl g x
  | 0, 0, _, _, _ => rfl
  | 0, g + 1, x, h, _ => by
    have hx : x = 0 := by omega
    subst hx
    have h0 : bl 0 < 0 := by have := hd 0; omega
    simp [dpF, h0]
  | f + 1, 0, x, _, h => by
    have hx : x = 0 := by omega
    subst hx
    have h0 : bl 0 < 0 := by have := hd 0; omega
    simp [dpF, h0]
  | f + 1, g + 1, x, h1, h2 => by
    have := hd x
    unfold dpF
    split
    · rfl
    · rw [dpF_fuel hd f g _ (by omega) (by omega)]

theorem onL_self (bl : Nat → Int) (x : Nat) : onL bl x x = true := by
  unfold onL
  cases x <;> simp [onF]

theorem onL_foot {bl : Nat → Int} {x i : Nat} (h : bl x < 0) (hne : x ≠ i) : onL bl x i = false := by
  unfold onL
  cases x <;> simp [onF, hne, h]

theorem onL_step {bl : Nat → Int} (hd : Down bl) {x i b : Nat} (hb : bl x = (b : Int)) (hne : x ≠ i) : onL bl x i = onL bl b i := by
  have := hd x
  unfold onL
  cases x with
  | zero => omega
  | succ y =>
    have h0 : ¬ bl (y + 1) < 0 := by omega
    have e : (bl (y + 1)).toNat = b := by omega
    rw [onF, if_neg hne, if_neg h0, e]
    exact onF_fuel hd i _ _ _ (by omega) (by omega)

theorem dp_foot {bl : Nat → Int} {x : Nat} (h : bl x < 0) : dp bl x = 0 := by
  unfold dp
  cases x <;> simp [dpF, h]

theorem dp_step {bl : Nat → Int} (hd : Down bl) {x b : Nat} (hb : bl x = (b : Int)) : dp bl x = dp bl b + 1 := by
  have := hd x
  unfold dp
  cases x with
  | zero => omega
  | succ y =>
    have h0 : ¬ bl (y + 1) < 0 := by omega
    have e : (bl (y + 1)).toNat = b := by omega
    rw [dpF, if_neg h0, e]
    rw [dpF_fuel hd y b b (by omega) (by omega)]

theorem dp_le {bl : Nat → Int} (hd : Down bl) : ∀ x, dp bl x ≤ x := by
  intro x
  induction x using Nat.strongRecOn with
  | _ x ih =>
    by_cases h : bl x < 0
    · rw [dp_foot h]; omega
    · have := hd x
      obtain ⟨b, hb⟩ : ∃ b : Nat, bl x = (b : Int) := ⟨(bl x).toNat, by omega⟩
      rw [dp_step hd hb]
      have := ih b (by omega)
      omega

/-- What lies no deeper than i and is not i does not pass through i. -/
theorem onL_no {bl : Nat → Int} (hd : Down bl) (i : Nat) : ∀ x, x ≠ i → dp bl x ≤ dp bl i → onL bl x i = false := by
  intro x
  induction x using Nat.strongRecOn with
  | _ x ih =>
    intro hne hle
    by_cases h : bl x < 0
    · exact onL_foot h hne
    · have hx := hd x
      obtain ⟨b, hb⟩ : ∃ b : Nat, bl x = (b : Int) := ⟨(bl x).toNat, by omega⟩
      have hs := dp_step hd hb
      rw [onL_step hd hb hne]
      exact ih b (by omega) (by intro e; subst e; omega) (by omega)

/-- The event at depth d on x's line (with fuel). -/
def dnF (bl : Nat → Int) (d : Nat) : Nat → Nat → Nat
  | 0, x => x
  | f + 1, x => if d < dp bl x then dnF bl d f (bl x).toNat else x

def dn (bl : Nat → Int) (d x : Nat) : Nat := dnF bl d x x

theorem dnF_fuel {bl : Nat → Int} (hd : Down bl) (d : Nat) : ∀ f g x, x ≤ f → x ≤ g → dnF bl d f x = dnF bl d g x
  | 0, 0, _, _, _ => rfl
  | 0, g + 1, x, h, _ => by
    have hx : x = 0 := by omega
    subst hx
    have h0 := dp_le hd 0
    have h1 : ¬ d < dp bl 0 := by omega
    simp [dnF, h1]
  | f + 1, 0, x, _, h => by
    have hx : x = 0 := by omega
    subst hx
    have h0 := dp_le hd 0
    have h1 : ¬ d < dp bl 0 := by omega
    simp [dnF, h1]
  | f + 1, g + 1, x, h1, h2 => by
    have := hd x
    unfold dnF
    split
    · rename_i hlt
      have hf : ¬ bl x < 0 := fun h => by have := dp_foot h; omega
      exact dnF_fuel hd d f g _ (by omega) (by omega)
    · rfl

theorem dn_at {bl : Nat → Int} {d x : Nat} (h : dp bl x ≤ d) : dn bl d x = x := by
  have h1 : ¬ d < dp bl x := by omega
  unfold dn
  cases x <;> simp [dnF, h1]

theorem dn_step {bl : Nat → Int} (hd : Down bl) {d x b : Nat} (hb : bl x = (b : Int)) (h : d < dp bl x) : dn bl d x = dn bl d b := by
  have := hd x
  unfold dn
  cases x with
  | zero => omega
  | succ y =>
    have e : (bl (y + 1)).toNat = b := by omega
    rw [dnF, if_pos h, e]
    exact dnF_fuel hd d _ _ _ (by omega) (by omega)

theorem dn_lt {bl : Nat → Int} (hd : Down bl) (d : Nat) : ∀ x, dn bl d x ≤ x := by
  intro x
  induction x using Nat.strongRecOn with
  | _ x ih =>
    by_cases h : d < dp bl x
    · have hx := hd x
      have hf : ¬ bl x < 0 := fun h => by have := dp_foot h; omega
      obtain ⟨b, hb⟩ : ∃ b : Nat, bl x = (b : Int) := ⟨(bl x).toNat, by omega⟩
      rw [dn_step hd hb h]
      have := ih b (by omega)
      omega
    · rw [dn_at (by omega)]
      omega

theorem dn_on {bl : Nat → Int} (hd : Down bl) (i : Nat) : ∀ x, dp bl i ≤ dp bl x → decide (dn bl (dp bl i) x = i) = onL bl x i := by
  intro x
  induction x using Nat.strongRecOn with
  | _ x ih =>
    intro hle
    by_cases h : dp bl i < dp bl x
    · have hx := hd x
      have hf : ¬ bl x < 0 := fun h => by have := dp_foot h; omega
      obtain ⟨b, hb⟩ : ∃ b : Nat, bl x = (b : Int) := ⟨(bl x).toNat, by omega⟩
      have hs := dp_step hd hb
      rw [dn_step hd hb h, onL_step hd hb (by intro e; subst e; omega)]
      exact ih b (by omega) (by omega)
    · rw [dn_at (by omega)]
      by_cases e : x = i
      · subst e; simp [onL_self]
      · rw [onL_no hd i x e (by omega)]
        simpa using e

end Go.Proofs.Ybulkcrss
