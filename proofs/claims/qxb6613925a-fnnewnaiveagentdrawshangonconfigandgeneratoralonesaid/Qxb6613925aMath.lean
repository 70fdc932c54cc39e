/-
  PCG's state runs through every number below 2^128: so a good draw comes. Plain arithmetic.
-/
import Derived.RowKit3
namespace Go.Proofs.Qxb6613925a
set_option linter.unusedVariables false

/-- The multiplier and the increment. -/
def mA : Nat := 2549297995355413924 * 18446744073709551616 + 4865540595714422341
def mC : Nat := 6364136223846793005 * 18446744073709551616 + 1442695040888963407

/-- n steps without the modulus. -/
def stepsN (a c : Nat) : Nat → Nat → Nat
  | 0, x => x
  | n + 1, x => stepsN a c n (a * x + c)

theorem stepsN_add (a c m n x : Nat) : stepsN a c (m + n) x = stepsN a c n (stepsN a c m x) := by
  induction m generalizing x with
  | zero => rw [Nat.zero_add]; rfl
  | succ m ih => rw [show m + 1 + n = (m + n) + 1 by omega]; exact ih (a * x + c)

theorem alg1 (s c x : Nat) : (1 + 4 * s) * ((1 + 4 * s) * x + c) + c = (1 + (8 * s + 16 * (s * s))) * x + (2 * c + 4 * (s * c)) := by
  have e1 : s * (4 * (s * x)) = 4 * (s * (s * x)) := Nat.mul_left_comm _ _ _
  simp only [Nat.add_mul, Nat.mul_add, Nat.one_mul, Nat.mul_assoc]
  omega
theorem alg2 (p u : Nat) : 8 * p * (u + p * 2 * (u * u)) = 8 * (p * u) + 16 * ((p * u) * (p * u)) := by
  rw [Nat.mul_mul_mul_comm p u p u]
  have e1 : p * (p * (2 * (u * u))) = 2 * (p * (p * (u * u))) := by rw [Nat.mul_left_comm p 2, Nat.mul_left_comm p 2]
  simp only [Nat.mul_add, Nat.mul_assoc]
  omega
theorem alg3 (p u v : Nat) : p * 2 * (1 + 2 * (v + p * u * (1 + 2 * v))) = 2 * (p * (1 + 2 * v)) + 4 * ((p * u) * (p * (1 + 2 * v))) := by
  obtain ⟨d, hd⟩ : ∃ d, d = 1 + 2 * v := ⟨_, rfl⟩
  rw [← hd]
  have h1 : 1 + 2 * (v + p * u * d) = d + 2 * (p * u * d) := by omega
  have h2 : p * (2 * (p * u * d)) = 2 * (p * u * (p * d)) := by rw [Nat.mul_left_comm p 2, Nat.mul_left_comm p (p * u)]
  have h3 : p * 2 * (d + 2 * (p * u * d)) = 2 * (p * d) + 2 * (p * (2 * (p * u * d))) := by
    rw [Nat.mul_add, Nat.mul_comm p 2, Nat.mul_assoc, Nat.mul_assoc 2 p]
  rw [h1, h3, h2]
  omega
theorem alg4 (p u v z : Nat) : (1 + 4 * p * u) * z + p * (1 + 2 * v) = (z + p) + 2 * p * (2 * u * z + v) := by
  have e1 : p * (2 * v) = 2 * (p * v) := Nat.mul_left_comm _ _ _
  have e2 : p * (2 * (u * z)) = 2 * (p * (u * z)) := Nat.mul_left_comm _ _ _
  simp only [Nat.add_mul, Nat.mul_add, Nat.one_mul, Nat.mul_one, Nat.mul_assoc]
  omega
theorem alg5 (p r q : Nat) : r + p * (q % 2 + 2 * (q / 2)) = r + p * (q % 2) + 2 * p * (q / 2) := by
  have e1 : p * (2 * (q / 2)) = 2 * (p * (q / 2)) := Nat.mul_left_comm _ _ _
  simp only [Nat.mul_add, Nat.mul_assoc]
  omega

/-- 2^k steps at once. -/
theorem steps_pow (a c : Nat) (ha : ∃ u, a = 1 + 4 * u) (hc : ∃ v, c = 1 + 2 * v) (k : Nat) :
    ∃ u v : Nat, ∀ x, stepsN a c (2 ^ k) x = (1 + 2 ^ (k + 2) * u) * x + 2 ^ k * (1 + 2 * v) := by
  induction k with
  | zero =>
    obtain ⟨u, hu⟩ := ha
    obtain ⟨v, hv⟩ := hc
    refine ⟨u, v, fun x => ?_⟩
    show a * x + c = (1 + 2 ^ (0 + 2) * u) * x + 2 ^ 0 * (1 + 2 * v)
    rw [hu, hv]
    simp
  | succ k ih =>
    obtain ⟨u, v, h⟩ := ih
    refine ⟨u + 2 ^ (k + 1) * (u * u), v + 2 ^ k * u * (1 + 2 * v), fun x => ?_⟩
    have e : 2 ^ (k + 1) = 2 ^ k + 2 ^ k := by rw [Nat.pow_succ]; omega
    rw [e, stepsN_add, h, h]
    have e2 : 2 ^ (k + 1 + 2) = 8 * 2 ^ k := by rw [show k + 1 + 2 = k + 3 by omega, Nat.pow_add]; omega
    have e3 : 2 ^ (k + 2) = 4 * 2 ^ k := by rw [Nat.pow_add]; omega
    rw [← e, e2, e3, Nat.pow_succ]
    generalize 2 ^ k = p
    rw [alg2, alg3, Nat.mul_assoc 4 p u]
    exact alg1 (p * u) (p * (1 + 2 * v)) x

/-- Every remainder comes. -/
theorem steps_reach (a c : Nat) (ha : ∃ u, a = 1 + 4 * u) (hc : ∃ v, c = 1 + 2 * v) (x y k : Nat) : ∃ n, stepsN a c n x % 2 ^ k = y % 2 ^ k := by
  induction k with
  | zero => exact ⟨0, by simp [Nat.mod_one]⟩
  | succ k ih =>
    obtain ⟨n, hn⟩ := ih
    obtain ⟨z, hz⟩ : ∃ z, z = stepsN a c n x := ⟨_, rfl⟩
    rw [← hz] at hn
    by_cases h : z % 2 ^ (k + 1) = y % 2 ^ (k + 1)
    · exact ⟨n, by rw [← hz]; exact h⟩
    · obtain ⟨u, v, hs⟩ := steps_pow a c ha hc k
      refine ⟨n + 2 ^ k, ?_⟩
      rw [stepsN_add, ← hz, hs]
      have e1 : 2 ^ (k + 1) = 2 * 2 ^ k := by rw [Nat.pow_succ]; omega
      have e2 : 2 ^ (k + 2) = 4 * 2 ^ k := by rw [Nat.pow_add]; omega
      rw [e1] at h ⊢
      rw [e2]
      have hp : 0 < 2 ^ k := Nat.two_pow_pos k
      generalize 2 ^ k = p at *
      have e3 : (1 + 4 * p * u) * z + p * (1 + 2 * v) = (z + p) + 2 * p * (2 * u * z + v) := alg4 p u v z
      rw [e3, Nat.add_mul_mod_self_left]
      -- z and y agree modulo p, and not modulo 2p
      have hz1 := Nat.mod_add_div z p
      have hy1 := Nat.mod_add_div y p
      obtain ⟨r, hr⟩ : ∃ r, r = z % p := ⟨_, rfl⟩
      rw [← hn, ← hr] at hy1
      rw [← hr] at hz1
      have hrp : r < p := by rw [hr]; exact Nat.mod_lt _ hp
      generalize z / p = q at *
      generalize y / p = s at *
      have zq : ∀ q : Nat, (r + p * q) % (2 * p) = r + p * (q % 2) := fun q => by
        have hq := Nat.mod_add_div q 2
        have e4 : r + p * q = r + p * (q % 2) + 2 * p * (q / 2) := by
          conv => lhs; rw [← hq]
          exact alg5 p r q
        rw [e4, Nat.add_mul_mod_self_left]
        apply Nat.mod_eq_of_lt
        have : q % 2 = 0 ∨ q % 2 = 1 := by omega
        rcases this with h | h <;> rw [h] <;> omega
      have ez : z = r + p * q := by omega
      have ey : y = r + p * s := by omega
      have ezp : z + p = r + p * (q + 1) := by rw [ez, Nat.mul_add, Nat.mul_one]; omega
      rw [ez, ey, zq, zq] at h
      rw [ezp, ey, zq, zq]
      have h2 : (q + 1) % 2 = s % 2 := by
        have h3 : q % 2 ≠ s % 2 := fun e => h (by rw [e])
        omega
      rw [h2]

/-- One step of a generator; n steps of it. -/
def gSg (a c M s : Nat) : Nat := (a * s + c) % M
def gItg (a c M : Nat) : Nat → Nat → Nat
  | 0, s => s
  | n + 1, s => gItg a c M n (gSg a c M s)

theorem stepsN_mod (a c M m : Nat) : ∀ x y : Nat, x % M = y % M → stepsN a c m x % M = stepsN a c m y % M := by
  induction m with
  | zero => intro x y h; exact h
  | succ m ihm =>
    intro x y h
    apply ihm
    rw [Nat.add_mod, Nat.mul_mod, h, ← Nat.mul_mod, ← Nat.add_mod]
theorem gItg_mod (a c M n s : Nat) : gItg a c M n s % M = stepsN a c n s % M := by
  induction n generalizing s with
  | zero => rfl
  | succ n ih =>
    show gItg a c M n (gSg a c M s) % M = stepsN a c n (a * s + c) % M
    rw [ih]
    apply stepsN_mod
    unfold gSg
    rw [Nat.mod_mod]
theorem gSg_lt (a c M s : Nat) (hM : 0 < M) : gSg a c M s < M := Nat.mod_lt _ hM
theorem gItg_lt {a c M n s : Nat} (h : s < M) : gItg a c M n s < M := by
  induction n generalizing s with
  | zero => exact h
  | succ n ih => exact ih (gSg_lt a c M s (by omega))

/-- Every state comes, from every state. -/
theorem gItg_reach (a c M k s t : Nat) (ha : ∃ u, a = 1 + 4 * u) (hc : ∃ v, c = 1 + 2 * v) (hM : M = 2 ^ k) (hs : s < M) (ht : t < M) : ∃ n, gItg a c M n s = t := by
  obtain ⟨n, hn⟩ := steps_reach a c ha hc s t k
  refine ⟨n, ?_⟩
  rw [← hM, ← gItg_mod, Nat.mod_eq_of_lt (gItg_lt hs), Nat.mod_eq_of_lt ht] at hn
  exact hn

theorem least (p : Nat → Prop) (h : ∃ n, p n) : ∃ n, p n ∧ ∀ m, m < n → ¬ p m := by
  obtain ⟨n, hn⟩ := h
  induction n using Nat.strongRecOn with
  | _ n ih =>
    by_cases h : ∃ m, m < n ∧ p m
    · obtain ⟨m, hm, hp⟩ := h
      exact ih m hm hp
    · exact ⟨n, hn, fun m hm hp => h ⟨m, hm, hp⟩⟩

/-- A count that falls with every step till something good comes. -/
theorem mu_existsg (a c M : Nat) (hM : 0 < M) (good : Nat → Prop) (h : ∀ s, s < M → ∃ n, good (gItg a c M n s)) :
    ∃ mu : Nat → Nat, ∀ s, s < M → ¬ good s → mu (gSg a c M s) < mu s := by
  have hm : ∀ s, ∃ n, s < M → good (gItg a c M n s) ∧ ∀ m, m < n → ¬ good (gItg a c M m s) := fun s => by
    by_cases hs : s < M
    · obtain ⟨n, hn⟩ := least _ (h s hs)
      exact ⟨n, fun _ => hn⟩
    · exact ⟨0, fun h => absurd h hs⟩
  refine ⟨fun s => Classical.choose (hm s), fun s hs hg => ?_⟩
  obtain ⟨h1, h2⟩ := Classical.choose_spec (hm s) hs
  obtain ⟨h3, h4⟩ := Classical.choose_spec (hm (gSg a c M s)) (gSg_lt a c M s hM)
  show Classical.choose (hm (gSg a c M s)) < Classical.choose (hm s)
  generalize Classical.choose (hm s) = n at *
  generalize Classical.choose (hm (gSg a c M s)) = m at *
  cases n with
  | zero => exact absurd h1 hg
  | succ n =>
    rcases Nat.lt_or_ge m (n + 1) with h5 | h5
    · exact h5
    · exact absurd h1 (h4 n (by omega))
end Go.Proofs.Qxb6613925a
