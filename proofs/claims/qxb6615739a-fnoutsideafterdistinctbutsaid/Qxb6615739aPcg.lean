/- The plain mathematics of Go's PCG source: a linear congruential step over 128 bits with an odd increment and a multiplier that is 1 modulo 4 passes through every state. -/
namespace Go.Proofs.Qxb6615739a.Pcg

def mulN : Nat := 2549297995355413924 * 2 ^ 64 + 4865540595714422341
def incN : Nat := 6364136223846793005 * 2 ^ 64 + 1442695040888963407

/-- The step without the cut to 128 bits. -/
def g (y : Nat) : Nat := mulN * y + incN
def it (f : Nat → Nat) : Nat → Nat → Nat
  | 0, y => y
  | n + 1, y => it f n (f y)

theorem it_add (f : Nat → Nat) (n m y : Nat) : it f (n + m) y = it f m (it f n y) := by
  induction n generalizing y with
  | zero => simp [it]
  | succ n ih =>
    rw [show n + 1 + m = (n + m) + 1 from by omega]
    simp only [it]
    exact ih (f y)

theorem it_succ' (f : Nat → Nat) (n y : Nat) : it f (n + 1) y = f (it f n y) := by
  rw [it_add]; rfl

theorem pw (k : Nat) : ∃ a c : Nat, (∀ y, it g (2 ^ k) y = a * y + 2 ^ k * c) ∧ a % 4 = 1 ∧ a % 2 ^ (k + 1) = 1 ∧ c % 2 = 1 := by
  induction k with
  | zero =>
    refine ⟨mulN, incN, ?_, by decide, by decide, by decide⟩
    intro y
    simp [it, g]
  | succ k ih =>
    obtain ⟨a, c, h, h4, h2, hc⟩ := ih
    refine ⟨a * a, c * ((a + 1) / 2), ?_, ?_, ?_, ?_⟩
    · intro y
      rw [show 2 ^ (k + 1) = 2 ^ k + 2 ^ k from by rw [Nat.pow_succ]; omega, it_add, h, h]
      have e : a + 1 = 2 * ((a + 1) / 2) := by omega
      generalize (a + 1) / 2 = b at e
      have : 2 ^ k * c * a + 2 ^ k * c = 2 ^ k * c * (2 * b) := by rw [← e]; simp [Nat.mul_add]
      have e2 : (2 ^ k + 2 ^ k) * (c * b) = 2 ^ k * c * (2 * b) := by
        rw [← Nat.two_mul]
        simp only [Nat.mul_comm, Nat.mul_left_comm, Nat.mul_assoc]
      rw [e2, ← this, Nat.mul_add]
      simp only [Nat.mul_comm, Nat.mul_left_comm, Nat.add_assoc]
    · rw [Nat.mul_mod, h4]
    · have hq : a = 2 ^ (k + 1) * (a / 2 ^ (k + 1)) + 1 := by
        have := Nat.div_add_mod a (2 ^ (k + 1)); omega
      generalize a / 2 ^ (k + 1) = q at hq
      have e : a * a = 2 ^ (k + 1 + 1) * (2 ^ k * q * q + q) + 1 := by
        rw [hq]
        rw [show 2 ^ (k + 1 + 1) = 2 * 2 ^ (k + 1) from by rw [Nat.pow_succ _ (k + 1)]; omega]
        rw [show 2 ^ (k + 1) = 2 * 2 ^ k from by rw [Nat.pow_succ]; omega]
        generalize 2 ^ k = p
        simp only [Nat.mul_add, Nat.add_mul, Nat.one_mul, Nat.mul_one]
        have : 2 * p * q * (2 * p * q) = 2 * (2 * p) * (p * q * q) := by
          simp only [Nat.mul_comm, Nat.mul_left_comm, Nat.mul_assoc]
        have : 2 * (2 * p) * q = 2 * p * q + 2 * p * q := by
          rw [Nat.mul_assoc 2, Nat.two_mul]
        omega
      rw [e, Nat.mul_add_mod]
      exact Nat.mod_eq_of_lt (Nat.one_lt_two_pow (by omega))
    · have : ((a + 1) / 2) % 2 = 1 := by omega
      rw [Nat.mul_mod, hc, this]

theorem reach (k : Nat) (x t : Nat) : ∃ n, it g n x % 2 ^ k = t % 2 ^ k := by
  induction k with
  | zero => exact ⟨0, by simp [Nat.mod_one]⟩
  | succ k ih =>
    obtain ⟨n, hn⟩ := ih
    obtain ⟨a, c, h, _, h2, hc⟩ := pw k
    have hp : 0 < 2 ^ k := Nat.two_pow_pos k
    have hs : 2 ^ (k + 1) = 2 * 2 ^ k := by rw [Nat.pow_succ]; omega
    generalize hy : it g n x = y at hn
    -- the two residues above one
    have up : ∀ z : Nat, z % 2 ^ (k + 1) = z % 2 ^ k ∨ z % 2 ^ (k + 1) = z % 2 ^ k + 2 ^ k := by
      intro z
      have h1 : z % 2 ^ (k + 1) % 2 ^ k = z % 2 ^ k := by
        rw [hs, Nat.mul_comm]; exact Nat.mod_mul_right_mod z (2 ^ k) 2
      have h3 : z % 2 ^ (k + 1) < 2 ^ (k + 1) := Nat.mod_lt _ (by omega)
      generalize z % 2 ^ (k + 1) = r at h1 h3
      rw [← h1]
      by_cases hr : r < 2 ^ k
      · left; rw [Nat.mod_eq_of_lt hr]
      · right; rw [Nat.mod_eq_sub_mod (by omega), Nat.mod_eq_of_lt (by omega)]; omega
    have shift : it g (n + 2 ^ k) x % 2 ^ (k + 1) = (y + 2 ^ k) % 2 ^ (k + 1) := by
      rw [it_add, hy, h]
      have e1 : (a * y) % 2 ^ (k + 1) = y % 2 ^ (k + 1) := by
        rw [Nat.mul_mod, h2]; simp
      have e2 : (2 ^ k * c) % 2 ^ (k + 1) = 2 ^ k % 2 ^ (k + 1) := by
        have : c = 2 * (c / 2) + 1 := by omega
        rw [this, Nat.mul_add, hs]
        rw [show 2 ^ k * (2 * (c / 2)) = 2 * 2 ^ k * (c / 2) from by simp only [Nat.mul_comm, Nat.mul_left_comm, Nat.mul_assoc]]
        rw [Nat.mul_add_mod, Nat.mul_one]
      rw [Nat.add_mod, e1, e2, ← Nat.add_mod]
    by_cases he : y % 2 ^ (k + 1) = t % 2 ^ (k + 1)
    · exact ⟨n, by rw [hy]; exact he⟩
    · refine ⟨n + 2 ^ k, ?_⟩
      rw [shift, Nat.add_mod]
      have hk : 2 ^ k % 2 ^ (k + 1) = 2 ^ k := Nat.mod_eq_of_lt (by omega)
      rw [hk]
      rcases up y with u | u <;> rcases up t with v | v
      · omega
      · rw [u, v, hn]; exact Nat.mod_eq_of_lt (by have := Nat.mod_lt t hp; omega)
      · rw [u, v, hn]
        rw [show t % 2 ^ k + 2 ^ k + 2 ^ k = t % 2 ^ k + 2 ^ (k + 1) from by omega, Nat.add_mod_right]
        exact Nat.mod_eq_of_lt (by have := Nat.mod_lt t hp; omega)
      · omega

/-- The two words of the next state. -/
def stLo (lo : Nat) : Nat := (lo * 4865540595714422341 % 18446744073709551616 + 1442695040888963407) % 18446744073709551616
def stHi (hi lo : Nat) : Nat :=
  (lo * 4865540595714422341 / 18446744073709551616 + hi * 4865540595714422341 + lo * 2549297995355413924 + 6364136223846793005 + (lo * 4865540595714422341 % 18446744073709551616 + 1442695040888963407) / 18446744073709551616) % 18446744073709551616
theorem stLo_lt (lo : Nat) : stLo lo < 18446744073709551616 := Nat.mod_lt _ (by decide)
theorem stHi_lt (hi lo : Nat) : stHi hi lo < 18446744073709551616 := Nat.mod_lt _ (by decide)

/-- The state as one number of 128 bits. -/
def join (hi lo : Nat) : Nat := hi * 18446744073709551616 + lo

theorem join_step (hi lo : Nat) : join (stHi hi lo) (stLo lo) = g (join hi lo) % 2 ^ 128 := by
  unfold join stHi stLo g mulN incN
  have e1 : (2 : Nat) ^ 128 = 340282366920938463463374607431768211456 := by decide
  have e2 : (2 : Nat) ^ 64 = 18446744073709551616 := by decide
  rw [e1, e2]
  omega

/-- What a draw makes of a state (the state already stepped). -/
def outp (hi lo : Nat) : Nat :=
  let h1 := hi ^^^ (hi / 4294967296)
  let h2 := h1 * 15750249268501108917 % 18446744073709551616
  let h3 := h2 ^^^ (h2 / 281474976710656)
  h3 * (lo ||| 1) % 18446744073709551616
theorem outp_lt (hi lo : Nat) : outp hi lo < 18446744073709551616 := Nat.mod_lt _ (by decide)

/-- The stream of states. -/
def run (hi lo : Nat) : Nat → Nat × Nat
  | 0 => (hi, lo)
  | n + 1 => (stHi (run hi lo n).1 (run hi lo n).2, stLo (run hi lo n).2)

theorem g_mod (x y : Nat) (h : x % 2 ^ 128 = y % 2 ^ 128) : g x % 2 ^ 128 = g y % 2 ^ 128 := by
  unfold g
  rw [Nat.add_mod, Nat.mul_mod, h, ← Nat.mul_mod, ← Nat.add_mod]

theorem run_join (hi lo n : Nat) : join (run hi lo n).1 (run hi lo n).2 % 2 ^ 128 = it g n (join hi lo) % 2 ^ 128 := by
  induction n with
  | zero => rfl
  | succ n ih =>
    rw [it_succ']
    show join (stHi _ _) (stLo _) % 2 ^ 128 = _
    rw [join_step, Nat.mod_mod]
    exact g_mod _ _ ih

theorem run_lt (hi lo n : Nat) (h1 : hi < 18446744073709551616) (h2 : lo < 18446744073709551616) : (run hi lo n).1 < 18446744073709551616 ∧ (run hi lo n).2 < 18446744073709551616 := by
  cases n with
  | zero => exact ⟨h1, h2⟩
  | succ n => exact ⟨stHi_lt _ _, stLo_lt _⟩

/-- From every state the source comes to a state whose output is 1. -/
theorem comes_to_one (hi lo : Nat) (h1 : hi < 18446744073709551616) (h2 : lo < 18446744073709551616) : ∃ n, outp (run hi lo n).1 (run hi lo n).2 = 1 := by
  obtain ⟨n, hn⟩ := reach 128 (join hi lo) (join 10053033840993720478 1)
  rw [← run_join] at hn
  obtain ⟨a, b⟩ := run_lt hi lo n h1 h2
  have e1 : (2 : Nat) ^ 128 = 340282366920938463463374607431768211456 := by decide
  rw [e1] at hn
  refine ⟨n, ?_⟩
  generalize (run hi lo n).1 = x at *
  generalize (run hi lo n).2 = y at *
  unfold join at hn
  have ex : x = 10053033840993720478 := by omega
  have ey : y = 1 := by omega
  rw [ex, ey]
  decide
end Go.Proofs.Qxb6615739a.Pcg
