/- The plain mathematics of 'the k-th number that is not in a list'. -/
namespace Go.Proofs.Qxb6615739a.Free

/-- What the loop of 'outside' does over the sorted row. -/
def bump : List Int → Int → Int
  | [], v => v
  | t :: ts, v => if v < t then v else bump ts (v + 1)

/-- How many of the list lie below x. -/
def cnt (L : List Int) (x : Int) : Nat := L.countP fun t => decide (t < x)

theorem cnt_nil (x : Int) : cnt [] x = 0 := rfl
theorem cnt_cons (t : Int) (L : List Int) (x : Int) : cnt (t :: L) x = cnt L x + if t < x then 1 else 0 := by
  unfold cnt; rw [List.countP_cons]; simp

theorem cnt_perm {L R : List Int} (h : L.Perm R) (x : Int) : cnt L x = cnt R x := by
  unfold cnt; exact h.countP_eq _

theorem cnt_le (L : List Int) (x : Int) : cnt L x ≤ L.length := List.countP_le_length

theorem cnt_none (L : List Int) (x : Int) (h : ∀ t ∈ L, x ≤ t) : cnt L x = 0 := by
  unfold cnt
  rw [List.countP_eq_zero]
  intro t ht; have := h t ht; simp; omega

theorem cnt_all (L : List Int) (x : Int) (h : ∀ t ∈ L, t < x) : cnt L x = L.length := by
  unfold cnt
  rw [List.countP_eq_length]
  intro t ht; have := h t ht; simp; omega

theorem cnt_succ (L : List Int) (hn : L.Nodup) (x : Int) : cnt L (x + 1) = cnt L x + if x ∈ L then 1 else 0 := by
  induction L with
  | nil => rfl
  | cons t L ih =>
    rw [cnt_cons, cnt_cons, ih (List.nodup_cons.1 hn).2]
    have h1 := (List.nodup_cons.1 hn).1
    by_cases e : x = t
    · subst e
      simp [h1]
      omega
    · have e' : (x ∈ t :: L) = (x ∈ L) := by simp [e]
      simp only [e']
      have e2 : (t < x + 1) = (t < x) := propext ⟨fun h => by omega, fun h => by omega⟩
      simp only [e2]
      omega

theorem bump_spec (R : List Int) (hs : R.Pairwise (· < ·)) (v : Int) : bump R v ∉ R ∧ bump R v - cnt R (bump R v) = v ∧ v ≤ bump R v := by
  induction R generalizing v with
  | nil => simp [bump, cnt_nil]
  | cons t ts ih =>
    have hs' := List.pairwise_cons.1 hs
    unfold bump
    by_cases h : v < t
    · rw [if_pos h]
      have hall : ∀ u ∈ t :: ts, v < u := by
        intro u hu
        rcases List.mem_cons.1 hu with e | e
        · omega
        · have := hs'.1 u e; omega
      refine ⟨fun hm => ?_, ?_, Int.le_refl _⟩
      · have := hall v hm; omega
      · rw [cnt_none _ _ (fun u hu => by have := hall u hu; omega)]; simp
    · rw [if_neg h]
      obtain ⟨i1, i2, i3⟩ := ih hs'.2 (v + 1)
      refine ⟨?_, ?_, by omega⟩
      · intro hm
        rcases List.mem_cons.1 hm with e | e
        · omega
        · exact i1 e
      · rw [cnt_cons, if_pos (by omega)]; omega

/-- The free numbers below x, counted. -/
def fre (L : List Int) (x : Int) : Int := x - cnt L x

theorem fre_succ (L : List Int) (hn : L.Nodup) (x : Int) : fre L (x + 1) = fre L x + if x ∈ L then 0 else 1 := by
  unfold fre; rw [cnt_succ L hn]; split <;> simp <;> omega

theorem fre_mono (L : List Int) (hn : L.Nodup) (x : Int) (n : Nat) : fre L x ≤ fre L (x + n) := by
  induction n with
  | zero => simp
  | succ n ih =>
    have := fre_succ L hn (x + n)
    rw [show x + ((n + 1 : Nat) : Int) = x + n + 1 from by omega, this]
    split <;> omega

theorem fre_lt (L : List Int) (hn : L.Nodup) (x y : Int) (hx : x ∉ L) (h : x < y) : fre L x < fre L y := by
  have h1 := fre_succ L hn x
  rw [if_neg hx] at h1
  have h2 := fre_mono L hn (x + 1) (y - (x + 1)).toNat
  rw [show x + 1 + (((y - (x + 1)).toNat : Nat) : Int) = y from by omega] at h2
  omega

theorem fre_le (L : List Int) (hn : L.Nodup) (x y : Int) (h : x ≤ y) : fre L x ≤ fre L y := by
  have h2 := fre_mono L hn x (y - x).toNat
  rwa [show x + (((y - x).toNat : Nat) : Int) = y from by omega] at h2

/-- Distinct numbers of [0, m): at most m of them. -/
theorem few (L : List Int) (hn : L.Nodup) (m : Int) (hm : 0 ≤ m) (h : ∀ t ∈ L, 0 ≤ t ∧ t < m) : (L.length : Int) ≤ m := by
  have h0 : fre L 0 = 0 := by unfold fre; rw [cnt_none _ _ fun t ht => (h t ht).1]; rfl
  have h1 := fre_le L hn 0 m hm
  rw [h0] at h1
  unfold fre at h1
  rw [cnt_all _ _ fun t ht => (h t ht).2] at h1
  omega

theorem strict_of (R : List Int) (hs : R.Pairwise fun x y => decide (x ≤ y) = true) (hn : R.Nodup) : R.Pairwise (· < ·) := by
  induction R with
  | nil => exact List.Pairwise.nil
  | cons t ts ih =>
    obtain ⟨a1, a2⟩ := List.pairwise_cons.1 hs
    obtain ⟨b1, b2⟩ := List.nodup_cons.1 hn
    refine List.pairwise_cons.2 ⟨fun u hu => ?_, ih a2 b2⟩
    have h1 : t ≤ u := by simpa using a1 u hu
    have h2 : t ≠ u := fun e => b1 (e ▸ hu)
    omega

/-- The sorted row of distinct numbers. -/
theorem sorted_lt (L : List Int) (hn : L.Nodup) : (L.mergeSort fun x y => decide (x ≤ y)).Pairwise (· < ·) := by
  have hp := List.mergeSort_perm L (fun x y => decide (x ≤ y))
  have hnd : (L.mergeSort fun x y => decide (x ≤ y)).Nodup := hp.nodup_iff.2 hn
  have hs := List.pairwise_mergeSort (le := fun x y : Int => decide (x ≤ y)) (by intro a b c; simp; omega) (by intro a b; simp; omega) L
  exact strict_of _ hs hnd

/-- What 'outside' answers is the free number before which just v free ones lie. -/
theorem outside_spec (L : List Int) (hn : L.Nodup) (m v : Int) (h0 : 0 ≤ v) (hv : v < m - L.length) :
    let x := bump (L.mergeSort fun x y => decide (x ≤ y)) v
    0 ≤ x ∧ x < m ∧ x ∉ L ∧ fre L x = v := by
  have hp := List.mergeSort_perm L (fun x y => decide (x ≤ y))
  obtain ⟨h1, h2, h3⟩ := bump_spec _ (sorted_lt L hn) v
  intro x
  have hc : fre L x = v := by unfold fre; rw [← cnt_perm hp]; exact h2
  refine ⟨by show 0 ≤ bump _ v; omega, ?_, fun hm => h1 (hp.mem_iff.2 hm), hc⟩
  have := cnt_le L x
  unfold fre at hc
  omega
end Go.Proofs.Qxb6615739a.Free
