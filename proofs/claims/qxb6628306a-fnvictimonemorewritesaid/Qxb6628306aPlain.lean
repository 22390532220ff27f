/- The plain laws on the victim of a cycle: no Go in sight. -/
namespace Go.Proofs.Qxb6628306a

/-- What Victim answers on a cycle of n ≥ 1 flags from closer c. -/
def IsVic (n c : Nat) (f : Nat → Bool) (r : Int) : Prop :=
  (r = -1 ∧ ∀ i, i < n → f ((c + i) % n) = false) ∨
  ∃ d, d < n ∧ r = (((c + d) % n : Nat) : Int) ∧ f ((c + d) % n) = true ∧ ∀ i, i < d → f ((c + i) % n) = false


theorem mod2 {x n : Nat} (h : x < 2 * n) : x % n = if x < n then x else x - n := by
  split
  · exact Nat.mod_eq_of_lt ‹_›
  · rw [Nat.mod_eq_sub_mod (by omega), Nat.mod_eq_of_lt (by omega)]

theorem imod2 {x : Int} {n : Nat} (h0 : 0 ≤ x) (h : x < 2 * n) : x % (n : Int) = if x < n then x else x - n := by
  obtain ⟨y, rfl⟩ : ∃ y : Nat, x = y := ⟨x.toNat, by omega⟩
  rw [← Int.natCast_emod, mod2 (by omega)]
  split
  · rw [if_pos (by omega)]
  · rw [if_neg (by omega)]; omega

/-- The place i steps behind c; the steps to a place. -/
theorem step_at {n c j : Nat} (hc : c < n) (hj : j < n) : ∃ i, i < n ∧ (c + i) % n = j := by
  by_cases h : c ≤ j
  · exact ⟨j - c, by omega, by rw [mod2 (by omega), if_pos (by omega)]; omega⟩
  · exact ⟨j + n - c, by omega, by rw [mod2 (by omega), if_neg (by omega)]; omega⟩

theorem all_false {n c : Nat} {f : Nat → Bool} (hc : c < n) (h : ∀ i, i < n → f ((c + i) % n) = false) : ∀ j, j < n → f j = false := by
  intro j hj
  obtain ⟨i, hi, e⟩ := step_at hc hj
  rw [← e]; exact h i hi

theorem dist_at {n c d : Nat} (hc : c < n) (hd : d < n) : ((((c + d) % n : Nat) : Int) - c + n) % n = d := by
  rw [mod2 (by omega)]
  split
  · rw [imod2 (by omega) (by omega), if_neg (by omega)]; omega
  · rw [imod2 (by omega) (by omega), if_pos (by omega)]; omega

theorem rot_at {n c s i : Nat} (hc : c < n) (hs : s < n) (hi : i < n) : (((c + n - s) % n + i) % n + s) % n = (c + i) % n := by
  have h1 : (c + n - s) % n < n := Nat.mod_lt _ (by omega)
  have h2 : ((c + n - s) % n + i) % n < n := Nat.mod_lt _ (by omega)
  rw [mod2 (x := ((c + n - s) % n + i) % n + s) (by omega), mod2 (x := (c + n - s) % n + i) (by omega), mod2 (x := c + n - s) (by omega), mod2 (x := c + i) (by omega)]
  split <;> split <;> split <;> split <;> omega

theorem rot_closer {n c s : Nat} (hc : c < n) (hs : s < n) : ((c : Int) - s + n) % n = ((c + n - s) % n : Nat) := by
  rw [imod2 (by omega) (by omega), mod2 (by omega)]
  split
  · rw [if_pos (by omega)]; omega
  · rw [if_neg (by omega)]; omega

/-- Two answers about the same flags along the cycle. -/
theorem vic_none {n c c2 : Nat} {f u : Nat → Bool} {r : Int} (hu : ∀ i, i < n → u ((c2 + i) % n) = f ((c + i) % n)) (h1 : ∀ i, i < n → f ((c + i) % n) = false) (h2 : IsVic n c2 u r) : r = -1 := by
  rcases h2 with ⟨h, _⟩ | ⟨d, hd, _, h, _⟩
  · exact h
  · rw [hu d hd, h1 d hd] at h
    cases h

theorem vic_some {n c c2 d : Nat} {f u : Nat → Bool} {r : Int} (hd : d < n) (hu : ∀ i, i < n → u ((c2 + i) % n) = f ((c + i) % n)) (ht : f ((c + d) % n) = true) (h1 : ∀ i, i < d → f ((c + i) % n) = false)
    (h2 : IsVic n c2 u r) : r = (((c2 + d) % n : Nat) : Int) := by
  rcases h2 with ⟨_, h⟩ | ⟨d2, hd2, h, ht2, h3⟩
  · have := h d hd
    rw [hu d hd, ht] at this
    cases this
  · have e : d2 = d := by
      rcases Nat.lt_trichotomy d2 d with h4 | h4 | h4
      · rw [hu d2 hd2, h1 d2 h4] at ht2
        cases ht2
      · exact h4
      · have := h3 d h4
        rw [hu d hd, ht] at this
        cases this
    rw [h, e]

/-- The rotation's law: no WRITE. -/
theorem rot_none {n c s : Nat} {f u : Nat → Bool} {r : Int} (hc : c < n) (hs : s < n) (hu : ∀ i, u i = f ((i + s) % n)) (h1 : ∀ i, i < n → f ((c + i) % n) = false) (h2 : IsVic n ((c + n - s) % n) u r) : r = -1 :=
  vic_none (fun i hi => by rw [hu, rot_at hc hs hi]) h1 h2

/-- The rotation's law: the victim moves along. -/
theorem rot_some {n c s d j : Nat} {f u : Nat → Bool} {r : Int} (hc : c < n) (hs : s < n) (hu : ∀ i, u i = f ((i + s) % n)) (hd : d < n) (hj : (c + d) % n = j) (ht : f ((c + d) % n) = true) (h1 : ∀ i, i < d → f ((c + i) % n) = false)
    (h2 : IsVic n ((c + n - s) % n) u r) : r = ((j : Int) - s + n) % n := by
  rw [vic_some hd (fun i hi => by rw [hu, rot_at hc hs hi]) ht h1 h2, ← hj]
  have h1 : (c + n - s) % n < n := Nat.mod_lt _ (by omega)
  have h3 : (c + d) % n < n := Nat.mod_lt _ (by omega)
  rw [imod2 (by omega) (by omega)]
  have e1 := mod2 (x := (c + n - s) % n + d) (n := n) (by omega)
  have e2 := mod2 (x := c + n - s) (n := n) (by omega)
  have e3 := mod2 (x := c + d) (n := n) (by omega)
  rw [e1, e2, e3]
  split <;> split <;> split <;> split <;> omega

/-- One more WRITE at k: dk steps from closer. -/
theorem more_at {n c k i dk : Nat} (hc : c < n) (hi : i < n) (hdk : dk < n) (e : (c + dk) % n = k) : ((c + i) % n = k) ↔ i = dk := by
  constructor
  · intro h
    rw [← e, mod2 (by omega), mod2 (x := c + dk) (by omega)] at h
    split at h <;> split at h <;> omega
  · rintro rfl; exact e

theorem more_none {n c k : Nat} {f u : Nat → Bool} {r : Int} (hc : c < n) (hk : k < n) (hu : ∀ i, i < n → u i = (f i || decide (i = k))) (h1 : ∀ i, i < n → f ((c + i) % n) = false) (h2 : IsVic n c u r) : r = k := by
  obtain ⟨dk, hdk, e⟩ := step_at hc hk
  have hm : ∀ i, (c + i) % n < n := fun i => Nat.mod_lt _ (by omega)
  have hU : ∀ i, i < n → u ((c + i) % n) = decide (i = dk) := by
    intro i hi
    rw [hu _ (hm i), h1 i hi, Bool.false_or]
    exact decide_eq_decide.2 (more_at hc hi hdk e)
  have h3 := vic_some (c := c) (c2 := c) (f := u) (u := u) hdk (fun _ _ => rfl) (by rw [hU dk hdk]; simp) (fun i hi => by rw [hU i (by omega)]; simp; omega) h2
  rw [h3, e]

theorem more_some {n c k d : Nat} {f u : Nat → Bool} {r : Int} (hc : c < n) (hk : k < n) (hu : ∀ i, i < n → u i = (f i || decide (i = k))) (hd : d < n) (ht : f ((c + d) % n) = true) (h1 : ∀ i, i < d → f ((c + i) % n) = false)
    (h2 : IsVic n c u r) : (((k : Int) - c + n) % n < d ∧ r = k) ∨ ((d : Int) ≤ ((k : Int) - c + n) % n ∧ r = ((c + d) % n : Nat)) := by
  obtain ⟨dk, hdk, e⟩ := step_at hc hk
  have hD := dist_at hc hdk
  rw [e] at hD
  rw [hD]
  have hm : ∀ i, (c + i) % n < n := fun i => Nat.mod_lt _ (by omega)
  have hU : ∀ i, i < n → u ((c + i) % n) = (f ((c + i) % n) || decide (i = dk)) := by
    intro i hi
    rw [hu _ (hm i)]
    congr 1
    exact decide_eq_decide.2 (more_at hc hi hdk e)
  by_cases hlt : dk < d
  · refine .inl ⟨by omega, ?_⟩
    have h3 := vic_some (c := c) (c2 := c) (f := u) (u := u) hdk (fun _ _ => rfl) (by rw [hU dk hdk]; simp) (fun i hi => by rw [hU i (by omega), h1 i (by omega)]; simp; omega) h2
    rw [h3, e]
  · refine .inr ⟨by omega, ?_⟩
    exact vic_some (c := c) (c2 := c) (f := u) (u := u) hd (fun _ _ => rfl) (by rw [hU d hd, ht]; simp) (fun i hi => by rw [hU i (by omega), h1 i hi]; simp; omega) h2

end Go.Proofs.Qxb6628306a
