/- Plain facts: the order of floats, NaN words, sums, counting. No Go in sight. -/
import Ieee.Arith
namespace Go.Proofs.Qxb6628331a
open Ieee
set_option linter.unusedSimpArgs false

/-! ### The order of floats -/

theorem signed_scale (s : Bool) (m a b : Nat) : signed s m (a + b) = signed s m a * (2 ^ b : Nat) := by
  unfold signed
  rw [Nat.shiftLeft_add, Nat.shiftLeft_eq (m <<< a)]
  cases s <;> simp [Int.neg_mul]

theorem compare_scale (x y : Int) (c : Nat) (hc : 0 < c) : compare (x * c) (y * c) = compare x y := by
  have hc' : (0 : Int) < c := by omega
  rcases Int.lt_trichotomy x y with h | h | h
  · rw [Int.compare_eq_lt.2 h, Int.compare_eq_lt.2 (Int.mul_lt_mul_of_pos_right h hc')]
  · subst h; rw [Int.compare_eq_eq.2 rfl, Int.compare_eq_eq.2 rfl]
  · rw [Int.compare_eq_gt.2 h, Int.compare_eq_gt.2 (Int.mul_lt_mul_of_pos_right h hc')]

/-- The comparison of two numbers at whatever base below both places. -/
theorem compare_base (s t : Bool) (m n : Nat) (i j B : Int) (hi : B ≤ i) (hj : B ≤ j) :
    compare (signed s m (i - min i j).toNat) (signed t n (j - min i j).toNat) = compare (signed s m (i - B).toNat) (signed t n (j - B).toNat) := by
  have e1 : (i - B).toNat = (i - min i j).toNat + (min i j - B).toNat := by omega
  have e2 : (j - B).toNat = (j - min i j).toNat + (min i j - B).toNat := by omega
  rw [e1, e2, signed_scale, signed_scale, compare_scale _ _ _ (Nat.two_pow_pos _)]

theorem c01 : compare (0 : Nat) 1 = .lt := rfl
theorem c10 : compare (1 : Nat) 0 = .gt := rfl

/-- 'x <= y' of floats, by their words. -/
def le (x y : Nat) : Bool := double.order x y == some .lt || double.order x y == some .eq

theorem order_self (d : Datum) : d.order d = none ∨ d.order d = some .eq := by
  cases d with
  | nan => exact .inl rfl
  | infinity s => right; cases s <;> rfl
  | number s m i => right; simp [Datum.order]

theorem order_swap (a b : Datum) : b.order a = (a.order b).map Ordering.swap := by
  cases a with
  | nan => cases b <;> rfl
  | infinity s =>
    cases b with
    | nan => rfl
    | infinity t => cases s <;> cases t <;> rfl
    | number => cases s <;> rfl
  | number s m i =>
    cases b with
    | nan => rfl
    | infinity t => cases t <;> rfl
    | number t n j =>
      simp only [Datum.order, Option.map_some, Option.some.injEq]
      rw [Int.min_comm j i]
      exact (Int.compare_swap _ _).symm

def leD (a b : Datum) : Prop := a.order b = some .lt ∨ a.order b = some .eq

theorem leD_number {s t : Bool} {m n : Nat} {i j B : Int} (hi : B ≤ i) (hj : B ≤ j) : leD (.number s m i) (.number t n j) ↔ signed s m (i - B).toNat ≤ signed t n (j - B).toNat := by
  unfold leD
  simp only [Datum.order, Option.some.injEq]
  rw [compare_base s t m n i j B hi hj, Int.compare_eq_lt, Int.compare_eq_eq]
  omega

theorem leD_trans {a b c : Datum} (h1 : leD a b) (h2 : leD b c) : leD a c := by
  cases a with
  | nan => unfold leD at h1; simp [Datum.order, c01, c10] at h1
  | infinity s =>
    cases b with
    | nan => unfold leD at h1; simp [Datum.order, c01, c10] at h1
    | infinity t => cases s <;> cases t <;> first | exact h2 | (unfold leD at h1; simp [Datum.order, c01, c10] at h1) | skip
                    all_goals (cases c with
                      | nan => unfold leD at h2; simp [Datum.order, c01, c10] at h2
                      | infinity u => cases u <;> simp [leD, Datum.order, c01, c10]
                      | number => simp [leD, Datum.order, c01, c10])
    | number =>
      cases s
      · unfold leD at h1; simp [Datum.order, c01, c10] at h1
      · cases c with
        | nan => unfold leD at h2; simp [Datum.order, c01, c10] at h2
        | infinity u => cases u <;> simp [leD, Datum.order, c01, c10]
        | number => simp [leD, Datum.order, c01, c10]
  | number s m i =>
    cases b with
    | nan => unfold leD at h1; simp [Datum.order, c01, c10] at h1
    | infinity t =>
      cases t
      · cases c with
        | nan => unfold leD at h2; simp [Datum.order, c01, c10] at h2
        | infinity u => cases u <;> first | (simp [leD, Datum.order, c01, c10]; done) | (unfold leD at h2; simp [Datum.order, c01, c10] at h2)
        | number => unfold leD at h2; simp [Datum.order, c01, c10] at h2
      · unfold leD at h1; simp [Datum.order, c01, c10] at h1
    | number t n j =>
      cases c with
      | nan => unfold leD at h2; simp [Datum.order, c01, c10] at h2
      | infinity u => cases u <;> first | (simp [leD, Datum.order, c01, c10]; done) | (unfold leD at h2; simp [Datum.order, c01, c10] at h2)
      | number u o k =>
        rw [leD_number (B := min i (min j k)) (by omega) (by omega)] at h1 h2 ⊢
        omega

theorem le_iff (x y : Nat) : le x y = true ↔ leD (double.read x) (double.read y) := by
  unfold le leD Format.order
  simp

theorem le_trans {x y z : Nat} (h1 : le x y = true) (h2 : le y z = true) : le x z = true :=
  (le_iff _ _).2 (leD_trans ((le_iff _ _).1 h1) ((le_iff _ _).1 h2))

/-- 'y >= x' is 'x <= y'. -/
theorem ge_eq (x y : Nat) : (double.order y x == some .gt || double.order y x == some .eq) = le x y := by
  unfold le Format.order
  rw [order_swap (double.read x) (double.read y)]
  cases (double.read x).order (double.read y) with
  | none => rfl
  | some o => cases o <;> rfl

/-- Neither is a NaN and the first is not above the second. -/
theorem le_of_asc {x y : Nat} (hx : (double.order x x != some .eq) = false) (hy : (double.order y y != some .eq) = false) (h : (double.order x y == some .gt) = false) : le x y = true := by
  unfold le
  unfold Format.order at *
  cases hX : double.read x with
  | nan => rw [hX] at hx; simp [Datum.order, c01, c10] at hx
  | infinity s =>
    cases hY : double.read y with
    | nan => rw [hY] at hy; simp [Datum.order, c01, c10] at hy
    | infinity t => rw [hX, hY] at h; cases s <;> cases t <;> simp [Datum.order, c01, c10] at h ⊢
    | number => rw [hX, hY] at h; cases s <;> simp [Datum.order, c01, c10] at h ⊢
  | number s m i =>
    cases hY : double.read y with
    | nan => rw [hY] at hy; simp [Datum.order, c01, c10] at hy
    | infinity t => rw [hX, hY] at h; cases t <;> simp [Datum.order, c01, c10] at h ⊢
    | number t n j =>
      rw [hX, hY] at h
      simp only [Datum.order] at h ⊢
      revert h
      generalize compare (signed s m (i - min i j).toNat) (signed t n (j - min i j).toNat) = o
      cases o <;> simp

/-! ### NaN words, sums -/

/-- 'x != x'. -/
def nanB (x : Nat) : Bool := double.order x x != some .eq

theorem le_self {x : Nat} (h : nanB x = false) : le x x = true := by
  unfold nanB at h
  unfold le
  simp at h
  simp [h]

theorem add_nan {x : Nat} (y : Nat) (h : nanB x = true) : double.add x y = none := by
  unfold nanB Format.order at h
  unfold Format.add
  cases hX : double.read x with
  | nan => rfl
  | infinity s => rw [hX] at h; cases s <;> simp [Datum.order] at h
  | number s m i => rw [hX] at h; simp [Datum.order] at h

/-- The words that stand for NaN. -/
theorem nan_word (a y : Nat) (hy : y < 4503599627370495) : nanB (a * 9223372036854775808 + 9218868437227405312 + 1 + y) = true := by
  have e1 : double.signWeight = 9223372036854775808 := rfl
  have e2 : double.binade = 4503599627370496 := rfl
  have e3 : double.infRung = 9218868437227405312 := rfl
  have hr : double.read (a * 9223372036854775808 + 9218868437227405312 + 1 + y) = .nan ((a * 9223372036854775808 + 9218868437227405312 + 1 + y) / 9223372036854775808 % 2 == 1) (1 + y) := by
    unfold Format.read
    rw [e1, e2, e3]
    have h1 : (a * 9223372036854775808 + 9218868437227405312 + 1 + y) % 9223372036854775808 = 9218868437227405312 + 1 + y := by omega
    simp only [h1]
    rw [if_neg (by omega), if_neg (by omega), if_neg (by omega)]
    have h2 : 9218868437227405312 + 1 + y - 9218868437227405312 = 1 + y := by omega
    rw [h2]
  unfold nanB Format.order
  rw [hr]
  rfl

/-- What 'x + y' may give. -/
def SumIs (x y r : Nat) : Prop := double.add x y = some r ∨ (double.add x y = none ∧ nanB r = true)

/-- One float, or two NaNs. -/
def Agree (s t : Nat) : Prop := s = t ∨ (nanB s = true ∧ nanB t = true)

theorem agree_sum {s t v r q : Nat} (h : Agree s t) (h1 : SumIs s v r) (h2 : SumIs t v q) : Agree r q := by
  rcases h with rfl | ⟨hs, ht⟩
  · rcases h1 with h1 | ⟨h1, n1⟩
    · rcases h2 with h2 | ⟨h2, n2⟩
      · rw [h1] at h2; cases h2; exact .inl rfl
      · rw [h1] at h2; cases h2
    · rcases h2 with h2 | ⟨h2, n2⟩
      · rw [h1] at h2; cases h2
      · exact .inr ⟨n1, n2⟩
  · rcases h1 with h1 | ⟨h1, n1⟩
    · rw [add_nan v hs] at h1; cases h1
    · rcases h2 with h2 | ⟨h2, n2⟩
      · rw [add_nan v ht] at h2; cases h2
      · exact .inr ⟨n1, n2⟩

/-- What the sum of v 0 .. v (j - 1), from +0, left to right, may be. -/
def Run (v : Nat → Nat) : Nat → Nat → Prop
  | 0, s => s = 0
  | j + 1, s => ∃ s', Run v j s' ∧ SumIs s' (v j) s

theorem run_agree {v : Nat → Nat} : ∀ {j s t : Nat}, Run v j s → Run v j t → Agree s t
  | 0, _, _, h1, h2 => .inl (by unfold Run at h1 h2; rw [h1, h2])
  | _ + 1, _, _, ⟨_, h1, k1⟩, ⟨_, h2, k2⟩ => agree_sum (run_agree h1 h2) k1 k2

/-! ### The first bucket -/

def IsIx (n : Nat) (P : Nat → Bool) (k : Nat) : Prop := k ≤ n ∧ (∀ i, i < k → P i = false) ∧ ∀ i, k ≤ i → i < n → P i = true

theorem IsIx.uniq {n : Nat} {P : Nat → Bool} {k l : Nat} (h : IsIx n P k) (h' : IsIx n P l) : k = l := by
  rcases Nat.lt_trichotomy k l with hl | hl | hl
  · have a := h.2.2 k (Nat.le_refl _) (by have := h'.1; omega)
    rw [h'.2.1 k hl] at a; cases a
  · exact hl
  · have a := h'.2.2 l (Nat.le_refl _) (by have := h.1; omega)
    rw [h.2.1 l hl] at a; cases a

def Mono (n : Nat) (P : Nat → Bool) : Prop := ∀ i j, i ≤ j → j < n → P i = true → P j = true

theorem exists_ix : ∀ (n : Nat) (P : Nat → Bool), Mono n P → ∃ k, IsIx n P k
  | 0, _, _ => ⟨0, Nat.le_refl _, fun i hi => by omega, fun i _ hi => by omega⟩
  | n + 1, P, hm => by
    obtain ⟨k, h1, h2, h3⟩ := exists_ix n P (fun i j hij hj => hm i j hij (by omega))
    by_cases hk : k = n
    · subst hk
      cases hp : P k
      · refine ⟨k + 1, Nat.le_refl _, fun i hi => ?_, fun i hi hi2 => by omega⟩
        by_cases e : i = k
        · subst e; exact hp
        · exact h2 i (by omega)
      · refine ⟨k, by omega, h2, fun i hi hi2 => ?_⟩
        have : i = k := by omega
        subst this; exact hp
    · refine ⟨k, by omega, h2, fun i hi hi2 => ?_⟩
      by_cases e : i = n
      · subst e
        exact hm k i hi (by omega) (h3 k (Nat.le_refl _) (by omega))
      · exact h3 i hi (by omega)

def Asc (n : Nat) (f : Nat → Nat) : Prop := (∀ i, i < n → nanB (f i) = false) ∧ ∀ i, i + 1 < n → (double.order (f i) (f (i + 1)) == some .gt) = false

theorem Asc.le {n : Nat} {f : Nat → Nat} (h : Asc n f) (i d : Nat) (hj : i + d < n) : le (f i) (f (i + d)) = true := by
  induction d with
  | zero => exact le_self (h.1 i (by omega))
  | succ d ih =>
    exact le_trans (ih (by omega)) (le_of_asc (h.1 _ (by omega)) (h.1 _ (by omega)) (h.2 (i + d) (by omega)))

theorem Asc.mono {n : Nat} {f : Nat → Nat} (h : Asc n f) (v : Nat) : Mono n (fun i => Qxb6628331a.le v (f i)) := by
  intro i j hij hj hp
  obtain ⟨d, rfl⟩ : ∃ d, j = i + d := ⟨j - i, by omega⟩
  exact le_trans hp (h.le i d hj)

/-! ### Counting -/

/-- Of the first J numbers, those that q says yes to. -/
def cnt (q : Nat → Bool) : Nat → Nat
  | 0 => 0
  | j + 1 => cnt q j + (if q j then 1 else 0)

theorem cnt_le (q : Nat → Bool) (j : Nat) : cnt q j ≤ j := by
  induction j with
  | zero => simp [cnt]
  | succ j ih => unfold cnt; split <;> omega

theorem cnt_same {q r : Nat → Bool} {J : Nat} (h : ∀ j, j < J → q j = r j) : cnt q J = cnt r J := by
  induction J with
  | zero => rfl
  | succ J ih => unfold cnt; rw [ih (fun j hj => h j (by omega)), h J (by omega)]

theorem cnt_below (I : Nat → Nat) (i J : Nat) : cnt (fun j => decide (I j < i + 1)) J = cnt (fun j => decide (I j < i)) J + cnt (fun j => I j == i) J := by
  induction J with
  | zero => rfl
  | succ J ih =>
    unfold cnt
    rw [ih]
    by_cases h1 : I J < i
    · have h2 : I J < i + 1 := by omega
      have h3 : (I J == i) = false := by simp; omega
      simp [h1, h2, h3]; omega
    · by_cases h2 : I J = i
      · subst h2; simp; omega
      · have h3 : ¬ I J < i + 1 := by omega
        have h4 : (I J == i) = false := by simp; omega
        simp [h1, h3, h4]

theorem cnt_none (I : Nat → Nat) (J : Nat) : cnt (fun j => decide (I j < 0)) J = 0 := by
  induction J with
  | zero => rfl
  | succ J ih => unfold cnt; rw [ih]; simp

theorem cnt_all {q : Nat → Bool} {J : Nat} (h : ∀ j, j < J → q j = true) : cnt q J = J := by
  induction J with
  | zero => rfl
  | succ J ih => unfold cnt; rw [ih (fun j hj => h j (by omega)), h J (by omega)]; simp

theorem ix_lt {n : Nat} {P : Nat → Bool} {k i : Nat} (h : IsIx n P k) (hi : i < n) : decide (k < i + 1) = P i := by
  by_cases hk : k < i + 1
  · rw [h.2.2 i (by omega) hi]; simpa using hk
  · rw [h.2.1 i (by omega)]; simpa using hk

end Go.Proofs.Qxb6628331a
