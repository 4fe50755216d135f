import PyProof.Rows.All
import Wide.All
import OpenK.AllK
import Wide.FinOn
import PySem.Challenge.RW_dw0056_01
set_option Elab.async false
set_option maxRecDepth 100000

namespace Mine
open PySem

/-- round to odd root of N / D -/
def rto (N D : Int) : Int :=
  let a : Int := ((Float64.isqrt (N.fdiv D).toNat : Nat) : Int)
  Builtin.bitOr a (if (a * a * D != N) = true then 1 else 0)

theorem bitOr_zero {a : Int} (h : 0 ≤ a) : Builtin.bitOr a 0 = a := by
  rw [PyProof.Rows.bitOr_and]
  obtain ⟨k, rfl⟩ := Int.eq_ofNat_of_zero_le h
  simp [Builtin.bitAnd]
theorem bitOr_one {a : Int} (h : 0 ≤ a) : Builtin.bitOr a 1 = a + 1 - a % 2 := by
  rw [PyProof.Rows.bitOr_and]
  obtain ⟨k, rfl⟩ := Int.eq_ofNat_of_zero_le h
  simp [Builtin.bitAnd, Nat.and_one_is_mod]
end Mine

namespace Mine
open PySem

theorem sq_le {x y : Int} (h0 : 0 ≤ x) (h : x ≤ y) : x * x ≤ y * y := Int.mul_le_mul h h h0 (Int.le_trans h0 h)
theorem sqD_le {x y D : Int} (hD : 0 ≤ D) (h0 : 0 ≤ x) (h : x ≤ y) : x * x * D ≤ y * y * D := Int.mul_le_mul_of_nonneg_right (sq_le h0 h) hD

theorem root_spec {N D : Int} (hN : 0 ≤ N) (hD : 0 < D) :
    ∃ a : Int, ((Float64.isqrt (N.fdiv D).toNat : Nat) : Int) = a ∧ 0 ≤ a ∧ a * a * D ≤ N ∧ N < (a + 1) * (a + 1) * D := by
  have hq : N.fdiv D = N / D := Int.fdiv_eq_ediv_of_nonneg _ (Int.le_of_lt hD)
  have hq0 : 0 ≤ N / D := Int.ediv_nonneg hN (Int.le_of_lt hD)
  obtain ⟨h1, h2⟩ := Float64.isqrt_spec (N.fdiv D).toNat
  refine ⟨_, rfl, Int.natCast_nonneg _, ?_, ?_⟩
  · generalize Float64.isqrt (N.fdiv D).toNat = r at *
    have h3 : (r : Int) * r ≤ N / D := by
      have : ((r * r : Nat) : Int) ≤ ((N.fdiv D).toNat : Int) := by exact_mod_cast h1
      rw [hq] at this
      push_cast at this
      omega
    have h4 : (r : Int) * r * D ≤ N / D * D := Int.mul_le_mul_of_nonneg_right h3 (Int.le_of_lt hD)
    have h5 := Int.ediv_mul_le N (Int.ne_of_gt hD)
    omega
  · generalize Float64.isqrt (N.fdiv D).toNat = r at *
    have h3 : N / D + 1 ≤ ((r : Int) + 1) * (r + 1) := by
      have : ((N.fdiv D).toNat : Int) < (((r + 1) * (r + 1) : Nat) : Int) := by exact_mod_cast h2
      rw [hq] at this
      push_cast at this
      omega
    have h4 : (N / D + 1) * D ≤ ((r : Int) + 1) * (r + 1) * D := Int.mul_le_mul_of_nonneg_right h3 (Int.le_of_lt hD)
    have h5 := Int.lt_ediv_add_one_mul_self N hD
    omega

theorem rto_half {N D l h : Int} (hN : 0 ≤ N) (hD : 0 < D) (hl : l = 0 ∨ l = 1) (hh : 0 ≤ h) :
    h ≤ (rto N D - l).fdiv 2 ↔ 4 * h * h * D + l ≤ N := by
  obtain ⟨a, ha, a0, a1, a2⟩ := root_spec hN hD
  have key : 2 * h ≤ a ↔ 4 * h * h * D ≤ N := by
    have e : 4 * h * h * D = (2 * h) * (2 * h) * D := by grind
    constructor
    · intro q
      have := sqD_le (Int.le_of_lt hD) (by omega) q
      omega
    · intro q
      by_cases c : 2 * h ≤ a
      · exact c
      · have := sqD_le (x := a + 1) (y := 2 * h) (Int.le_of_lt hD) (by omega) (by omega)
        omega
  have e : 4 * h * h * D = (2 * h) * (2 * h) * D := by grind
  unfold rto
  rw [ha]
  dsimp only
  rw [Int.fdiv_eq_ediv_of_nonneg _ (by decide)]
  by_cases c : a * a * D = N
  · have hb : (a * a * D != N) = false := by simp [c]
    rw [hb]
    simp only [Bool.false_eq_true, if_false]
    rw [bitOr_zero a0]
    have strict : 2 * h < a ↔ 4 * h * h * D < N := by
      constructor
      · intro q
        have h1 := sqD_le (x := 2 * h) (y := a) (D := D) (Int.le_of_lt hD) (by omega) (by omega)
        have h2 : (2 * h) * (2 * h) * D ≠ a * a * D := by
          intro q'
          have h3 : (2 * h) * (2 * h) = a * a := Int.eq_of_mul_eq_mul_right (Int.ne_of_gt hD) q'
          have h4 : (2 * h + 1) * (2 * h + 1) ≤ a * a := sq_le (by omega) (by omega)
          have h5 : (2 * h + 1) * (2 * h + 1) = 2 * h * (2 * h) + 4 * h + 1 := by grind
          omega
        omega
      · intro q
        by_cases c' : 2 * h < a
        · exact c'
        · have := sqD_le (x := a) (y := 2 * h) (D := D) (Int.le_of_lt hD) a0 (by omega)
          omega
    rcases hl with rfl | rfl
    · omega
    · omega
  · have hb : (a * a * D != N) = true := by simpa using c
    rw [hb]
    simp only [if_true]
    rw [bitOr_one a0]
    have ne : 4 * h * h * D ≠ N := by
      intro q
      have h1 : 2 * h ≤ a := key.mpr (by omega)
      rcases Int.lt_or_eq_of_le h1 with h2 | h2
      · have := sqD_le (x := 2 * h + 1) (y := a) (D := D) (Int.le_of_lt hD) (by omega) (by omega)
        have h5 : (2 * h + 1) * (2 * h + 1) * D = (2 * h) * (2 * h) * D + (4 * h + 1) * D := by grind
        have h6 : 0 < (4 * h + 1) * D := Int.mul_pos (by omega) hD
        omega
      · rw [h2] at e
        omega
    rcases hl with rfl | rfl
    · omega
    · omega

/-- k q lies below j (less 0) or not above it (less 1) -/
def Pb (n m less k j : Int) : Prop := k * k * n < j * j * m + less

def cntOf (n m less j : Int) : Int := (rto (4 * (j + 1) * (j + 1) * m) n - 1 + less).fdiv 2
def lowOf (n m less k : Int) : Int := (rto (4 * k * k * n) m - less).fdiv 2
def uppOf (n m t less k : Int) : Int := (k * n + (rto (4 * k * k * n * m * t) t - 1 + less).fdiv 2).fdiv (n - m)

section
variable {n m t less : Int} (hm : 0 < m) (hn : m < n) (ht : 0 < t) (hl : less = 0 ∨ less = 1)

include hm hn hl in
theorem cnt_iff {k j : Int} (hk : 0 ≤ k) (hj : 0 ≤ j) : k ≤ cntOf n m less j ↔ Pb n m less k (j + 1) := by
  have hN : 0 ≤ 4 * (j + 1) * (j + 1) * m := Int.mul_nonneg (Int.mul_nonneg (by omega) (by omega)) (by omega)
  have e := rto_half (N := 4 * (j + 1) * (j + 1) * m) (D := n) (l := 1 - less) (h := k) hN (by omega) (by omega) hk
  unfold cntOf Pb
  rw [show rto (4 * (j + 1) * (j + 1) * m) n - 1 + less = rto (4 * (j + 1) * (j + 1) * m) n - (1 - less) by omega, e]
  rw [show 4 * k * k * n = 4 * (k * k * n) by grind, show 4 * (j + 1) * (j + 1) * m = 4 * ((j + 1) * (j + 1) * m) by grind]
  omega

include hm hn hl in
theorem low_iff {k j : Int} (hk : 0 ≤ k) (hj : 0 ≤ j) : lowOf n m less k < j ↔ Pb n m less k j := by
  have hN : 0 ≤ 4 * k * k * n := Int.mul_nonneg (Int.mul_nonneg (by omega) (by omega)) (by omega)
  have e := rto_half (N := 4 * k * k * n) (D := m) (l := less) (h := j) hN (by omega) hl hj
  have e' : lowOf n m less k < j ↔ ¬ j ≤ lowOf n m less k := by omega
  rw [e']
  unfold lowOf Pb
  rw [e, show 4 * k * k * n = 4 * (k * k * n) by grind, show 4 * j * j * m = 4 * (j * j * m) by grind]
  omega

include hm hn ht hl in
theorem upp_iff {k j : Int} (hk : 1 ≤ k) (hj : k ≤ j) : j ≤ uppOf n m t less k ↔ Pb n m less (j - k) j := by
  have h4 : 0 ≤ 4 * k * k * n * m := Int.mul_nonneg (Int.mul_nonneg (Int.mul_nonneg (by omega) (by omega)) (by omega)) (by omega)
  have hN : 0 ≤ 4 * k * k * n * m * t := Int.mul_nonneg h4 (by omega)
  have hW := fun h hh => rto_half (N := 4 * k * k * n * m * t) (D := t) (l := 1 - less) (h := h) hN ht (by omega) hh
  unfold uppOf Pb
  rw [show rto (4 * k * k * n * m * t) t - 1 + less = rto (4 * k * k * n * m * t) t - (1 - less) by omega]
  generalize (rto (4 * k * k * n * m * t) t - (1 - less)).fdiv 2 = W at *
  rw [Int.fdiv_eq_ediv_of_nonneg _ (by omega), Int.le_ediv_iff_mul_le (by omega)]
  obtain ⟨i, hi⟩ : ∃ i, i = j - k := ⟨_, rfl⟩
  have hi0 : 0 ≤ i := by omega
  have hki : k = j - i := by omega
  rw [← hi]
  obtain ⟨e, he⟩ : ∃ e, e = i * n - j * m := ⟨_, rfl⟩
  have h1 : j * (n - m) = k * n + e := by rw [he, hki]; grind
  rw [h1]
  have hkn : 0 < k * k * n * m := Int.mul_pos (Int.mul_pos (Int.mul_pos (by omega) (by omega)) (by omega)) hm
  by_cases c : 0 ≤ e
  · have h2 := hW e c
    have h3 : k * n + e ≤ k * n + W ↔ e ≤ W := by omega
    rw [h3, h2]
    have id : e * e = k * k * n * m + (n - m) * (i * i * n - j * j * m) := by rw [he, hki]; grind
    have h5 : 4 * e * e * t + (1 - less) ≤ 4 * k * k * n * m * t ↔ e * e < k * k * n * m + less := by
      have e1 : 4 * e * e * t = (4 * (e * e)) * t := by grind
      have e2 : 4 * k * k * n * m * t = (4 * (k * k * n * m)) * t := by grind
      rw [e1, e2]
      generalize e * e = X at *
      generalize k * k * n * m = Y at *
      rcases hl with rfl | rfl
      · have : 4 * X * t + (1 - 0) ≤ 4 * Y * t ↔ 4 * X * t < 4 * Y * t := by omega
        rw [this, Int.mul_lt_mul_right ht]
        omega
      · have : 4 * X * t + (1 - 1) ≤ 4 * Y * t ↔ 4 * X * t ≤ 4 * Y * t := by omega
        rw [this, Int.mul_le_mul_right ht]
        omega
    rw [h5, id]
    generalize i * i * n = U at *
    generalize j * j * m = V at *
    generalize k * k * n * m = Y at *
    have hnm : 0 < n - m := by omega
    constructor
    · intro q
      by_cases d : U < V + less
      · exact d
      · exfalso
        rcases hl with rfl | rfl
        · have : 0 ≤ (n - m) * (U - V) := Int.mul_nonneg (by omega) (by omega)
          omega
        · have : 1 * 1 ≤ (n - m) * (U - V) := Int.mul_le_mul (by omega) (by omega) (by omega) (by omega)
          omega
    · intro q
      rcases hl with rfl | rfl
      · have : 0 < (n - m) * (V - U) := Int.mul_pos hnm (by omega)
        have e3 : (n - m) * (U - V) = - ((n - m) * (V - U)) := by grind
        omega
      · have : 0 ≤ (n - m) * (V - U) := Int.mul_nonneg (by omega) (by omega)
        have e3 : (n - m) * (U - V) = - ((n - m) * (V - U)) := by grind
        omega
  · have w0 : 0 ≤ W := by
      have h2 := (hW 0 (by omega)).mpr
      have h6 : 0 < 4 * k * k * n * m * t := by
        have : 4 * k * k * n * m * t = 4 * (k * k * n * m) * t := by grind
        rw [this]
        exact Int.mul_pos (by omega) ht
      refine h2 ?_
      rw [show 4 * (0 : Int) * 0 * t = 0 by grind]
      omega
    have lhs : k * n + e ≤ k * n + W := by omega
    refine ⟨fun _ => ?_, fun _ => lhs⟩
    have hin : i * n < j * m := by omega
    have h7 : i * i * n ≤ j * (j * m) - j := by
      have : i * (i * n) ≤ j * (j * m - 1) := by
        by_cases i0 : i = 0
        · subst i0
          have : 0 ≤ j * (j * m - 1) := Int.mul_nonneg (by omega) (by
            have : 1 * 1 ≤ j * m := Int.mul_le_mul (by omega) (by omega) (by omega) (by omega)
            omega)
          omega
        · exact Int.mul_le_mul (by omega) (by omega) (Int.mul_nonneg (by omega) (by omega)) (by omega)
      have e8 : i * i * n = i * (i * n) := by grind
      have e9 : j * (j * m - 1) = j * (j * m) - j := by grind
      omega
    have e10 : j * j * m = j * (j * m) := by grind
    omega

include hm hn hl in
theorem cnt_nonneg {j : Int} (hj : 0 ≤ j) : 0 ≤ cntOf n m less j := by
  refine (cnt_iff hm hn hl (by omega) hj).mpr ?_
  unfold Pb
  have : 0 < (j + 1) * (j + 1) * m := Int.mul_pos (Int.mul_pos (by omega) (by omega)) hm
  omega

include hm hn hl in
theorem cnt_mono {j : Int} (hj : 0 ≤ j) : cntOf n m less j ≤ cntOf n m less (j + 1) := by
  have h0 := cnt_nonneg hm hn hl hj
  refine (cnt_iff hm hn hl h0 (by omega)).mpr ?_
  have h1 := (cnt_iff hm hn hl h0 hj).mp (by omega)
  unfold Pb at *
  have := sqD_le (x := j + 1) (y := j + 1 + 1) (D := m) (by omega) (by omega) (by omega)
  omega

include hm hn hl in
theorem cnt_step {j : Int} (hj : 0 ≤ j) : cntOf n m less (j + 1) ≤ cntOf n m less j + 1 := by
  have h0 := cnt_nonneg hm hn hl hj
  by_cases c : cntOf n m less (j + 1) ≤ cntOf n m less j + 1
  · exact c
  · exfalso
    obtain ⟨k, hk⟩ : ∃ k, k = cntOf n m less j + 1 := ⟨_, rfl⟩
    have h1 := (cnt_iff hm hn hl (k := k + 1) (j := j + 1) (by omega) (by omega)).mp (by omega)
    have h2 : ¬ Pb n m less k (j + 1) := fun q => by
      have := (cnt_iff hm hn hl (k := k) (j := j) (by omega) (by omega)).mpr q
      omega
    unfold Pb at *
    have h3 : (j + 1) * (j + 1) * m + less ≤ k * k * n := by omega
    have h4 : (j + 1) * m ≤ k * n := by
      by_cases d : (j + 1) * m ≤ k * n
      · exact d
      · exfalso
        have d1 : k * n + 1 ≤ (j + 1) * m := by omega
        have kn0 : 0 ≤ k * n := Int.mul_nonneg (by omega) (by omega)
        have d2 := sq_le (x := k * n + 1) (by omega) d1
        have d3 : (j + 1) * m * ((j + 1) * m) = (j + 1) * (j + 1) * m * m := by grind
        have d4 : (k * n + 1) * (k * n + 1) = k * k * n * n + 2 * (k * n) + 1 := by grind
        have d5 : (j + 1) * (j + 1) * m * m ≤ k * k * n * m := Int.mul_le_mul_of_nonneg_right (by omega) (by omega)
        have kk0 : 0 ≤ k * k * n := Int.mul_nonneg (Int.mul_nonneg (by omega) (by omega)) (by omega)
        have d6 : k * k * n * m ≤ k * k * n * n := Int.mul_le_mul_of_nonneg_left (by omega) kk0
        omega
    have e1 : (k + 1) * (k + 1) * n = k * k * n + 2 * (k * n) + n := by grind
    have e2 : (j + 1 + 1) * (j + 1 + 1) * m = (j + 1) * (j + 1) * m + 2 * ((j + 1) * m) + m := by grind
    omega

include hm hn hl in
theorem low_new {j : Int} (hj : 0 ≤ j) (h : cntOf n m less (j + 1) = cntOf n m less j + 1) : lowOf n m less (cntOf n m less (j + 1)) = j + 1 := by
  have h0 := cnt_nonneg hm hn hl hj
  rw [h]
  have h1 := (cnt_iff hm hn hl (k := cntOf n m less j + 1) (j := j + 1) (by omega) (by omega)).mp (by omega)
  have h2 := (low_iff hm hn hl (k := cntOf n m less j + 1) (j := j + 1 + 1) (by omega) (by omega)).mpr h1
  have h3 : ¬ lowOf n m less (cntOf n m less j + 1) < j + 1 := fun q => by
    have q1 := (low_iff hm hn hl (k := cntOf n m less j + 1) (j := j + 1) (by omega) (by omega)).mp q
    have := (cnt_iff hm hn hl (k := cntOf n m less j + 1) (j := j) (by omega) (by omega)).mpr q1
    omega
  omega

include hm hn hl in
theorem cnt_le {j : Int} (hj : 0 ≤ j) : cntOf n m less j ≤ j := by
  by_cases c : cntOf n m less j ≤ j
  · exact c
  · exfalso
    have h1 := (cnt_iff hm hn hl (k := j + 1) (j := j) (by omega) (by omega)).mp (by omega)
    unfold Pb at h1
    have h2 : (j + 1) * (j + 1) * (m + 1) ≤ (j + 1) * (j + 1) * n := Int.mul_le_mul_of_nonneg_left (by omega) (Int.mul_nonneg (by omega) (by omega))
    have h3 : (j + 1) * (j + 1) * (m + 1) = (j + 1) * (j + 1) * m + (j + 1) * (j + 1) := by grind
    have h4 : 1 * 1 ≤ (j + 1) * (j + 1) := Int.mul_le_mul (by omega) (by omega) (by omega) (by omega)
    omega

include hm hn ht hl in
theorem upp_new {j : Int} (hj : 0 ≤ j) (h : cntOf n m less (j + 1) = cntOf n m less j) : uppOf n m t less (j + 1 - cntOf n m less (j + 1)) = j + 1 := by
  have h0 := cnt_nonneg hm hn hl hj
  have hle := cnt_le hm hn hl hj
  rw [h]
  obtain ⟨c, hc⟩ : ∃ c, c = cntOf n m less j := ⟨_, rfl⟩
  rw [← hc] at h0 hle h ⊢
  have h1 := (upp_iff hm hn ht hl (k := j + 1 - c) (j := j + 1) (by omega) (by omega)).mpr (by
    rw [show j + 1 - (j + 1 - c) = c by omega]
    exact (cnt_iff hm hn hl h0 hj).mp (by omega))
  have h2 : ¬ j + 1 + 1 ≤ uppOf n m t less (j + 1 - c) := fun q => by
    have q1 := (upp_iff hm hn ht hl (k := j + 1 - c) (j := j + 1 + 1) (by omega) (by omega)).mp q
    rw [show j + 1 + 1 - (j + 1 - c) = c + 1 by omega] at q1
    have := (cnt_iff hm hn hl (k := c + 1) (j := j + 1) (by omega) (by omega)).mpr q1
    omega
  omega
end
end Mine

namespace Mine
open PySem

def upto (a : Int) (n : Nat) : List Int := (List.range n).map fun (i : Nat) => a + (i : Int)
theorem upto_length (a : Int) (n : Nat) : (upto a n).length = n := by simp [upto]
theorem upto_succ (a : Int) (n : Nat) : upto a (n + 1) = upto a n ++ [a + (n : Int)] := by simp [upto, List.range_succ]
theorem upto_zero (a : Int) : upto a 0 = [] := rfl
theorem upto_get {a : Int} {n i : Nat} (h : i < n) : (upto a n)[i]? = some (a + (i : Int)) := by simp [upto, h]
theorem upto_sorted (a : Int) (n : Nat) : (upto a n).Pairwise (· ≤ ·) := by
  induction n with
  | zero => simp [upto_zero]
  | succ n ih =>
    rw [upto_succ, List.pairwise_append]
    refine ⟨ih, by simp, fun x hx y hy => ?_⟩
    simp only [upto, List.mem_map, List.mem_range, List.mem_singleton] at hx hy
    obtain ⟨i, hi, rfl⟩ := hx
    subst hy
    omega

theorem eq_of_perm_sorted : ∀ {l₁ l₂ : List Int}, l₁.Perm l₂ → l₁.Pairwise (· ≤ ·) → l₂.Pairwise (· ≤ ·) → l₁ = l₂
  | [], l₂, p, _, _ => p.nil_eq
  | x :: l₁, [], p, _, _ => by simp at p
  | x :: l₁, y :: l₂, p, s₁, s₂ => by
    have hxy : x = y := by
      have hx : x ∈ y :: l₂ := p.mem_iff.mp (.head _)
      have hy : y ∈ x :: l₁ := p.mem_iff.mpr (.head _)
      have h1 : y ≤ x := by
        rcases List.mem_cons.mp hx with h | h
        · omega
        · exact (List.pairwise_cons.mp s₂).1 x h
      have h2 : x ≤ y := by
        rcases List.mem_cons.mp hy with h | h
        · omega
        · exact (List.pairwise_cons.mp s₁).1 y h
      omega
    subst hxy
    rw [eq_of_perm_sorted (List.perm_cons x |>.mp p) (List.pairwise_cons.mp s₁).2 (List.pairwise_cons.mp s₂).2]

def toldLow (n m less b : Int) (k : Nat) : List Int := (upto (b + 1) k).map (lowOf n m less)
def toldUpp (n m t less b : Int) (k : Nat) : List Int := (upto (b + 1) k).map (uppOf n m t less)

section
variable {n m t less : Int} (hm : 0 < m) (hn : m < n) (ht : 0 < t) (hl : less = 0 ∨ less = 1)

include hm hn hl in
theorem cnt_grow {j : Int} (hj : 0 ≤ j) (T : Nat) : cntOf n m less j ≤ cntOf n m less (j + T) ∧ cntOf n m less (j + T) ≤ cntOf n m less j + T := by
  induction T with
  | zero => simp
  | succ T ih =>
    have h1 := cnt_mono hm hn hl (j := j + T) (by omega)
    have h2 := cnt_step hm hn hl (j := j + T) (by omega)
    rw [show j + ((T + 1 : Nat) : Int) = j + T + 1 by omega]
    omega

include hm hn ht hl in
theorem told_perm {j : Int} (hj : 0 ≤ j) (T : Nat) :
    (toldLow n m less (cntOf n m less j) (cntOf n m less (j + T) - cntOf n m less j).toNat ++
      toldUpp n m t less (j - cntOf n m less j) (T - (cntOf n m less (j + T) - cntOf n m less j)).toNat).Perm (upto (j + 1) T) := by
  induction T with
  | zero =>
    simp [toldLow, toldUpp, upto_zero]
  | succ T ih =>
    have hg := cnt_grow hm hn hl hj T
    have h1 := cnt_mono hm hn hl (j := j + T) (by omega)
    have h2 := cnt_step hm hn hl (j := j + T) (by omega)
    have e1 : j + ((T + 1 : Nat) : Int) = j + T + 1 := by omega
    rw [e1]
    rw [upto_succ]
    by_cases c : cntOf n m less (j + T + 1) = cntOf n m less (j + T) + 1
    · have hx := low_new hm hn hl (j := j + T) (by omega) c
      rw [c] at hx
      rw [c]
      have e2 : (cntOf n m less (j + T) + 1 - cntOf n m less j).toNat = (cntOf n m less (j + T) - cntOf n m less j).toNat + 1 := by omega
      have e3 : (((T + 1 : Nat) : Int) - (cntOf n m less (j + T) + 1 - cntOf n m less j)).toNat = (T - (cntOf n m less (j + T) - cntOf n m less j)).toNat := by omega
      rw [e2, e3]
      unfold toldLow
      rw [upto_succ, List.map_append]
      have e4 : cntOf n m less j + 1 + ((cntOf n m less (j + T) - cntOf n m less j).toNat : Int) = cntOf n m less (j + T) + 1 := by omega
      rw [e4, List.map_cons, List.map_nil, hx]
      have e5 : j + 1 + (T : Int) = j + T + 1 := by omega
      rw [e5]
      unfold toldLow at ih
      refine List.Perm.trans ?_ (ih.append_right _)
      rw [List.append_assoc, List.append_assoc]
      exact List.Perm.append_left _ List.perm_append_comm
    · have c' : cntOf n m less (j + T + 1) = cntOf n m less (j + T) := by omega
      have hx := upp_new hm hn ht hl (j := j + T) (by omega) c'
      rw [c'] at hx
      rw [c']
      have e3 : (((T + 1 : Nat) : Int) - (cntOf n m less (j + T) - cntOf n m less j)).toNat = (T - (cntOf n m less (j + T) - cntOf n m less j)).toNat + 1 := by omega
      rw [e3]
      unfold toldUpp
      rw [upto_succ, List.map_append]
      have e4 : j - cntOf n m less j + 1 + ((T - (cntOf n m less (j + T) - cntOf n m less j)).toNat : Int) = j + T + 1 - cntOf n m less (j + T) := by omega
      rw [e4, List.map_cons, List.map_nil, hx]
      have e5 : j + 1 + (T : Int) = j + T + 1 := by omega
      rw [e5]
      unfold toldUpp at ih
      refine List.Perm.trans ?_ (ih.append_right _)
      rw [List.append_assoc]
end
end Mine

namespace Mine
open PySem PySem.W PyProof.Rows

def topStmts : List Stmt := PySem.Challenge.pw_dw0056_01.main.body
def rtoBody : List Stmt := match topStmts with | [_, _, .FunctionDef (body := b) .., _, _] => b | _ => []
def rtoScope : Scope := match topStmts with | [_, _, .FunctionDef (scope := b) .., _, _] => b | _ => default
def rtoArgs : Arguments := match topStmts with | [_, _, .FunctionDef (args := b) .., _, _] => b | _ => default
def lawBody : List Stmt := match topStmts with | [_, _, _, _, .FunctionDef (body := b) ..] => b | _ => []
def lawScope : Scope := match topStmts with | [_, _, _, _, .FunctionDef (scope := b) ..] => b | _ => default
def outerBody : List Stmt := match lawBody with | [_, _, _, .For (body := b) .., _] => b | _ => []
def innerBody : List Stmt := match outerBody with | [_, _, _, _, .For (body := b) ..] => b | _ => []
def innerIter : PySem.Expr := match outerBody with | [_, _, _, _, .For (iter := b) ..] => b | _ => .Constant .none 0 default
def lawEnv (L fa : Addr) (cd : Value) : Env := envOfC (Str.ofString "law") lawScope L fa cd

theorem kind_n {L fa cd} : (lawEnv L fa cd).kindOf (Str.ofString "n") = some .cell := by rfl
theorem cell_n {L fa cd} : (lawEnv L fa cd).cells = [(Str.ofString "m", L + 1 + 1 + 1), (Str.ofString "n", L + 1 + 1), (Str.ofString "z", L + 1)] := by rfl
theorem inner_len : innerBody.length = 7 := by rfl
theorem outer_len : outerBody.length = 5 := by rfl
end Mine

set_option maxHeartbeats 4000000
namespace Mine
open PySem PySem.W PyProof.Rows
section
variable {prog : Program} {w : World} {A : Around} {E : Value → Shared → Prop} {s : Shared}

theorem ror_differs : reflectedDiffers (.type "int") (.type "bool") "or" = pure true := by
  unfold reflectedDiffers
  show (typeLookup (.type "bool") (dunderR "or") >>= fun rb => typeLookup (.type "int") (dunderR "or") >>= fun ra => pure (rb.isSome && rb != ra)) = pure true
  rw [typeLookup_type, typeLookup_type, builtinLookup_eq_fast]; kernel_rfl

theorem call_bool_ror {a : Int} {t : Tok} {b : Bool} {Q : Value → Shared → Prop} (h : Q (.int (Builtin.bitOr a (if b = true then 1 else 0)) s.toks) { s with toks := s.toks + 1 }) :
    wpAny (model prog w) A (call (.builtin "bool.__ror__") [.bool b, .int a t]) Q E s := by
  refine wpAny_call (codeAny_call_builtin F.slot_bool_ror.plain F.entry_bool_ror (F.slot_bool_ror.check _ _ _ _ _ _ _ _ rfl (F.args_bool_ror_2 _ _) ?_))
  show wpAny _ _ (do rule "bool.bitwise.as-ints"; again (.builtin "int.__or__" ⟨[.int a t, .bool b], []⟩)) _ _ s
  refine wpAny_bind (wpAny_rule (wpAny_pure ⟨plainId_quiet (by decide +kernel) _, codeAny_builtin PyProof.Rows.entry_int_or ?_⟩))
  show wpAny _ _ (do ret (← mkInt (Builtin.bitOr a (if b = true then 1 else 0)))) _ _ s
  exact wpAny_bind (wpAny_mkInt (wpAny_pure h))

theorem binop_refl {M : Model} {a b : Value} {T U idr : String} {op : Operator} {Q : Value → Shared → Prop} (hTU : T ≠ U) (ha : s.TypeIs a T) (hb : s.TypeIs b U)
    (hfT : fillsNumberSlot (.type T) op.info.2 = pure true) (hfU : fillsNumberSlot (.type U) op.info.2 = pure true) (hsub : isSubtype (.type U) (.type T) = pure true)
    (hdif : reflectedDiffers (.type T) (.type U) op.info.2 = pure true) (hr : Slot U (dunderR op.info.2) idr)
    (hc : wpAny M A (call (.builtin idr) [b, a]) (fun v s₁ => v ≠ .notImplemented ∧ Q v s₁) E s) : wpAny M A (binaryOp op a b) Q E s := by
  rcases hi : op.info with ⟨sym, nm⟩
  rw [hi] at hfT hfU hdif hr
  simp only [binaryOp, hi]
  refine wpAny_holding (wpAny_bind ?_)
  simp only [binaryOp1]
  refine wpAny_bind (wpAny_typeOf ha (wpAny_bind (wpAny_typeOf hb (wpAny_bind (wpAny_of_eq hfT ?_)))))
  have hne : (Value.type T == Value.type U) = false := by simpa using hTU
  simp only [hne, Bool.false_eq_true, if_false]
  refine wpAny_bind (wpAny_of_eq hfU ?_)
  simp only [Bool.and_self, if_true]
  refine wpAny_bind (wpAny_of_eq hsub ?_)
  simp only [if_true]
  refine wpAny_bind (wpAny_of_eq hdif ?_)
  simp only [if_true]
  refine wpAny_bind (wpAny_rule ?_)
  simp only [tryMethod]
  refine wpAny_bind (wpAny_bind (wpAny_callSpecial?_slot hb hr (wpAny_mono hc (fun v s₁ h₁ => ?_) fun _ _ x => x)))
  obtain ⟨hv, hq⟩ := h₁
  cases v <;> first | exact absurd rfl hv | exact wpAny_pure (wpAny_pure (wpAny_pure hq))

theorem or_int_bool {a : Int} {t : Tok} {b : Bool} {Q : Value → Shared → Prop} (h : Q (.int (Builtin.bitOr a (if b = true then 1 else 0)) s.toks) { s with toks := s.toks + 1 }) :
    wpAny (model prog w) A (binaryOp .BitOr (.int a t) (.bool b)) Q E s :=
  binop_refl (op := .BitOr) (T := "int") (U := "bool") (by decide) (typeIs_int s a t) rfl F.fills_int_or F.fills_bool_or isSubtype_bool_int ror_differs F.slot_bool_ror (call_bool_ror ⟨by simp, h⟩)
end
end Mine

namespace Mine
open PySem PySem.W PyProof.Rows PySem.Calls

/-- below 2^k in size -/
def Bd (k : Nat) (x : Int) : Prop := x.natAbs < 2 ^ k
theorem Bd.mono {j k : Nat} {x : Int} (h : Bd j x) (hjk : j ≤ k) : Bd k x := Nat.lt_of_lt_of_le h (Nat.pow_le_pow_right (by decide) hjk)
theorem Bd.add {j k : Nat} {x y : Int} (h : Bd j x) (h' : Bd k y) : Bd (max j k + 1) (x + y) := by
  have h1 : Bd (max j k) x := h.mono (Nat.le_max_left _ _)
  have h2 : Bd (max j k) y := h'.mono (Nat.le_max_right _ _)
  unfold Bd at *
  rw [Nat.pow_succ]
  omega
theorem Bd.neg {k : Nat} {x : Int} (h : Bd k x) : Bd k (-x) := by unfold Bd at *; omega
theorem Bd.sub {j k : Nat} {x y : Int} (h : Bd j x) (h' : Bd k y) : Bd (max j k + 1) (x - y) := by
  have := h.add h'.neg
  rwa [← Int.sub_eq_add_neg] at this
theorem Bd.mul {j k : Nat} {x y : Int} (h : Bd j x) (h' : Bd k y) : Bd (j + k) (x * y) := by
  unfold Bd at *
  rw [Int.natAbs_mul, Nat.pow_add]
  exact Nat.mul_lt_mul'' h h'
theorem Bd.bits {k : Nat} {x : Int} (h : Bd k x) : Builtin.Int.intBits x ≤ k := by
  unfold Builtin.Int.intBits
  split
  · exact Nat.zero_le _
  · rename_i h0
    have hx : x.natAbs ≠ 0 := by simpa using h0
    exact (Nat.log2_lt hx).mpr h
theorem Bd.log {k : Nat} {x : Int} (h : Bd k x) (hk : 0 < k) : x.natAbs.log2 < k := by
  by_cases h0 : x.natAbs = 0
  · rw [h0]; exact hk
  · exact (Nat.log2_lt h0).mpr h
theorem Bd.mulOk {j k : Nat} {x y : Int} (h : Bd j x) (h' : Bd k y) (hs : j + k ≤ 100000) : IntMulOk x y := by
  unfold IntMulOk
  have h1 := h.bits
  have h2 := h'.bits
  intro q
  simp only [Bool.and_eq_true] at q
  have q2 := q.2
  unfold Builtin.Int.intTooBig at q2
  simp only [decide_eq_true_eq] at q2
  have hb : bitsLine = 134217728 := by decide
  omega
theorem Bd.of_le {k : Nat} {x y : Int} (h : Bd k y) (h0 : 0 ≤ x) (hx : x ≤ y) : Bd k x := by unfold Bd at *; omega
theorem Bd.fdiv {k : Nat} {x y : Int} (h : Bd k x) : Bd (k + 1) (x.fdiv y) := by
  have e : (x.fdiv y).natAbs ≤ x.natAbs := by
    have := Int.natAbs_fdiv_le_natAbs x y
    exact this
  unfold Bd at *
  rw [Nat.pow_succ]
  omega
theorem Bd.fmod {k : Nat} {x y : Int} (h : Bd k y) (hy : 0 < y) : Bd k (x.fmod y) := by
  have h1 := Int.fmod_nonneg_of_pos x hy
  have h2 := Int.fmod_lt_of_pos x hy
  exact h.of_le h1 (by omega)

/-- the name is bound so, and reading it changes nothing -/
def NameIs (env : Env) (h : Heap) (x : Str) (v : Value) : Prop :=
  ∀ (M : Model) (A : Around) (E : Value → Shared → Prop) (s : Shared) (Q : Value → Shared → Prop) (pos : Pos), s.heap = h → Q v s → wpAny M A (eval (.Name x pos) env) Q E s

theorem NameIs.loc {env : Env} {h : Heap} {x : Str} {v : Value} {m : Str → Option Value} (hn : h.Ns env.locals m) (hv : m x = some v) (hk : env.scope.kind = .function) (hl : env.kindOf x = some .local)
    (hd : (x == ("__debug__" : Str)) = false) : NameIs env h x v :=
  fun _ _ _ _ _ _ e q => wpAny_Name (wpAny_loadName_local hk hl (e ▸ hn) hv q) hd
theorem NameIs.cel {env : Env} {h : Heap} {x : Str} {v : Value} {c : Addr} (hc : h.IsCell c (some v)) (hx : env.cells.lookup x = some c) (hk : env.scope.kind = .function) (hl : env.kindOf x = some .cell)
    (hd : (x == ("__debug__" : Str)) = false) : NameIs env h x v :=
  fun _ _ _ _ _ _ e q => wpAny_Name (wpAny_loadName_cell hk hl hx (e ▸ hc) q) hd
theorem NameIs.glo {env : Env} {h : Heap} {x : Str} {v : Value} {mg : Str → Option Value} (hg : h.Ns env.globals mg) (hv : mg x = some v) (hk : env.scope.kind = .function) (hl : env.kindOf x = some .globalImplicit)
    (hd : (x == ("__debug__" : Str)) = false) : NameIs env h x v :=
  fun _ _ _ _ _ _ e q => Name_function_global hk hl (loadGlobal_global (e ▸ hg) hv q) hd
theorem NameIs.blt {env : Env} {h : Heap} {x : Str} {v : Value} {mg mb : Str → Option Value} (hg : h.Ns env.globals mg) (hno : mg x = none) (hb : h.Ns env.builtins mb) (hv : mb x = some v) (hk : env.scope.kind = .function) (hl : env.kindOf x = some .globalImplicit)
    (hd : (x == ("__debug__" : Str)) = false) : NameIs env h x v :=
  fun _ _ _ _ _ _ e q => Name_function_global hk hl (loadGlobal_builtin (e ▸ hg) hno (e ▸ hb) hv q) hd

/-- an int expression's value, with a bound of its size -/
inductive IEv (env : Env) (h : Heap) : PySem.Expr → Nat → Int → Prop
  | const {g : Nat} {k : Int} {u : Nat} {pos : Pos} : Bd g k → IEv env h (.Constant (.int k) u pos) g k
  | name {g : Nat} {k : Int} {t : Tok} {x : Str} {pos : Pos} : NameIs env h x (.int k t) → Bd g k → IEv env h (.Name x pos) g k
  | leaf {g : Nat} {k : Int} {e : PySem.Expr} : (∀ (prog : Program) (w : World) (A : Around) (E : Value → Shared → Prop) (s : Shared) (Q : Value → Shared → Prop), s.heap = h → (∀ t tk, Q (.int k t) { s with toks := tk }) → wpAny (model prog w) A (eval e env) Q E s) → Bd g k → IEv env h e g k
  | add {a b : PySem.Expr} {g g' : Nat} {x y : Int} {pos : Pos} : IEv env h a g x → IEv env h b g' y → IEv env h (.BinOp a .Add b pos) (max g g' + 1) (x + y)
  | sub {a b : PySem.Expr} {g g' : Nat} {x y : Int} {pos : Pos} : IEv env h a g x → IEv env h b g' y → IEv env h (.BinOp a .Sub b pos) (max g g' + 1) (x - y)
  | mul {a b : PySem.Expr} {g g' : Nat} {x y : Int} {pos : Pos} : IEv env h a g x → IEv env h b g' y → g + g' ≤ 100000 → IEv env h (.BinOp a .Mult b pos) (g + g') (x * y)
  | fdiv {a b : PySem.Expr} {g g' : Nat} {x y : Int} {pos : Pos} : IEv env h a g x → IEv env h b g' y → 0 < y → g' ≤ 9000 → IEv env h (.BinOp a .FloorDiv b pos) (g + 1) (x.fdiv y)
  | mod {a b : PySem.Expr} {g g' : Nat} {x y : Int} {pos : Pos} : IEv env h a g x → IEv env h b g' y → 0 < y → IEv env h (.BinOp a .Mod b pos) g' (x.fmod y)

theorem IEv.bd {env : Env} {h : Heap} {e : PySem.Expr} {g : Nat} {k : Int} (H : IEv env h e g k) : Bd g k := by
  induction H with
  | const hb => exact hb
  | name _ hb => exact hb
  | leaf _ hb => exact hb
  | add _ _ h1 h2 => exact h1.add h2
  | sub _ _ h1 h2 => exact h1.sub h2
  | mul _ _ _ h1 h2 => exact h1.mul h2
  | fdiv _ _ _ _ h1 _ => exact h1.fdiv
  | mod _ _ hy _ h2 => exact h2.fmod hy

theorem IEv.run {env : Env} {h : Heap} {e : PySem.Expr} {g : Nat} {k : Int} (H : IEv env h e g k) {prog : Program} {w : World} {A : Around} : ∀ {E : Value → Shared → Prop} {s : Shared} {Q : Value → Shared → Prop}, s.heap = h →
    (∀ t tk, Q (.int k t) { s with toks := tk }) → wpAny (model prog w) A (eval e env) Q E s := by
  induction H with
  | const hb => intro E s Q _ q; exact wpAny_Constant_int (q _ _)
  | name hn _ => intro E s Q e q; exact hn _ _ _ _ _ _ e (q _ s.toks)
  | leaf hr _ => intro E s Q e q; exact hr _ _ _ _ _ _ e q
  | add _ _ h1 h2 =>
    intro E s Q e q
    exact wpAny_BinOp (h1 e fun t tk => h2 e fun t' tk' => PyProof.Rows.add_int (q _ _))
  | sub _ _ h1 h2 =>
    intro E s Q e q
    exact wpAny_BinOp (h1 e fun t tk => h2 e fun t' tk' => PyProof.Rows.sub_int (q _ _))
  | mul i1 i2 hg h1 h2 =>
    intro E s Q e q
    exact wpAny_BinOp (h1 e fun t tk => h2 e fun t' tk' => PyProof.Rows.mul_int (q _ _) (i1.bd.mulOk i2.bd hg))
  | fdiv i1 i2 hy hg h1 h2 =>
    intro E s Q e q
    exact wpAny_BinOp (h1 e fun t tk => h2 e fun t' tk' => PyProof.Rows.floordiv_int (by omega) (q _ _) (.inl (PyProof.noPylong_of_log2 ((i2.bd.mono hg).log (by decide)))))
  | mod i1 i2 hy h1 h2 =>
    intro E s Q e q
    exact wpAny_BinOp (h1 e fun t tk => h2 e fun t' tk' => PyProof.Rows.mod_int' (by omega) (q _ _))
end Mine

namespace Mine
open PySem PySem.W PyProof.Rows PySem.Calls

abbrev Kp (h h' : Heap) : Prop := ∀ b o, h.get? b = some o → h'.get? b = some o

abbrev rtoName : Str := Str.ofString "_integer_sqrt_of_frac_rto"

structure TF (mg mb : Str → Option Value) (f : Addr) (fd : FuncData) (h : Heap) : Prop where
  g : h.Ns mainGlobals mg
  b : h.Ns builtinsNs mb
  lim : h.NoLimit
  isq : mg (Str.ofString "isqrt") = some (.builtin "math.isqrt")
  rt : mg rtoName = some (.ref f)
  rg : mg (Str.ofString "range") = none
  rb : mb (Str.ofString "range") = some (.type "range")
  sg : mg (Str.ofString "sorted") = none
  sb : mb (Str.ofString "sorted") = some (.builtin "sorted")
  lg : mg (Str.ofString "list") = none
  lb : mb (Str.ofString "list") = some (.type "list")
  fo : ∃ o, h.get? f = some o ∧ o.data = .func fd
  cd : h.CodeRec fd.code fd.qualname
  body : fd.body = .stmts rtoBody
  scope : fd.scope = rtoScope
  gl : fd.globals = mainGlobals
  bl : fd.builtins = builtinsNs
  binds : ∀ s a b, BindsTo s fd ⟨[a, b], []⟩ [(Str.ofString "n", a), (Str.ofString "m", b)]

theorem TF.keeps {mg mb : Str → Option Value} {f : Addr} {fd : FuncData} {h h' : Heap} (T : TF mg mb f fd h) (k : Kp h h') : TF mg mb f fd h' :=
  { T with g := T.g.keeps k, b := T.b.keeps k, lim := T.lim.keeps k, cd := T.cd.keeps k, fo := let ⟨o, e, r⟩ := T.fo; ⟨o, k _ _ e, r⟩ }

theorem isqrt_call {prog : Program} {w : World} {A : Around} {E : Value → Shared → Prop} {s : Shared} {Q : Value → Shared → Prop} {a : Int} {t : Tok} (h0 : 0 ≤ a) (hb : Bd 7000 a)
    (h : Q (.int ((Float64.isqrt a.toNat : Nat) : Int) s.toks) { s with toks := s.toks + 1 }) : wpAny (model prog w) A (call (.builtin "math.isqrt") [.int a t]) Q E s := by
  have hl : a.toNat.log2 < 7000 := by
    have := hb.log (by decide)
    rwa [show a.natAbs = a.toNat by omega] at this
  exact call_function_meets MGF.kind_isqrt MGF.plain_isqrt MGF.entry_isqrt (MGF.args_isqrt _) (mg_run_isqrt a t (by omega) (by omega) (by omega)).meets h

section
variable {prog : Program} {w : World} {A : Around} {E : Value → Shared → Prop} {s : Shared} {Q : Value → Shared → Prop} {mg mb : Str → Option Value} {f : Addr} {fd : FuncData} {N D : Int} {tN tD : Tok}

theorem rto_call (T : TF mg mb f fd s.heap) (hd : A.depth < recursionLimit) (hN : 0 ≤ N) (hD : 0 < D) (bN : Bd 6000 N) (bD : Bd 6000 D)
    (q : ∀ h' t tk, Kp s.heap h' → Q (.int (rto N D) t) { s with heap := h', toks := tk }) : wpAny (model prog w) A (call (.ref f) [.int N tN, .int D tD]) Q E s := by
  obtain ⟨o, ho, hdat⟩ := T.fo
  refine wpAny_call (codeAny_call_def hd ho hdat T.lim T.cd T.body (T.binds _ _ _) (by rw [T.scope]; decide) (by rw [T.scope]; exact List.forall_mem_cons.mpr ⟨rfl, List.forall_mem_cons.mpr ⟨rfl, fun _ h => nomatch h⟩⟩) (fun h₁ hns hk => ?_) (by rw [T.scope]; rfl) (by rw [T.scope]; rfl) (by rw [T.scope]; rfl))
  have T₁ := T.keeps hk
  generalize hL : s.heap.objs.size = L at *
  generalize henv : callEnv fd L f = env at *
  have eS : env.scope = rtoScope := by rw [← henv]; exact T.scope
  have eL : env.locals = L := by rw [← henv]; rfl
  have eG : env.globals = mainGlobals := by rw [← henv]; exact T.gl
  have kF : env.scope.kind = .function := by rw [eS]; rfl
  have kN : env.kindOf (Str.ofString "n") = some .local := by unfold Env.kindOf; rw [eS]; rfl
  have kM : env.kindOf (Str.ofString "m") = some .local := by unfold Env.kindOf; rw [eS]; rfl
  have kA : env.kindOf (Str.ofString "a") = some .local := by unfold Env.kindOf; rw [eS]; rfl
  have kI : env.kindOf (Str.ofString "isqrt") = some .globalImplicit := by unfold Env.kindOf; rw [eS]; rfl
  have dbg : ∀ x : Str, x ≠ Str.ofString "__debug__" → (x == ("__debug__" : Str)) = false := fun x hx => by simpa using hx
  show wpAny _ _ (execs (.Assign [.Name _ _] (.Call (.Name _ _) [_] [] _) _ :: .Return (some (.BinOp (.Name _ _) .BitOr (.Compare _ [.NotEq] [_] _) _)) _ :: []) env) _ _ _
  rw [← eL] at hns
  have hq := Int.fdiv_eq_ediv_of_nonneg N (Int.le_of_lt hD)
  have hq0 : 0 ≤ N.fdiv D := by rw [hq]; exact Int.ediv_nonneg hN (Int.le_of_lt hD)
  have bq : Bd 6001 (N.fdiv D) := bN.fdiv
  refine wpAny_execs_cons (wpAny_Assign_Name ?_ (by
    show (pure _ : Sem Bool) = pure false
    rfl))
  refine Call_ (NameIs.glo (eG ▸ T₁.g) T.isq kF kI (by decide) _ _ _ _ _ _ rfl ?_)
  refine callWith_builtin1 (args_cons ((IEv.fdiv (.name (.loc hns rfl kF kN (by decide)) bN) (.name (.loc hns rfl kF kM (by decide)) bD) hD (by decide)).run rfl fun t tk => args_nil ?_))
  refine isqrt_call hq0 (bq.mono (by decide)) ?_
  refine wpAny_storeName_local kA hns (fun h₂ hns₂ hs₂ => ?_) (by rw [kF]; rfl)
  have hk₂ : Kp s.heap h₂ := fun b o e => hs₂.extBut b o (by rw [eL, ← hL]; exact Nat.ne_of_lt (Heap.lt_size e)) (hk b o e)
  obtain ⟨a, ha, a0, a1, a2⟩ := root_spec hN hD
  have ba : Bd 6001 a := by
    refine bq.of_le a0 ?_
    rw [hq]
    refine Int.le_ediv_of_mul_le hD ?_
    by_cases c : a = 0
    · subst c; omega
    · have : a * 1 ≤ a * a := Int.mul_le_mul_of_nonneg_left (by omega) a0
      have := Int.mul_le_mul_of_nonneg_right this (Int.le_of_lt hD)
      rw [Int.mul_one] at this
      omega
  rw [ha] at hns₂
  refine wpAny_execs_cons (wpAny_Return_some ?_)
  refine wpAny_BinOp (NameIs.loc hns₂ rfl kF kA (by decide) _ _ _ _ _ _ rfl ?_)
  refine wpAny_Compare1 ((IEv.mul (.mul (.name (.loc hns₂ rfl kF kA (by decide)) ba) (.name (.loc hns₂ rfl kF kA (by decide)) ba) (by decide)) (.name (.loc hns₂ rfl kF kM (by decide)) bD) (by decide)).run rfl fun t tk => ?_)
  refine NameIs.loc hns₂ rfl kF kN (by decide) _ _ _ _ _ _ rfl (PyProof.Rows.ne_int ?_)
  refine or_int_bool ?_
  have e : rto N D = Builtin.bitOr a (if (a * a * D != N) = true then 1 else 0) := by unfold rto; rw [ha]
  rw [← e]
  exact q _ _ _ hk₂
end
end Mine

namespace Mine
open PySem PySem.W PyProof.Rows PySem.Calls

theorem rto_pos {N D : Int} (hN : 0 ≤ N) (hD : 0 < D) (bN : Bd 6000 N) : 0 ≤ rto N D ∧ Bd 6002 (rto N D) := by
  obtain ⟨a, ha, a0, a1, a2⟩ := root_spec hN hD
  have haN : a ≤ N := by
    by_cases c : a = 0
    · subst c; omega
    · have h1 : a * 1 ≤ a * a := Int.mul_le_mul_of_nonneg_left (by omega) a0
      have h2 : a * a * 1 ≤ a * a * D := Int.mul_le_mul_of_nonneg_left (by omega) (Int.mul_nonneg a0 a0)
      rw [Int.mul_one] at h1 h2
      omega
  have e : rto N D = Builtin.bitOr a (if (a * a * D != N) = true then 1 else 0) := by unfold rto; rw [ha]
  have ba : Bd 6000 a := bN.of_le a0 haN
  rw [e]
  by_cases c : (a * a * D != N) = true
  · rw [if_pos c, bitOr_one a0]
    refine ⟨by omega, ?_⟩
    have b1 : Bd 6001 (a + 1) := ba.add (k := 1) (y := 1) (by unfold Bd; decide)
    exact (b1.of_le (by omega) (by omega)).mono (by decide)
  · rw [if_neg c, bitOr_zero a0]
    exact ⟨a0, ba.mono (by decide)⟩

abbrev lst (vs : Array Value) (c : Nat) : Obj := { cls := .type "list", data := .seq vs c }
abbrev tup (vs : Array Value) (c : Nat) : Obj := { cls := .type "tuple", data := .seq vs c }
abbrev ups (m : Str → Option Value) (x : Str) (v : Value) : Str → Option Value := fun y => if y = x then some v else m y

structure St (h₀ : Heap) (L : Addr) (h : Heap) (m : Str → Option Value) (led : List (Addr × Obj)) : Prop where
  F : Fr h₀ L h m
  N : News h₀ L h led

section
variable {h₀ h h' : Heap} {L a : Addr} {o : Obj} {m m' : Str → Option Value} {led led' : List (Addr × Obj)}
theorem St.kp (S : St h₀ L h m led) (k : Kp h h') : St h₀ L h' m led := ⟨S.F.keeps k, fun p hp => ⟨k _ _ (S.N p hp).1, (S.N p hp).2⟩⟩
theorem St.store (S : St h₀ L h m led) (hn : h'.Ns L m') (hs : Heap.SameBut L h h') : St h₀ L h' m' led := ⟨S.F.set hn hs, S.N.set hs⟩
theorem St.sub (S : St h₀ L h m led) (hs : ∀ p ∈ led', p ∈ led) : St h₀ L h m led' := ⟨S.F, fun p hp => S.N p (hs p hp)⟩
theorem St.lt (S : St h₀ L h m led) : L < h.objs.size := S.F.ns.lt
theorem St.new (S : St h₀ L h m led) (k : Kp h h') (ha : h.get? a = none) (ho : h'.get? a = some o) : St h₀ L h' m ((a, o) :: led) := by
  refine ⟨S.F.keeps k, fun p hp => ?_⟩
  rcases List.mem_cons.mp hp with rfl | hp
  · refine ⟨ho, fun e => ?_, ?_⟩
    · obtain ⟨oL, _, _, hL, _⟩ := S.F.ns
      have e' : a = L := e
      rw [e', hL] at ha
      cases ha
    · cases q : h₀.get? a with
      | none => rfl
      | some o' => rw [S.F.keep _ _ q] at ha; cases ha
  · exact ⟨k _ _ (S.N p hp).1, (S.N p hp).2⟩
theorem St.push (S : St h₀ L h m led) (o : Obj) (hf : o.isFreed = false := by rfl) : St h₀ L (h.push o) m ((h.objs.size, o) :: led) := ⟨S.F.push _, S.N.push S.F _ hf⟩
theorem St.get (S : St h₀ L h m led) (hm : (a, o) ∈ led) : h.get? a = some o := (S.N _ hm).1
/-- one entry of the ledger changed -/
theorem St.upd {o' : Obj} (S : St h₀ L h m ((a, o) :: led)) (hne : ∀ p ∈ led, p.1 ≠ a) (hs : Heap.SameBut a h h') (ho : h'.get? a = some o') : St h₀ L h' m ((a, o') :: led) := by
  have ha := S.N (a, o) (.head _)
  refine ⟨⟨S.F.ns.sameBut hs (Ne.symm ha.2.1), fun b ob e => (hs.2 b fun q => ?_).trans (S.F.keep b ob e), S.F.above⟩, fun p hp => ?_⟩
  · rw [q, ha.2.2] at e; cases e
  · rcases List.mem_cons.mp hp with rfl | hp
    · exact ⟨ho, ha.2⟩
    · have := S.N p (.tail _ hp)
      exact ⟨(hs.2 _ (hne p hp)).trans this.1, this.2⟩
end

/-- an object that is none of the ledger's changed -/
theorem St.but {h₀ h h' : Heap} {L c : Addr} {m : Str → Option Value} {led : List (Addr × Obj)} (S : St h₀ L h m led) (hs : Heap.ExtBut c h h') (h1 : h₀.get? c = none) (h2 : L ≠ c) (h3 : ∀ p ∈ led, p.1 ≠ c) : St h₀ L h' m led :=
  ⟨⟨S.F.ns.extBut hs h2, fun b o e => hs b o (fun q => by rw [q, h1] at e; cases e) (S.F.keep b o e), S.F.above⟩, fun p hp => ⟨hs _ _ (h3 p hp) (S.N p hp).1, (S.N p hp).2⟩⟩
/-- what is not there is none of it -/
theorem St.out {h₀ h : Heap} {L c : Addr} {m : Str → Option Value} {led : List (Addr × Obj)} (S : St h₀ L h m led) (hc : h.get? c = none) : h₀.get? c = none ∧ L ≠ c ∧ ∀ p ∈ led, p.1 ≠ c := by
  refine ⟨?_, ?_, fun p hp e => ?_⟩
  · cases q : h₀.get? c with
    | none => rfl
    | some o => rw [S.F.keep _ _ q] at hc; cases hc
  · intro e
    obtain ⟨oL, _, _, hL, _⟩ := S.F.ns
    rw [← e, hL] at hc
    cases hc
  · have := (S.N p hp).1
    rw [e, hc] at this
    cases this

theorem get_none {h : Heap} {a : Addr} (ha : h.objs.size ≤ a) : h.get? a = none := by
  cases e : h.get? a with
  | none => rfl
  | some o => exact absurd (Heap.lt_size e) (Nat.not_lt.mpr ha)

def ist (i : Nat) : Stmt := innerBody.getD i (.Pass default)
def endScope : Scope := match ist 0 with | .Assign _ (.ListComp _ _ s _) _ => s | _ => default
theorem inner_eq : innerBody = [ist 0, ist 1, ist 2, ist 3, ist 4, ist 5, ist 6] := by rfl

section
variable {prog : Program} {w : World} {A : Around} {E : Value → Shared → Prop} {s : Shared} {Q : Flow → Shared → Prop} {mg mb : Str → Option Value} {f : Addr} {fd : FuncData} {h₀ : Heap}
  {L fa : Addr} {cd : Value} {m : Str → Option Value} {led : List (Addr × Obj)} {n mm start top less : Int} {tn tm ts tp tl : Tok} {on om : Obj}

theorem st_ends (T : TF mg mb f fd h₀) (S : St h₀ L s.heap m led) (hh : A.handled = none) (hd : A.depth < recursionLimit)
    (hs : m (Str.ofString "start") = some (.int start ts)) (htp : m (Str.ofString "top") = some (.int top tp))
    (hn : (L + 1 + 1, on) ∈ led) (hon : on.data = .cell (some (.int n tn))) (hm : (L + 1 + 1 + 1, om) ∈ led) (hom : om.data = .cell (some (.int mm tm)))
    (bn : Bd 1100 n) (bm : Bd 1100 mm) (bs : Bd 1010 start) (bt : Bd 10 top) (n0 : 0 < n) (m0 : 0 ≤ mm)
    (q : ∀ h' tk a c t0 t1, St h₀ L h' (ups m (Str.ofString "ends") (.ref a)) ((a, lst #[.int (rto (4 * (start + 1) * (start + 1) * mm) n) t0, .int (rto (4 * (start + top + 1) * (start + top + 1) * mm) n) t1] c) :: led) →
      Q .next { s with heap := h', toks := tk }) :
    wpAny (model prog w) A (exec (ist 0) (lawEnv L fa cd)) Q E s := by
  show wpAny _ _ (exec (.Assign [.Name _ _] (.ListComp (.Call (.Name _ _) [_, _] [] _) [⟨.Name _ _, .List [_, _] _, [], 0⟩] _ _) _) (lawEnv L fa cd)) _ _ _
  rw [exec_Assign_Name_used _ _ _ _ (by rfl)]
  refine wpAny_bind (wpAny_standAt (wpAny_bind ?_))
  show wpAny _ _ ((comprehension _ _ _ _ _ false _ (some _)) >>= fun _ => pure ()) _ _ _
  refine wpAny_bind (wpAny_comprehension_free rfl (fun _ => rfl) (cl := [(Str.ofString "n", L + 1 + 1), (Str.ofString "m", L + 1 + 1 + 1)]) (by rfl) (by rfl) (by decide) ?_)
  have nsL := S.F.ns
  have kS : NameIs (lawEnv L fa cd) s.heap (Str.ofString "start") (.int start ts) := .loc nsL hs rfl rfl (by decide)
  have kT : NameIs (lawEnv L fa cd) s.heap (Str.ofString "top") (.int top tp) := .loc nsL htp rfl rfl (by decide)
  have b1 : Bd 1 (1 : Int) := by unfold Bd; decide
  refine List_ (args_cons ((IEv.add (.name kS bs) (.const b1)).run rfl fun t0 tk0 => args_cons ((IEv.add (.add (.name kS bs) (.name kT bt)) (.const b1)).run rfl fun t1 tk1 => args_nil ?_)))
  refine wpAny_newObj_type ?_ (by size_fits)
  dsimp only
  generalize hH1 : s.heap.push { cls := .type "list", data := .seq [Value.int (start + 1) t0, Value.int (start + top + 1) t1].toArray } = H1
  have k1 : Kp s.heap H1 := fun b o e => by rw [← hH1]; exact Heap.get?_push_of_some _ e
  have l1 : H1.IsList s.heap.objs.size #[Value.int (start + 1) t0, Value.int (start + top + 1) t1] := by rw [← hH1]; exact ⟨_, Heap.get?_push_size _ rfl, rfl, 0, rfl⟩
  have z1 : H1.objs.size = s.heap.objs.size + 1 := by rw [← hH1, Heap.size_push]
  refine wpAny_pyIter_list l1 ?_
  dsimp only
  have W := Walks.list (prog := prog) (w := w) hh H1.objs.size s.heap.objs.size (by rw [z1]; exact Nat.ne_of_lt (Nat.lt_succ_self _)) #[Value.int (start + 1) t0, Value.int (start + top + 1) t1]
  generalize hH2 : H1.push { cls := .type "list_iterator", data := .fields #[.ref s.heap.objs.size, .int 0 0] } = H2
  have k2 : Kp H1 H2 := fun b o e => by rw [← hH2]; exact Heap.get?_push_of_some _ e
  have z2 : H2.objs.size = s.heap.objs.size + 1 + 1 := by rw [← hH2, Heap.size_push, z1]
  have k02 : Kp s.heap H2 := fun b o e => k2 _ _ (k1 _ _ e)
  refine comp_block_walkC (RR := fun acc C => compPost (model prog w) A E _ _ acc C) W (by size_fits) (fun _ => true) (fun v y => ∃ k t t', v = Value.int k t ∧ y = Value.int (rto (4 * k * k * mm) n) t') (by decide) rfl rfl
    ⟨⟨_, by rw [← hH2]; exact Heap.get?_push_size _ rfl, rfl, rfl⟩, l1.at fun o e => k2 _ _ e⟩ ?_ ⟨?_, ?_⟩ ?_
  · intro b hb
    rcases List.mem_cons.mp hb with rfl | hb
    · rw [z1, z2]; exact Nat.lt_succ_self _
    · rw [List.mem_singleton.mp hb, z2]; exact Nat.lt_succ_of_lt (Nat.lt_succ_self _)
  · intro C i v s₃ m₃ E' _ _ _ _ _ _
    exact wpAny_pure ⟨rfl, s₃.heap, s₃.toks, rfl, fun _ _ e => e⟩
  · intro C i v s₃ m₃ E' hC hP _ hns hv hk _
    have K3 : Kp s.heap s₃.heap := fun b o e => hk b o (fun hm => by
      have := Heap.lt_size e
      rw [List.mem_singleton.mp hm, z1] at this
      exact Nat.lt_irrefl _ (Nat.lt_of_succ_lt this)) (k02 b o e)
    have T3 := T.keeps fun b o e => K3 _ _ (S.F.keep b o e)
    have S3 := S.kp K3
    obtain ⟨k, t, rfl, bk⟩ : ∃ k t, v = Value.int k t ∧ Bd 1014 k := by
      have b0 : Bd 1014 (start + 1) := (bs.add b1).mono (by decide)
      have b2 : Bd 1014 (start + top + 1) := ((bs.add bt).add b1).mono (by decide)
      rcases i with _ | _ | i
      · simp at hP; exact ⟨_, _, hP.symm, b0⟩
      · simp at hP; exact ⟨_, _, hP.symm, b2⟩
      · simp at hP
    obtain ⟨fo, hfo, hdat⟩ := T3.fo
    have kk : 0 ≤ k * k := by
      rcases Int.le_total 0 k with c | c
      · exact Int.mul_nonneg c c
      · exact Int.mul_nonneg_of_nonpos_of_nonpos c c
    have e4 : 4 * k * k * mm = 4 * (k * k) * mm := by grind
    have hN : 0 ≤ 4 * k * k * mm := by rw [e4]; exact Int.mul_nonneg (by omega) m0
    have b4 : Bd 3 (4 : Int) := by unfold Bd; decide
    have bN : Bd 6000 (4 * k * k * mm) := (((b4.mul bk).mul bk).mul bm).mono (by decide)
    refine Call_ (NameIs.glo T3.g T.rt rfl rfl (by decide) _ _ _ _ _ _ rfl ?_)
    have nk : NameIs (compEnvC endScope [(Str.ofString "n", L + 1 + 1), (Str.ofString "m", L + 1 + 1 + 1)] C (lawEnv L fa cd)) s₃.heap (Str.ofString "at") (.int k t) := .loc hns hv rfl rfl (by decide)
    have nm : NameIs (compEnvC endScope [(Str.ofString "n", L + 1 + 1), (Str.ofString "m", L + 1 + 1 + 1)] C (lawEnv L fa cd)) s₃.heap (Str.ofString "m") (.int mm tm) := .cel ⟨om, S3.get hm, hom⟩ rfl rfl rfl (by decide)
    have nn : NameIs (compEnvC endScope [(Str.ofString "n", L + 1 + 1), (Str.ofString "m", L + 1 + 1 + 1)] C (lawEnv L fa cd)) s₃.heap (Str.ofString "n") (.int n tn) := .cel ⟨on, S3.get hn, hon⟩ rfl rfl rfl (by decide)
    refine callWith_def hdat (args_cons ((IEv.mul (.mul (.mul (.const b4) (.name nk bk) (by decide)) (.name nk bk) (by decide)) (.name nm bm) (by decide)).run rfl fun t2 tk2 => args_cons ((IEv.name nn bn).run rfl fun t3 tk3 => args_nil ⟨hfo, ?_⟩)))
    exact rto_call T3 hd hN n0 bN (bn.mono (by decide)) fun h4 t4 tk4 k4 => ⟨⟨k, t, t4, rfl, rfl⟩, h4, tk4, rfl, k4⟩
  · intro D C h' tk m' ys vs hD hC hDC hns hl hpl hlen hP hF hk
    have K3 : Kp s.heap h' := fun b o e => hk b o (fun hm => by
      have := Heap.lt_size e
      rw [List.mem_singleton.mp hm, z1] at this
      exact Nat.lt_irrefl _ (Nat.lt_of_succ_lt this)) (k02 b o e)
    have hD0 : s.heap.get? D = none := by
      cases e : s.heap.get? D with
      | none => rfl
      | some o => have := k02 _ _ e; rw [hD] at this; cases this
    have hC0 : s.heap.get? C = none := by
      cases e : s.heap.get? C with
      | none => rfl
      | some o => have := k02 _ _ e; rw [hC] at this; cases this
    obtain ⟨c, hc⟩ := hpl
    have S4 := S.new K3 hD0 hc
    obtain ⟨c1, c2, c3⟩ := S.out hC0
    obtain ⟨t0', t1', rfl⟩ : ∃ t0' t1', ys = #[.int (rto (4 * (start + 1) * (start + 1) * mm) n) t0', .int (rto (4 * (start + top + 1) * (start + top + 1) * mm) n) t1'] := by
      have hl2 : vs.length = 2 := hlen
      obtain ⟨v0, v1, rfl⟩ : ∃ v0 v1, vs = [v0, v1] := by
        match vs, hl2 with
        | [a, b], _ => exact ⟨a, b, rfl⟩
      have e0 : Value.int (start + 1) t0 = v0 := by simpa using hP 0 v0 rfl
      have e1 : Value.int (start + top + 1) t1 = v1 := by simpa using hP 1 v1 rfl
      subst e0 e1
      obtain ⟨ys⟩ := ys
      simp only [List.filter_cons, List.filter_nil, if_true] at hF
      cases hF with
      | cons f0 hF =>
        cases hF with
        | cons f1 hF =>
          cases hF
          obtain ⟨k, t, t', e, rfl⟩ := f0
          obtain ⟨k1, t2, t3, e', rfl⟩ := f1
          cases e
          cases e'
          exact ⟨t', t3, rfl⟩
    show wpAny _ _ (assign (.Name _ _) _ _) _ _ _
    refine PyProof.Rows.assign_Name (wpAny_storeName_local rfl S4.F.ns (fun h5 hns5 hs5 => ⟨m', ?_, fun h6 hs6 => wpAny_pure (wpAny_pure ?_)⟩) rfl)
    · exact hns.sameBut hs5 (Ne.symm c2)
    · refine q h6 _ D c t0' t1' ((S4.store hns5 hs5).but hs6.extBut c1 c2 fun p hp => ?_)
      rcases List.mem_cons.mp hp with rfl | hp
      · exact hDC
      · exact c3 p hp
end
end Mine

namespace Mine
open PySem PySem.W PyProof.Rows PySem.Calls

/-- xs[k] of a list in the ledger, k written out -/
theorem IEv.item {env : Env} {h : Heap} {x : Str} {p p' p'' : Pos} {a : Addr} {vs : Array Value} {k : Int} {u : Nat} {i : Int} {t : Tok} {g : Nat} (hx : NameIs env h x (.ref a)) (hl : h.IsList a vs) (h0 : 0 ≤ k) (hk : k < 2 ^ 63) (hi : vs[k.toNat]? = some (.int i t)) (hb : Bd g i) :
    IEv env h (.Subscript (.Name x p) (.Constant (.int k) u p') p'') g i := by
  refine .leaf (fun prog w A E s Q e q => ?_) hb
  subst e
  exact Subscript_ (hx _ _ _ _ _ _ rfl (wpAny_Constant_int (tail_any hl.typeIs slot_list_getitem.lookup (wpAny_getItem_list hl h0 hk hi (q _ _)) (by with_unfolding_all rfl))))

theorem truthy_b {M : Model} {A : Around} {E : Value → Shared → Prop} {s : Shared} {b : Bool} {Q : Bool → Shared → Prop} (h : Q b s) : wpAny M A (truthy (.bool b)) Q E s := fun _ _ _ => h

section
variable {prog : Program} {w : World} {A : Around} {E : Value → Shared → Prop} {s : Shared} {Q : Flow → Shared → Prop} {h₀ : Heap}
  {L fa : Addr} {cd : Value} {m : Str → Option Value} {led : List (Addr × Obj)} {e0 e1 less b e top : Int} {t0 t1 tl tb te tp : Tok} {a : Addr} {c : Nat}

theorem st_cut (S : St h₀ L s.heap m led) (hh : A.handled = none)
    (he : m (Str.ofString "ends") = some (.ref a)) (ha : (a, lst #[.int e0 t0, .int e1 t1] c) ∈ led) (hl : m (Str.ofString "less") = some (.int less tl)) (b0 : Bd 6002 e0) (b1 : Bd 6002 e1) (bl : Bd 1 less)
    (q : ∀ h' tk tb te, St h₀ L h' (ups (ups m (Str.ofString "end") (.int ((e1 - 1 + less).fdiv 2) te)) (Str.ofString "begin") (.int ((e0 - 1 + less).fdiv 2) tb)) led → Q .next { s with heap := h', toks := tk }) :
    wpAny (model prog w) A (exec (ist 1) (lawEnv L fa cd)) Q E s := by
  show wpAny _ _ (exec (.Assign [.Tuple [.Name _ _, .Name _ _] _ _] (.Tuple [_, _] _ _) _) (lawEnv L fa cd)) _ _ _
  have nE : NameIs (lawEnv L fa cd) s.heap (Str.ofString "ends") (.ref a) := .loc S.F.ns he rfl rfl (by decide)
  have nL : NameIs (lawEnv L fa cd) s.heap (Str.ofString "less") (.int less tl) := .loc S.F.ns hl rfl rfl (by decide)
  have hL : s.heap.IsList a #[.int e0 t0, .int e1 t1] := ⟨_, S.get ha, rfl, c, rfl⟩
  have d1 : Bd 1 (1 : Int) := by unfold Bd; decide
  have d2 : Bd 2 (2 : Int) := by unfold Bd; decide
  refine Assign_Tuple_swapped (names := [Str.ofString "begin", Str.ofString "end"]) (Tuple_ ?_) (by rfl) (by rfl)
  refine args_cons ((IEv.fdiv (.add (.sub (.item nE hL (by decide) (by decide) rfl b0) (.const d1)) (.name nL bl)) (.const d2) (by decide) (by decide)).run rfl fun tb tk0 => ?_)
  refine args_cons ((IEv.fdiv (.add (.sub (.item nE hL (by decide) (by decide) rfl b1) (.const d1)) (.name nL bl)) (.const d2) (by decide) (by decide)).run rfl fun te tk1 => args_nil ?_)
  refine wpAny_newObj_type ?_ (by size_fits)
  have S1 := (S.push (tup #[.int ((e0 - 1 + less).fdiv 2) tb, .int ((e1 - 1 + less).fdiv 2) te] 0)).sub (led' := led) fun p hp => .tail _ hp
  refine unpackItems_tuple (items := #[.int ((e0 - 1 + less).fdiv 2) tb, .int ((e1 - 1 + less).fdiv 2) te]) hh ⟨_, Heap.get?_push_size _ rfl, rfl, 0, rfl⟩ fun h2 k2 => ?_
  have S2 := S1.kp fun b o e => k2 b o (Nat.ne_of_lt (Heap.lt_size e)) e
  refine assignInOrder_cons (wpAny_bindName (wpAny_storeName_local rfl S2.F.ns (fun h3 hns3 hs3 => ?_) rfl))
  have S3 := S2.store hns3 hs3
  refine assignInOrder_cons (wpAny_bindName (wpAny_storeName_local rfl S3.F.ns (fun h4 hns4 hs4 => ?_) rfl))
  have S4 := S3.store hns4 hs4
  exact assignInOrder_nil (q h4 _ tb te S4)

theorem st_sane (S : St h₀ L s.heap m led)
    (hb : m (Str.ofString "begin") = some (.int b tb)) (he : m (Str.ofString "end") = some (.int e te)) (ht : m (Str.ofString "top") = some (.int top tp)) (bb : Bd 7000 b) (be : Bd 7000 e) (bt : Bd 10 top)
    (h0 : 0 ≤ b) (h1 : 0 ≤ e - b) (h2 : e - b ≤ top)
    (q : ∀ tk, Q .next { s with toks := tk }) :
    wpAny (model prog w) A (exec (ist 2) (lawEnv L fa cd)) Q E s := by
  show wpAny _ _ (exec (.If (.BoolOp .Or [.Compare _ [.Lt] [_] _, .UnaryOp .Not (.Compare _ [.LtE, .LtE] [_, _] _) _] _) _ [] _) (lawEnv L fa cd)) _ _ _
  have nB : NameIs (lawEnv L fa cd) s.heap (Str.ofString "begin") (.int b tb) := .loc S.F.ns hb rfl rfl (by decide)
  have nE : NameIs (lawEnv L fa cd) s.heap (Str.ofString "end") (.int e te) := .loc S.F.ns he rfl rfl (by decide)
  have nT : NameIs (lawEnv L fa cd) s.heap (Str.ofString "top") (.int top tp) := .loc S.F.ns ht rfl rfl (by decide)
  have d0 : Bd 1 (0 : Int) := by unfold Bd; decide
  refine wpAny_If (isTrue_or ?_)
  refine wpAny_isTrue_Compare1 ((IEv.name nB bb).run rfl fun _ _ => (IEv.const d0).run rfl fun _ _ => PyProof.Rows.lt_int (truthy_b ?_))
  rw [decide_eq_false (by omega), if_neg (by decide)]
  refine isTrue_or (isTrue_not (isTrue_chain ((IEv.const d0).run rfl fun _ _ => test_link ((IEv.sub (.name nE be) (.name nB bb)).run rfl fun _ _ => PyProof.Rows.le_int (truthy_b ?_)))))
  rw [decide_eq_true (by omega), if_pos rfl]
  refine test_last ((IEv.name nT bt).run rfl fun _ _ => PyProof.Rows.le_int (truthy_b ?_))
  rw [decide_eq_true (by omega)]
  exact isTrue_or_nil (wpAny_execs_nil (q _))

theorem st_told (S : St h₀ L s.heap m led)
    (q : ∀ h' tk a, St h₀ L h' (ups m (Str.ofString "told") (.ref a)) ((a, lst #[] 0) :: led) → (∀ p ∈ led, p.1 ≠ a) → Q .next { s with heap := h', toks := tk }) :
    wpAny (model prog w) A (exec (ist 3) (lawEnv L fa cd)) Q E s := by
  show wpAny _ _ (exec (.Assign [.Name _ _] (.List [] _) _) (lawEnv L fa cd)) _ _ _
  refine wpAny_Assign_Name (List_ (args_nil (wpAny_newObj_type ?_ (by size_fits)))) (by rfl)
  have S1 := S.push (lst #[] 0)
  refine wpAny_storeName_local rfl S1.F.ns (fun h2 hns2 hs2 => ?_) rfl
  exact q h2 _ _ (S1.store hns2 hs2) fun p hp => Nat.ne_of_lt (Heap.lt_size (S.N p hp).1)
end
end Mine

namespace Mine
open PySem PySem.W PyProof.Rows PySem.Calls

section
variable {prog : Program} {w : World} {A : Around} {s : Shared}

/-- the iterator of a range by ones, small or not -/
theorem iter_range {E : Value → Shared → Prop} {Q : Value → Shared → Prop} {r : Addr} {a b : Int} {t u v : Tok} {n : Nat} (hh : A.handled = none) (hr : IsRange s.heap r a b 1 t u v) (hn : Builtin.Range.rangeSize a b 1 = (n : Int))
    (q : ∀ (Wst : Nat → Heap → Prop) o, Walks prog w A s.heap.objs.size [s.heap.objs.size] [s.heap.objs.size] n (fun i v => ∃ t, v = .int (a + (i : Int)) t) Wst → Wst 0 (s.heap.push o) → o.isFreed = false → Q (.ref s.heap.objs.size) { s with heap := s.heap.push o }) :
    wpAny (model prog w) A (pyIter (.ref r)) Q E s := by
  have e1 : ∀ i : Nat, a + (i : Int) * 1 = a + (i : Int) := fun i => by omega
  cases hs : Builtin.Range.small a b 1 with
  | true =>
    refine wpAny_pyIter_range hr hs (q _ _ (?_ : Walks prog w A _ _ _ n _ (fun i h => IsRangeIter h s.heap.objs.size (a + (i : Nat) * 1) ((n : Int) - (i : Nat)) 1)) ?_ rfl)
    · have := Walks.range (prog := prog) (w := w) hh s.heap.objs.size a 1 n
      simpa only [e1] using this
    · show IsRangeIter _ _ _ _ _
      rw [hn]; simpa using Heap.get?_push_size _ rfl
  | false =>
    refine wpAny_pyIter_longrange hr hs (q _ _ (?_ : Walks prog w A _ _ _ n _ (fun i h => IsLongIter h s.heap.objs.size (a + (i : Nat) * 1) ((n : Int) - (i : Nat)) 1)) ?_ rfl)
    · have := Walks.longrange (prog := prog) (w := w) hh s.heap.objs.size a 1 n
      simpa only [e1] using this
    · show IsLongIter _ _ _ _ _
      rw [hn]; simpa using Heap.get?_push_size _ rfl

theorem range_size (a : Int) (n : Nat) : Builtin.Range.rangeSize a (a + (n : Int)) 1 = (n : Int) := by
  unfold Builtin.Range.rangeSize
  simp
  omega

/-- a for loop by a state: σ says what the ledger holds -/
theorem for_loop {σ : Type} {h₀ : Heap} {L I : Addr} {env : Env} {target : PySem.Expr} {body : List Stmt} {fp : List Addr} {n : Nat} {P : Nat → Value → Prop} {Wst : Nat → Heap → Prop} {R : Result → Shared → Prop}
    (W : Walks prog w A I fp [I] n P Wst) (Led : σ → List (Addr × Obj)) (J : Nat → σ → (Str → Option Value) → Prop)
    (hI0 : h₀.get? I = none) (hIL : L ≠ I) (hI : ∀ c, ∀ p ∈ Led c, p.1 ≠ I)
    (hfp : ∀ b ∈ fp, b = I ∨ ∃ o, ∀ c, (b, o) ∈ Led c)
    (turn : ∀ i v c m₁ h tk X, i < n → P i v → J i c m₁ → (∀ p ∈ X, p.1 = I) → (∀ o, h.get? I = some o → (I, o) ∈ X) → Wst (i + 1) h → St h₀ L h m₁ (Led c ++ X) →
      wpAny (model prog w) A (letOwnedTupleGo target (.ref I) v) (fun _ s₁ => wpAny (model prog w) A (assign target env v) (fun _ s₂ => wpAny (model prog w) A (execs body env)
        (fun fl s₃ => fl = .next ∧ ∃ h' tk' m₂ c', s₃ = { s with heap := h', toks := tk' } ∧ St h₀ L h' m₂ (Led c' ++ X) ∧ J (i + 1) c' m₂) (fun _ _ => False) s₂) (fun _ _ => False) s₁) (fun _ _ => False) { s with heap := h, toks := tk })
    (c₀ : σ) (m₀ : Str → Option Value) (h0 : Wst 0 s.heap) (hS : St h₀ L s.heap m₀ (Led c₀)) (hJ : J 0 c₀ m₀)
    (done : ∀ h' tk m' c, St h₀ L h' m' (Led c) → J n c m' → R (.ok .next) { s with heap := h', toks := tk }) :
    codeAny (model prog w) A (.forLoop target (.ref I) body [] env) R s := by
  refine codeAny_loop' rfl (fun k s' => ∃ i h' tk m' c, i ≤ n ∧ k = n + 1 - i ∧ s' = { s with heap := h', toks := tk } ∧ Wst i h' ∧ St h₀ L h' m' (Led c) ∧ J i c m') ?_ (n + 1)
    ⟨0, s.heap, s.toks, m₀, c₀, Nat.zero_le _, rfl, rfl, h0, hS, hJ⟩
  rintro k s' ⟨i, h', tk, m', c, hi, rfl, rfl, hst, hS', hJ'⟩
  show wpAny _ _ ((forTurn target (.ref I) body [] env).onRaise (fun x => do noteFrame x env; theTreesLotGoes x)) _ _ _
  refine wpAny_noted ?_
  simp only [forTurn]
  refine wpAny_bind (wpAny_standAt (wpAny_bind (wpAny_onRaise ?_)))
  have but : ∀ h₁ : Heap, (∀ b o, b ∉ [I] → h'.get? b = some o → h₁.get? b = some o) → St h₀ L h₁ m' (Led c) := fun h₁ hk₁ =>
    hS'.but (c := I) (fun b o hb e => hk₁ b o (by simpa using hb) e) hI0 hIL (hI c)
  by_cases hlt : i < n
  · refine W.item i _ _ _ hlt hst fun v h₁ tk₁ hP hst₁ hk₁ => ?_
    have S1 := but h₁ hk₁
    obtain ⟨X, hX1, hX2, hX3⟩ : ∃ X : List (Addr × Obj), (∀ p ∈ X, p.1 = I) ∧ (∀ o, h₁.get? I = some o → (I, o) ∈ X) ∧ ∀ p ∈ X, h₁.get? p.1 = some p.2 := by
      cases e : h₁.get? I with
      | none => exact ⟨[], fun _ h => (nomatch h), fun _ h => (nomatch h), fun _ h => (nomatch h)⟩
      | some o => exact ⟨[(I, o)], fun p hp => by rw [List.mem_singleton.mp hp], fun o' h => by cases h; exact .head _, fun p hp => by rw [List.mem_singleton.mp hp]; exact e⟩
    have S2 : St h₀ L h₁ m' (Led c ++ X) := ⟨S1.F, fun p hp => (List.mem_append.mp hp).elim (S1.N p) fun hp => ⟨hX3 p hp, by rw [hX1 p hp]; exact Ne.symm hIL, by rw [hX1 p hp]; exact hI0⟩⟩
    refine wpAny_bind (wpAny_mono (turn i v c m' h₁ tk₁ X hlt hP hJ' hX1 hX2 hst₁ S2) (fun _ s₁ t₁ => ?_) fun _ _ f => f.elim)
    refine wpAny_bind (wpAny_mono t₁ (fun _ s₂ t₂ => ?_) fun _ _ f => f.elim)
    refine wpAny_bind (wpAny_mono t₂ (fun fl s₃ t₃ => ?_) fun _ _ f => f.elim)
    obtain ⟨rfl, h₃, tk₃, m₂, c', rfl, S3, J3⟩ := t₃
    refine wpAny_pure (.inl ⟨rfl, n + 1 - (i + 1), by omega, i + 1, h₃, tk₃, m₂, c', hlt, rfl, rfl, ?_, S3.sub fun p hp => List.mem_append_left _ hp, J3⟩)
    refine W.frame _ _ _ hst₁ fun b hb o e => ?_
    rcases hfp b hb with rfl | ⟨o', ho'⟩
    · exact S3.get (List.mem_append_right _ (hX2 o e))
    · have e1 := S1.get (ho' c)
      rw [e] at e1
      cases e1
      exact S3.get (List.mem_append_left _ (ho' c'))
  · have hin : i = n := by omega
    subst hin
    refine W.done _ _ _ hst fun h₁ tk₁ hk₁ => wpAny_pure (.inr ⟨rfl, codeAny_block (wpAny_execs_nil ?_)⟩)
    exact done h₁ tk₁ m' c (but h₁ hk₁) hJ'
end
end Mine

namespace Mine
open PySem PySem.W PyProof.Rows PySem.Calls

abbrev offK (y : Str) : Prop := y ≠ Str.ofString "k" ∧ y ≠ Str.ofString "root"

section
variable {prog : Program} {w : World} {A : Around} {E : Value → Shared → Prop} {s : Shared} {Q : Flow → Shared → Prop} {mg mb : Str → Option Value} {f : Addr} {fd : FuncData} {h₀ : Heap}
  {L fa : Addr} {cd : Value} {m : Str → Option Value} {led : List (Addr × Obj)} {n mm t less : Int} {tn tm tt tl : Tok} {on om : Obj} {a : Addr} {vs : Array Value} {c : Nat} {acc : List Int}

theorem told_loop {body : List Stmt} {e1 e2 : PySem.Expr} {g1 g2 : Nat} {b : Int} {cnt : Nat} {p1 p2 p3 p4 : Pos} (g : Int → Int) (T : TF mg mb f fd h₀) (S : St h₀ L s.heap m ((a, lst vs c) :: led)) (hne : ∀ p ∈ led, p.1 ≠ a) (hh : A.handled = none)
    (hI : IntsAre vs.toList acc) (hz : acc.length + cnt ≤ 100)
    (i1 : IEv (lawEnv L fa cd) s.heap e1 g1 (b + 1)) (i2 : IEv (lawEnv L fa cd) s.heap e2 g2 (b + 1 + cnt))
    (hbody : ∀ k tk' h m₁ tk vs c X, b < k → k ≤ b + cnt → (∀ y, offK y → m₁ y = m y) → m₁ (Str.ofString "k") = some (.int k tk') → vs.size ≤ 100 → (∀ p ∈ led ++ X, p.1 ≠ a) → St h₀ L h m₁ ((a, lst vs c) :: (led ++ X)) →
      wpAny (model prog w) A (execs body (lawEnv L fa cd)) (fun fl s₃ => fl = .next ∧ ∃ h' tk' m₂ t', s₃ = { s with heap := h', toks := tk' } ∧ St h₀ L h' m₂ ((a, lst (vs.push (.int (g k) t')) (c + 1)) :: (led ++ X)) ∧ ∀ y, offK y → m₂ y = m y) (fun _ _ => False) { s with heap := h, toks := tk })
    (q : ∀ h' tk m' vs' c', (∀ y, offK y → m' y = m y) → IntsAre vs'.toList (acc ++ (upto (b + 1) cnt).map g) → St h₀ L h' m' ((a, lst vs' c') :: led) → Q .next { s with heap := h', toks := tk })
    (he1 : starEach [e1, e2] (lawEnv L fa cd) = (false, eval e1 (lawEnv L fa cd)) :: starEach [e2] (lawEnv L fa cd) := by rfl) (he2 : starEach [e2] (lawEnv L fa cd) = (false, eval e2 (lawEnv L fa cd)) :: starEach [] (lawEnv L fa cd) := by rfl) :
    wpAny (model prog w) A (exec (.For (.Name (Str.ofString "k") p1) (.Call (.Name (Str.ofString "range") p2) [e1, e2] [] p3) body [] p4) (lawEnv L fa cd)) Q E s := by
  refine wpAny_For ?_ (fun _ => rfl)
  have T1 := T.keeps S.F.keep
  refine Call_ (NameIs.blt T1.g T.rg T1.b T.rb rfl rfl (by decide) _ _ _ _ _ _ rfl ?_) (by rfl)
  refine PyProof.Rows.callWith_type1 (args_cons (i1.run rfl fun t1 tk1 => args_cons (i2.run rfl fun t2 tk2 => args_nil ?_) he2) he1) he1 (by rw [he2]; rfl)
  refine call_range_2 ?_
  dsimp only
  generalize hH1 : s.heap.push { cls := .type "range", data := .fields #[.int (b + 1) t1, .int (b + 1 + cnt) t2, .int 1 tk2] } = H1
  have hr : IsRange H1 s.heap.objs.size (b + 1) (b + 1 + cnt) 1 t1 t2 tk2 := by rw [← hH1]; exact IsRange.new ..
  have S1 : St h₀ L H1 m ((a, lst vs c) :: led) := S.kp fun b o e => by rw [← hH1]; exact Heap.get?_push_of_some _ e
  refine iter_range hh hr (range_size _ _) fun Wst o W hW ho => ?_
  dsimp only at W hW ⊢
  have hfresh : H1.get? H1.objs.size = none := get_none (Nat.le_refl _)
  obtain ⟨o1, o2, o3⟩ := S1.out hfresh
  have S2 : St h₀ L (H1.push o) m ((a, lst vs c) :: led) := S1.kp fun b o' e => Heap.get?_push_of_some _ e
  have hIa : a ≠ H1.objs.size := o3 (a, lst vs c) (.head _)
  refine for_loop (s := { s with heap := H1.push o, toks := tk2 + 1 }) (h₀ := h₀) (L := L) W (fun x : Array Value × Nat => (a, lst x.1 x.2) :: led)
    (fun i x m₁ => IntsAre x.1.toList (acc ++ (upto (b + 1) i).map g) ∧ ∀ y, offK y → m₁ y = m y) o1 o2 (fun x p hp => ?_) (fun b hb => .inl (List.mem_singleton.mp hb)) ?_ (vs, c) m hW S2 ⟨by simpa [upto_zero] using hI, fun _ _ => rfl⟩ ?_
  · rcases List.mem_cons.mp hp with rfl | hp
    · exact hIa
    · exact o3 p (.tail _ hp)
  · rintro i v ⟨vs₁, c₁⟩ m₁ h tk X hi ⟨t, rfl⟩ ⟨hI₁, hm₁⟩ hX1 _ _ S3
    refine wpAny_pure (PyProof.Rows.assign_Name (wpAny_storeName_local rfl S3.F.ns (fun h4 hns4 hs4 => ?_) rfl))
    have S4 := S3.store hns4 hs4
    have hlen : vs₁.size ≤ 100 := by
      have := IntsAre.length hI₁
      simp [upto_length] at this
      omega
    refine wpAny_mono (hbody (b + 1 + i) t h4 _ _ vs₁ c₁ X (by omega) (by omega) (fun y hy => by show (if y = Str.ofString "k" then _ else _) = _; rw [if_neg hy.1]; exact hm₁ y hy) (by simp) hlen (fun p hp => ?_) S4) (fun fl s₃ hs₃ => ?_) fun _ _ e => e
    · rcases List.mem_append.mp hp with hp | hp
      · exact hne p hp
      · rw [hX1 p hp]; exact Ne.symm hIa
    · obtain ⟨rfl, h5, tk5, m5, t5, rfl, S5, hm5⟩ := hs₃
      refine ⟨rfl, h5, tk5, m5, (vs₁.push (.int (g (b + 1 + i)) t5), c₁ + 1), rfl, S5, ?_, hm5⟩
      rw [upto_succ, List.map_append, ← List.append_assoc, Array.toList_push]
      exact hI₁.append (.cons _ _ .nil)
  · rintro h' tk m' ⟨vs', c'⟩ S6 ⟨hI6, hm6⟩
    exact q h' tk m' vs' c' hm6 hI6 S6
end
end Mine

namespace Mine
open PySem PySem.W PyProof.Rows PySem.Calls

theorem IEv.eq {env : Env} {h : Heap} {e : PySem.Expr} {g : Nat} {k k' : Int} (H : IEv env h e g k) (hk : k = k') : IEv env h e g k' := hk ▸ H

section
variable {prog : Program} {w : World} {A : Around} {s : Shared} {mg mb : Str → Option Value} {f : Addr} {fd : FuncData} {h₀ : Heap}
  {L fa : Addr} {cd : Value} {m : Str → Option Value} {led : List (Addr × Obj)}

theorem ev_rto {E : Value → Shared → Prop} {Q : Value → Shared → Prop} {e1 e2 : PySem.Expr} {g1 g2 : Nat} {N D : Int} {p p' : Pos} (T : TF mg mb f fd h₀) (S : St h₀ L s.heap m led) (hd : A.depth < recursionLimit)
    (i1 : IEv (lawEnv L fa cd) s.heap e1 g1 N) (i2 : IEv (lawEnv L fa cd) s.heap e2 g2 D) (hN : 0 ≤ N) (hD : 0 < D) (b1 : g1 ≤ 6000) (b2 : g2 ≤ 6000)
    (q : ∀ h' t tk, St h₀ L h' m led → Q (.int (rto N D) t) { s with heap := h', toks := tk })
    (he1 : starEach [e1, e2] (lawEnv L fa cd) = (false, eval e1 (lawEnv L fa cd)) :: starEach [e2] (lawEnv L fa cd) := by rfl) (he2 : starEach [e2] (lawEnv L fa cd) = (false, eval e2 (lawEnv L fa cd)) :: starEach [] (lawEnv L fa cd) := by rfl) :
    wpAny (model prog w) A (eval (.Call (.Name rtoName p) [e1, e2] [] p') (lawEnv L fa cd)) Q E s := by
  have T1 := T.keeps S.F.keep
  obtain ⟨fo, hfo, hdat⟩ := T1.fo
  refine Call_ (NameIs.glo T1.g T.rt rfl rfl (by decide) _ _ _ _ _ _ rfl ?_) (by rfl)
  refine callWith_def hdat (args_cons (i1.run rfl fun t2 tk2 => args_cons (i2.run rfl fun t3 tk3 => args_nil ⟨hfo, ?_⟩) he2) he1) he1
  exact rto_call T1 hd hN hD (i1.bd.mono b1) (i2.bd.mono b2) fun h' t tk k => q h' t tk (S.kp k)

/-- told.append(v), the value by the premise -/
theorem do_append {E : Value → Shared → Prop} {Q : Flow → Shared → Prop} {e : PySem.Expr} {p p1 p2 p3 : Pos} {a : Addr} {vs : Array Value} {c : Nat} (S : St h₀ L s.heap m ((a, lst vs c) :: led)) (hne : ∀ p ∈ led, p.1 ≠ a) (ht : m (Str.ofString "told") = some (.ref a)) (hz : vs.size ≤ 100)
    (hv : wpAny (model prog w) A (eval e (lawEnv L fa cd)) (fun v s₁ => ∃ h' tk, s₁ = { s with heap := h', toks := tk } ∧ St h₀ L h' m ((a, lst vs c) :: led) ∧
      ∀ h'', St h₀ L h'' m ((a, lst (vs.push v) (c + 1)) :: led) → Q .next { s with heap := h'', toks := tk }) E s)
    (he : starEach [e] (lawEnv L fa cd) = (false, eval e (lawEnv L fa cd)) :: starEach [] (lawEnv L fa cd) := by rfl)
    {pl : Sem Bool} (hev : eval (.Call (.Attribute (.Name (Str.ofString "told") p) (Str.ofString "append") p1) [e] [] p2) (lawEnv L fa cd) = (do
      let ov ← eval (.Name (Str.ofString "told") p) (lawEnv L fa cd)
      standAt p1.atName
      let (f, first) ← holding [ov] (getMethod ov (Str.ofString "append") pl)
      callWith p2 f first (backTo p2 (starEach [e] (lawEnv L fa cd))) []) := by rfl)
    (hs : swapsWith (.Call (.Attribute (.Name (Str.ofString "told") p) (Str.ofString "append") p1) [e] [] p2) none p3.line (lawEnv L fa cd) = pure false := by rfl) :
    wpAny (model prog w) A (exec (.Expr (.Call (.Attribute (.Name (Str.ofString "told") p) (Str.ofString "append") p1) [e] [] p2) p3) (lawEnv L fa cd)) Q E s := by
  refine wpAny_Expr_any ?_ (by rfl) hs
  refine MethodCall_ (NameIs.loc S.F.ns ht rfl rfl (by decide) _ _ _ _ _ _ rfl ?_) hev
  refine getMethod_list_append (S.get (.head _)) rfl rfl ?_
  refine callWith_method1 (args_cons (wpAny_mono hv (fun v s₁ h₁ => args_nil ?_) fun _ _ x => x) he) he (by rfl)
  obtain ⟨h', tk, rfl, S1, q⟩ := h₁
  exact append_at (S1.get (.head _)) (fun h'' hs ho => q h'' (S1.upd hne hs ho)) (by rw [sizeLine_eq]; omega)
end

section
variable {prog : Program} {w : World} {A : Around} {E : Value → Shared → Prop} {s : Shared} {Q : Flow → Shared → Prop} {mg mb : Str → Option Value} {f : Addr} {fd : FuncData} {h₀ : Heap}
  {L fa : Addr} {cd : Value} {m : Str → Option Value} {led : List (Addr × Obj)} {n mm t less : Int} {tn tm tt tl : Tok} {on om : Obj} {a : Addr} {vs : Array Value} {c : Nat} {acc : List Int}

theorem st_low {b : Int} {cnt : Nat} {tb te : Tok} (T : TF mg mb f fd h₀) (S : St h₀ L s.heap m ((a, lst vs c) :: led)) (hne : ∀ p ∈ led, p.1 ≠ a) (hh : A.handled = none) (hd : A.depth < recursionLimit)
    (hI : IntsAre vs.toList acc) (hz : acc.length + cnt ≤ 100)
    (ht : m (Str.ofString "told") = some (.ref a)) (hb : m (Str.ofString "begin") = some (.int b tb)) (he : m (Str.ofString "end") = some (.int (b + cnt) te)) (hl : m (Str.ofString "less") = some (.int less tl))
    (hn : (L + 1 + 1, on) ∈ led) (hon : on.data = .cell (some (.int n tn))) (hm : (L + 1 + 1 + 1, om) ∈ led) (hom : om.data = .cell (some (.int mm tm)))
    (bn : Bd 1100 n) (bm : Bd 1100 mm) (bl : Bd 1 less) (bb : Bd 1200 b) (be : Bd 1200 (b + cnt)) (n0 : 0 ≤ n) (m0 : 0 < mm) (b0 : 0 ≤ b)
    (q : ∀ h' tk m' vs' c', (∀ y, offK y → m' y = m y) → IntsAre vs'.toList (acc ++ toldLow n mm less b cnt) → St h₀ L h' m' ((a, lst vs' c') :: led) → Q .next { s with heap := h', toks := tk }) :
    wpAny (model prog w) A (exec (ist 4) (lawEnv L fa cd)) Q E s := by
  show wpAny _ _ (exec (.For (.Name _ _) (.Call (.Name _ _) [.BinOp (.Name _ _) .Add _ _, .BinOp (.Name _ _) .Add _ _] [] _) [.Expr (.Call (.Attribute (.Name _ _) _ _) [.BinOp (.BinOp (.Call (.Name _ _) [_, _] [] _) .Sub (.Name _ _) _) .FloorDiv _ _] [] _) _] [] _) (lawEnv L fa cd)) _ _ _
  have d1 : Bd 1 (1 : Int) := by unfold Bd; decide
  have d2 : Bd 2 (2 : Int) := by unfold Bd; decide
  have d4 : Bd 3 (4 : Int) := by unfold Bd; decide
  refine told_loop (lowOf n mm less) T S hne hh hI hz (.add (.name (.loc S.F.ns hb rfl rfl (by decide)) bb) (.const d1)) (IEv.eq (.add (.name (.loc S.F.ns he rfl rfl (by decide)) be) (.const d1)) (by omega)) (fun k tk' h m₁ tk vs c X hk1 hk2 hm₁ hk hz' hne' S1 => ?_) q
  have bk : Bd 1200 k := be.of_le (by omega) (by omega)
  have nk : NameIs (lawEnv L fa cd) h (Str.ofString "k") (.int k tk') := .loc S1.F.ns hk rfl rfl (by decide)
  have nn : NameIs (lawEnv L fa cd) h (Str.ofString "n") (.int n tn) := .cel ⟨on, S1.get (.tail _ (List.mem_append_left _ hn)), hon⟩ rfl rfl rfl (by decide)
  have nm : NameIs (lawEnv L fa cd) h (Str.ofString "m") (.int mm tm) := .cel ⟨om, S1.get (.tail _ (List.mem_append_left _ hm)), hom⟩ rfl rfl rfl (by decide)
  have hN : 0 ≤ 4 * k * k * n := Int.mul_nonneg (Int.mul_nonneg (by omega) (by omega)) n0
  refine wpAny_execs_cons (do_append S1 hne' ((hm₁ _ (by decide)).trans ht) hz' ?_)
  refine wpAny_BinOp (wpAny_BinOp (ev_rto T S1 hd (.mul (.mul (.mul (.const d4) (.name nk bk) (by decide)) (.name nk bk) (by decide)) (.name nn bn) (by decide)) (.name nm bm) hN m0 (by decide) (by decide) fun h2 t2 tk2 S2 => ?_))
  have nl : NameIs (lawEnv L fa cd) h2 (Str.ofString "less") (.int less tl) := .loc S2.F.ns ((hm₁ _ (by decide)).trans hl) rfl rfl (by decide)
  refine (IEv.name nl bl).run rfl fun t3 tk3 => PyProof.Rows.sub_int ((IEv.const d2).run rfl fun t4 tk4 => PyProof.Rows.floordiv_int (by decide) ?_ (.inl (PyProof.noPylong_of_log2 (by decide +kernel))))
  refine ⟨h2, _, rfl, S2, fun h3 S3 => wpAny_execs_nil ⟨rfl, h3, _, m₁, _, rfl, S3, hm₁⟩⟩
end
end Mine

namespace Mine
open PySem PySem.W PyProof.Rows PySem.Calls

section
variable {prog : Program} {w : World} {A : Around} {E : Value → Shared → Prop} {s : Shared} {Q : Flow → Shared → Prop} {mg mb : Str → Option Value} {f : Addr} {fd : FuncData} {h₀ : Heap}
  {L fa : Addr} {cd : Value} {m : Str → Option Value} {led : List (Addr × Obj)} {n mm t less start top : Int} {tn tm tt tl ts tp : Tok} {on om : Obj} {a : Addr} {vs : Array Value} {c : Nat} {acc : List Int}

theorem st_upp {b e : Int} {cnt : Nat} {tb te : Tok} (T : TF mg mb f fd h₀) (S : St h₀ L s.heap m ((a, lst vs c) :: led)) (hne : ∀ p ∈ led, p.1 ≠ a) (hh : A.handled = none) (hd : A.depth < recursionLimit)
    (hI : IntsAre vs.toList acc) (hz : acc.length + cnt ≤ 100) (hcnt : start + top - e = start - b + cnt)
    (ht : m (Str.ofString "told") = some (.ref a)) (hb : m (Str.ofString "begin") = some (.int b tb)) (he : m (Str.ofString "end") = some (.int e te)) (hl : m (Str.ofString "less") = some (.int less tl))
    (hs : m (Str.ofString "start") = some (.int start ts)) (htp : m (Str.ofString "top") = some (.int top tp)) (htt : m (Str.ofString "t") = some (.int t tt))
    (hn : (L + 1 + 1, on) ∈ led) (hon : on.data = .cell (some (.int n tn))) (hm : (L + 1 + 1 + 1, om) ∈ led) (hom : om.data = .cell (some (.int mm tm)))
    (bn : Bd 1100 n) (bm : Bd 1100 mm) (bl : Bd 1 less) (bb : Bd 1200 b) (be : Bd 1200 e) (bs : Bd 1010 start) (btp : Bd 10 top) (bt : Bd 1010 t) (nm0 : mm < n) (m0 : 0 < mm) (t0 : 0 < t) (b0 : 0 ≤ start - b)
    (q : ∀ h' tk m' vs' c', (∀ y, offK y → m' y = m y) → IntsAre vs'.toList (acc ++ toldUpp n mm t less (start - b) cnt) → St h₀ L h' m' ((a, lst vs' c') :: led) → Q .next { s with heap := h', toks := tk }) :
    wpAny (model prog w) A (exec (ist 5) (lawEnv L fa cd)) Q E s := by
  show wpAny _ _ (exec (.For (.Name _ _) (.Call (.Name _ _) [.BinOp (.BinOp (.Name _ _) .Sub (.Name _ _) _) .Add _ _, .BinOp (.BinOp (.BinOp (.Name _ _) .Add (.Name _ _) _) .Sub (.Name _ _) _) .Add _ _] [] _)
    [.Assign [.Name _ _] (.Call (.Name _ _) [_, .Name _ _] [] _) _, .Expr (.Call (.Attribute (.Name _ _) _ _) [.BinOp (.BinOp _ .Add _ _) .FloorDiv (.BinOp _ .Sub _ _) _] [] _) _] [] _) (lawEnv L fa cd)) _ _ _
  have d1 : Bd 1 (1 : Int) := by unfold Bd; decide
  have d2 : Bd 2 (2 : Int) := by unfold Bd; decide
  have d4 : Bd 3 (4 : Int) := by unfold Bd; decide
  have bE : Bd 1202 (start - b + cnt) := by
    rw [← hcnt]
    exact ((bs.add btp).sub be).mono (by decide)
  have ns {h : Heap} {m₁ : Str → Option Value} {x : Str} {v : Value} (hns : h.Ns (lawEnv L fa cd).locals m₁) (hx : m₁ x = some v) (hk : (lawEnv L fa cd).kindOf x = some .local) (hdb : (x == ("__debug__" : Str)) = false) : NameIs (lawEnv L fa cd) h x v := .loc hns hx rfl hk hdb
  refine told_loop (uppOf n mm t less) T S hne hh hI hz (.add (.sub (.name (ns S.F.ns hs rfl (by decide)) bs) (.name (ns S.F.ns hb rfl (by decide)) bb)) (.const d1))
    (IEv.eq (.add (.sub (.add (.name (ns S.F.ns hs rfl (by decide)) bs) (.name (ns S.F.ns htp rfl (by decide)) btp)) (.name (ns S.F.ns he rfl (by decide)) be)) (.const d1)) (by omega)) (fun k tk' h m₁ tk vs c X hk1 hk2 hm₁ hk hz' hne' S1 => ?_) q
  have bk : Bd 1202 k := bE.of_le (by omega) (by omega)
  have k0 : 0 ≤ k := by omega
  have nk := ns S1.F.ns hk rfl (by decide)
  have nt := ns S1.F.ns ((hm₁ _ (by decide)).trans htt) rfl (by decide)
  have nn : NameIs (lawEnv L fa cd) h (Str.ofString "n") (.int n tn) := .cel ⟨on, S1.get (.tail _ (List.mem_append_left _ hn)), hon⟩ rfl rfl rfl (by decide)
  have nm : NameIs (lawEnv L fa cd) h (Str.ofString "m") (.int mm tm) := .cel ⟨om, S1.get (.tail _ (List.mem_append_left _ hm)), hom⟩ rfl rfl rfl (by decide)
  have hN : 0 ≤ 4 * k * k * n * mm * t := Int.mul_nonneg (Int.mul_nonneg (Int.mul_nonneg (Int.mul_nonneg (by omega) (by omega)) (by omega)) (by omega)) (by omega)
  have bN : Bd 6000 (4 * k * k * n * mm * t) := (((((d4.mul bk).mul bk).mul bn).mul bm).mul bt).mono (by decide)
  refine wpAny_execs_cons (wpAny_Assign_Name (ev_rto T S1 hd (.mul (.mul (.mul (.mul (.mul (.const d4) (.name nk bk) (by decide)) (.name nk bk) (by decide)) (.name nn bn) (by decide)) (.name nm bm) (by decide)) (.name nt bt) (by decide)) (.name nt bt) hN t0 (by decide) (by decide) fun h2 t2 tk2 S2 => ?_) (by rfl))
  refine wpAny_storeName_local rfl S2.F.ns (fun h3 hns3 hs3 => ?_) rfl
  have S3 := S2.store hns3 hs3
  have off3 : ∀ y, offK y → ups m₁ (Str.ofString "root") (.int (rto (4 * k * k * n * mm * t) t) t2) y = m y := fun y hy => by
    show (if y = Str.ofString "root" then _ else _) = _
    rw [if_neg hy.2]
    exact hm₁ y hy
  have nk3 : NameIs (lawEnv L fa cd) h3 (Str.ofString "k") (.int k tk') := ns S3.F.ns (show (if Str.ofString "k" = Str.ofString "root" then _ else _) = _ by rw [if_neg (by decide)]; exact hk) rfl (by decide)
  have nr3 : NameIs (lawEnv L fa cd) h3 (Str.ofString "root") (.int (rto (4 * k * k * n * mm * t) t) t2) := ns S3.F.ns (if_pos rfl) rfl (by decide)
  have nl3 : NameIs (lawEnv L fa cd) h3 (Str.ofString "less") (.int less tl) := ns S3.F.ns ((off3 _ (by decide)).trans hl) rfl (by decide)
  have nn3 : NameIs (lawEnv L fa cd) h3 (Str.ofString "n") (.int n tn) := .cel ⟨on, S3.get (.tail _ (List.mem_append_left _ hn)), hon⟩ rfl rfl rfl (by decide)
  have nm3 : NameIs (lawEnv L fa cd) h3 (Str.ofString "m") (.int mm tm) := .cel ⟨om, S3.get (.tail _ (List.mem_append_left _ hm)), hom⟩ rfl rfl rfl (by decide)
  have br := (rto_pos hN t0 bN).2
  refine wpAny_execs_cons (do_append S3 hne' ((off3 _ (by decide)).trans ht) hz' ?_)
  refine (IEv.fdiv (.add (.mul (.name nk3 bk) (.name nn3 bn) (by decide)) (.fdiv (.add (.sub (.name nr3 br) (.const d1)) (.name nl3 bl)) (.const d2) (by decide) (by decide))) (.sub (.name nn3 bn) (.name nm3 bm)) (by omega) (by decide)).run rfl fun t4 tk4 => ?_
  exact ⟨h3, _, rfl, S3, fun h5 S5 => wpAny_execs_nil ⟨rfl, h5, _, _, _, rfl, S5, off3⟩⟩
end
end Mine

namespace Mine
open PySem PySem.W PyProof.Rows PySem.Calls

section
variable {prog : Program} {w : World} {A : Around} {E : Value → Shared → Prop} {s : Shared}

/-- extend by a range by ones, whatever the size of its ints -/
theorem extend_any {R : Result → Shared → Prop} {r : Addr} {a b : Int} {t u v : Tok} {n : Nat} (hh : A.handled = none) (hr : IsRange s.heap r a b 1 t u v)
    (hn : Builtin.Range.rangeSize a b 1 = n) (hlen : n ≤ 2 ^ 24) (S : Addr) (res : Value) (c₀ : Nat) (hS : s.heap.get? S = some { cls := .type "list", data := .seq #[] c₀ })
    (hR : ∀ h' tk acc' c', (∀ b o, b ≠ S → s.heap.get? b = some o → h'.get? b = some o) → h'.get? S = some { cls := .type "list", dict := none, data := .seq acc' c', slots := #[] } →
      ItemsOf (fun i v => ∃ t, v = .int (a + (i : Int)) t) acc' n → R (.ok (.ret res)) { s with heap := h', toks := tk }) :
    wpAny (model prog w) A.in1 (Builtin.List.listExtendWith (.ref S) (.ref r) res)
      (fun fin s' => match fin with | .done f => R (.ok f) s' | .again c' => c'.quiet = true ∧ codeAny (model prog w) A c' R s') (fun e s' => R (.error e) s') s := by
  have hSr : S ≠ r := fun e => by rw [e, hr] at hS; simp at hS
  have hSI : S ≠ s.heap.objs.size := Nat.ne_of_lt (Heap.lt_size hS)
  have hSf : S ∉ [s.heap.objs.size] := fun hm => hSI (List.mem_singleton.mp hm)
  unfold Builtin.List.listExtendWith
  refine wpAny_bind (wpAny_typeOf (T := "range") ⟨_, hr, rfl⟩ ?_)
  have h1 : Builtin.List.listSameRef (.ref S) (.ref r) = false := by simp [Builtin.List.listSameRef, hSr]
  have h2 : (Value.type "range" == Value.type "list") = false := by decide
  have h3 : (Value.type "range" == Value.type "tuple") = false := by decide
  simp only [h1, h2, h3, Bool.or_false, Bool.false_eq_true, if_false]
  refine wpAny_bind (iter_range hh hr hn fun Wst oi W₀ hW _ => ?_)
  have W := W₀.toS
  have key : ∀ (h : Heap) (c₁ tk : Nat), Wst 0 h → (∀ b o, b ≠ S → s.heap.get? b = some o → h.get? b = some o) →
      h.get? S = some { cls := .type "list", data := .seq #[] c₁ } → codeAny (model prog w) A (.builtin "list.extend.loop" ⟨[.ref S, .ref s.heap.objs.size, res], []⟩) R { s with heap := h, toks := tk } := by
    intro h c₁ tk hit hk hS₁
    refine codeAny_extend_loopS W (by rw [sizeLine_eq]; omega) S hSf res n 0 _ #[] c₁ rfl (Nat.zero_le _) hit hS₁ (ItemsOf.nil _) fun s' acc' c' hm hS' hacc => ?_
    rw [Moved.eq_with hm]
    refine hR s'.heap s'.toks acc' c' (fun b o hb e => hm.heap b o (fun hmem => ?_) (hk b o hb e)) hS' hacc
    rcases List.mem_cons.mp hmem with e' | hmem
    · exact hb e'
    · exact absurd (Heap.lt_size e) (by rw [List.mem_singleton.mp hmem]; exact Nat.lt_irrefl _)
  refine wpAny_bind (wpAny_holding (wpAny_hint_range (n := n) (Heap.get?_push_of_some _ hr) hn hlen ?_))
  have hS₁ := Heap.get?_push_of_some oi hS
  refine wpAny_ite_split (fun _ => ?_) (fun _ => wpAny_pure ⟨plainId_quiet F.plain_extend_loop _, key _ c₀ _ hW (fun b o _ e => Heap.get?_push_of_some _ e) hS₁⟩)
  refine wpAny_bind (wpAny_rule ?_)
  refine wpAny_bind ?_
  show wpAny _ _ (updateSeq S (·.push .none) >>= fun _ => updateSeq S (·.pop)) _ _ _
  refine wpAny_bind (wpAny_updateSeq hS₁ rfl ?_)
  have hS₂ := Heap.get?_update_self (Obj.mapSeq (·.push Value.none)) hS₁ rfl
  refine wpAny_updateSeq (hz := by seq_fits) hS₂ rfl ?_
  have hS₃ := Heap.get?_update_self (Obj.mapSeq (·.pop)) hS₂ rfl
  refine wpAny_pure ⟨plainId_quiet F.plain_extend_loop _, key _ _ _ (W₀.frame _ _ _ hW fun b hb o e => ?_) (fun b o hb e => ?_) hS₃⟩
  · rw [List.mem_singleton.mp hb] at e ⊢
    exact (Heap.get?_update_other _ _ hSI).trans ((Heap.get?_update_other _ _ hSI).trans e)
  · exact (Heap.get?_update_other _ _ (Ne.symm hb)).trans ((Heap.get?_update_other _ _ (Ne.symm hb)).trans (Heap.get?_push_of_some _ e))

theorem list_any {Q : Value → Shared → Prop} {r : Addr} {a b : Int} {t u v : Tok} {n : Nat} (hh : A.handled = none) (hr : IsRange s.heap r a b 1 t u v)
    (hn : Builtin.Range.rangeSize a b 1 = n) (hlen : n ≤ 2 ^ 24)
    (hQ : ∀ h' tk acc' c', Kp s.heap h' → h'.get? s.heap.objs.size = some { cls := .type "list", dict := none, data := .seq acc' c', slots := #[] } → ItemsOf (fun i v => ∃ t, v = .int (a + (i : Int)) t) acc' n → Q (.ref s.heap.objs.size) { s with heap := h', toks := tk }) :
    wpAny (model prog w) A (call (.type "list") [.ref r]) Q E s := by
  refine callType_codes (Q₁ := fun obj s₁ => obj = .ref s.heap.objs.size ∧ s₁ = { s with heap := s.heap.push { cls := .type "list", data := .seq #[] } }) F.called_list (F.typeCall_list_1 _) F.entry_list_init
    (code_list_new _ ⟨rfl, rfl⟩) fun obj s₁ h₁ => ?_
  obtain ⟨rfl, rfl⟩ := h₁
  have hS : (s.heap.push { cls := .type "list", data := .seq #[] }).get? s.heap.objs.size = some { cls := .type "list", data := .seq #[] } := Heap.get?_push_size _ rfl
  have hr₁ : IsRange (s.heap.push { cls := .type "list", data := .seq #[] }) r a b 1 t u v := Heap.get?_push_of_some _ hr
  refine ⟨⟨_, hS, rfl⟩, F.args_list_init_2 _ _, ?_⟩
  have hSr : s.heap.objs.size ≠ r := fun e => Nat.lt_irrefl _ (e ▸ Heap.lt_size hr)
  show wpAny _ _ (do let old ← Builtin.List.listItems (.ref s.heap.objs.size); Builtin.List.listUpdate (.ref s.heap.objs.size) (fun _ => #[]); letGo old.toList.reverse; Builtin.List.listExtendWith (.ref s.heap.objs.size) (.ref r) .none) _ _ _
  refine wpAny_bind ?_
  unfold Builtin.List.listItems
  refine wpAny_bind (wpAny_seqItems hS rfl (wpAny_pure ?_))
  show wpAny _ _ (updateSeq s.heap.objs.size (fun _ => #[]) >>= fun _ => letGo (#[] : Array Value).toList.reverse >>= fun _ => Builtin.List.listExtendWith (.ref s.heap.objs.size) (.ref r) .none) _ _ _
  refine wpAny_bind (wpAny_updateSeq hS rfl ?_)
  have hS₂ := Heap.get?_update_self (Obj.mapSeq (fun _ => (#[] : Array Value))) hS rfl
  have oth : ∀ b o, b ≠ s.heap.objs.size → (s.heap.push { cls := .type "list", data := .seq #[] }).get? b = some o → ((s.heap.push { cls := .type "list", data := .seq #[] }).update s.heap.objs.size (Obj.mapSeq (fun _ => (#[] : Array Value)))).get? b = some o :=
    fun b o hb e => (Heap.get?_update_other _ _ (Ne.symm hb)).trans e
  refine wpAny_bind (wpAny_letGo ?_)
  refine extend_any (A := A.in1) hh (oth r _ (Ne.symm hSr) hr₁) hn hlen _ .none _ hS₂ fun h' tk acc' c' hk hS' hacc => ?_
  refine ⟨rfl, hQ h' tk acc' c' (fun b o e => ?_) hS' hacc⟩
  have hb : b ≠ s.heap.objs.size := Nat.ne_of_lt (Heap.lt_size e)
  exact hk b o hb (oth b o hb (Heap.get?_push_of_some _ e))

theorem ints_of_items {a : Int} : ∀ {acc : Array Value} {n : Nat}, ItemsOf (fun i v => ∃ t, v = .int (a + (i : Int)) t) acc n → IntsAre acc.toList (upto a n) := by
  intro acc n h
  have key : ∀ (l : List Value) (k : Nat), (∀ j v, l[j]? = some v → ∃ t, v = Value.int (a + ((k + j : Nat) : Int)) t) → IntsAre l ((List.range' k l.length).map fun (i : Nat) => a + (i : Int)) := by
    intro l
    induction l with
    | nil => intro k _; exact .nil
    | cons v l ih =>
      intro k hk
      obtain ⟨t, rfl⟩ := hk 0 v rfl
      rw [List.length_cons, List.range'_succ, List.map_cons]
      refine .cons _ _ (ih (k + 1) fun j v' hj => ?_)
      have := hk (j + 1) v' (by simpa using hj)
      rwa [show k + (j + 1) = k + 1 + j by omega] at this
  have := key acc.toList 0 fun j v hj => by
    have h2 := h.2 j v (by simpa using hj)
    simpa using h2
  rw [Array.length_toList, h.1, ← List.range_eq_range'] at this
  exact this
end
end Mine

namespace Mine
open PySem PySem.W PyProof.Rows PySem.Calls

section
variable {prog : Program} {w : World} {A : Around} {E : Value → Shared → Prop} {s : Shared} {Q : Flow → Shared → Prop} {mg mb : Str → Option Value} {f : Addr} {fd : FuncData} {h₀ : Heap}
  {L fa : Addr} {cd : Value} {m : Str → Option Value} {led : List (Addr × Obj)} {start : Int} {ts tp : Tok} {a : Addr} {vs : Array Value} {c : Nat} {acc : List Int} {tN : Nat}

theorem st_sorted (T : TF mg mb f fd h₀) (S : St h₀ L s.heap m led) (hh : A.handled = none) (hu : A.units + 64 < cLine)
    (hI : IntsAre vs.toList acc) (ha : (a, lst vs c) ∈ led) (ht : m (Str.ofString "told") = some (.ref a))
    (hs : m (Str.ofString "start") = some (.int start ts)) (htp : m (Str.ofString "top") = some (.int (tN : Int) tp)) (bs : Bd 1010 start) (bt : Bd 10 (tN : Int)) (ht64 : tN < 64)
    (hp : acc.Perm (upto (start + 1) tN))
    (q : ∀ h' tk, St h₀ L h' m led → Q .next { s with heap := h', toks := tk }) :
    wpAny (model prog w) A (exec (ist 6) (lawEnv L fa cd)) Q E s := by
  show wpAny _ _ (exec (.If (.Compare (.Call (.Name _ _) [.Name _ _] [] _) [.NotEq] [.Call (.Name _ _) [.Call (.Name _ _) [_, _] [] _] [] _] _) _ [] _) (lawEnv L fa cd)) _ _ _
  have d1 : Bd 1 (1 : Int) := by unfold Bd; decide
  have T1 := T.keeps S.F.keep
  refine wpAny_If (wpAny_isTrue_Compare1 ?_)
  refine Call_ (NameIs.blt T1.g T.sg T1.b T.sb rfl rfl (by decide) _ _ _ _ _ _ rfl ?_)
  refine PyProof.Rows.callWith_builtin1 (args_cons (NameIs.loc S.F.ns ht rfl rfl (by decide) _ _ _ _ _ _ rfl (args_nil ?_)))
  have hlen : acc.length < 64 := by rw [hp.length_eq, upto_length]; exact ht64
  refine kso_sorted S.F S.N ⟨_, S.get ha, rfl, c, by simp⟩ hI hlen fun D vs' ns' c' h' F' N' hlt hI' _ hperm hsort _ => ?_
  have S2 : St h₀ L h' m ((D, lst vs'.toArray c') :: led) := ⟨F', N'⟩
  have T2 := T.keeps S2.F.keep
  refine Call_ (NameIs.blt T2.g T.lg T2.b T.lb rfl rfl (by decide) _ _ _ _ _ _ rfl ?_)
  refine PyProof.Rows.callWith_type1 (args_cons ?_)
  refine Call_ (NameIs.blt T2.g T.rg T2.b T.rb rfl rfl (by decide) _ _ _ _ _ _ rfl ?_)
  have nS : NameIs (lawEnv L fa cd) h' (Str.ofString "start") (.int start ts) := .loc S2.F.ns hs rfl rfl (by decide)
  have nT : NameIs (lawEnv L fa cd) h' (Str.ofString "top") (.int (tN : Int) tp) := .loc S2.F.ns htp rfl rfl (by decide)
  refine PyProof.Rows.callWith_type1 (args_cons ((IEv.add (.name nS bs) (.const d1)).run rfl fun t1 tk1 => args_cons ((IEv.add (.add (.name nS bs) (.name nT bt)) (.const d1)).run rfl fun t2 tk2 => args_nil ?_)))
  refine call_range_2 (args_nil ?_)
  dsimp only
  rw [show start + (tN : Int) + 1 = start + 1 + (tN : Int) by omega]
  refine list_any hh (IsRange.new ..) (range_size _ _) (by omega) fun h3 tk3 acc3 c3 k3 hl3 hit3 => ?_
  have S3 : St h₀ L h3 m ((D, lst vs'.toArray c') :: led) := S2.kp fun b o e => k3 _ _ (Heap.get?_push_of_some _ e)
  have hI3 := ints_of_items hit3
  refine ne_intsK (vs := vs') (us := acc3.toList) ⟨_, S3.get (.head _), rfl, c', rfl⟩ hI' ⟨_, hl3, rfl, c3, by simp⟩ hI3 hu (truthy_b ?_)
  have heq : ns' = upto (start + 1) tN := eq_of_perm_sorted (hperm.trans hp) hsort (upto_sorted _ _)
  rw [decide_eq_true heq, Bool.not_true, if_neg (by decide)]
  exact wpAny_execs_nil (q h3 _ (S3.sub fun p hp => .tail _ hp))
end
end Mine

namespace Mine
open PySem PySem.W PyProof.Rows PySem.Calls

/-- the names that the inner body stores -/
def innerNames : List Str := [Str.ofString "ends", Str.ofString "begin", Str.ofString "end", Str.ofString "told", Str.ofString "k", Str.ofString "root"]

section
variable {prog : Program} {w : World} {A : Around} {E : Value → Shared → Prop} {s : Shared} {Q : Flow → Shared → Prop} {mg mb : Str → Option Value} {f : Addr} {fd : FuncData} {h₀ : Heap}
  {L fa : Addr} {cd : Value} {m : Str → Option Value} {led : List (Addr × Obj)} {n mm t less start : Int} {tn tm tt tl ts tp : Tok} {on om : Obj} {tN : Nat}

theorem inner_body (T : TF mg mb f fd h₀) (S : St h₀ L s.heap m led) (hh : A.handled = none) (hd : A.depth < recursionLimit) (hu : A.units + 64 < cLine)
    (hs : m (Str.ofString "start") = some (.int start ts)) (htp : m (Str.ofString "top") = some (.int (tN : Int) tp)) (hl : m (Str.ofString "less") = some (.int less tl)) (htt : m (Str.ofString "t") = some (.int t tt))
    (hn : (L + 1 + 1, on) ∈ led) (hon : on.data = .cell (some (.int n tn))) (hm : (L + 1 + 1 + 1, om) ∈ led) (hom : om.data = .cell (some (.int mm tm)))
    (bn : Bd 1100 n) (bm : Bd 1100 mm) (bs : Bd 1010 start) (bt : Bd 1010 t) (m0 : 0 < mm) (nm0 : mm < n) (t0 : 0 < t) (s0 : 0 ≤ start) (l0 : less = 0 ∨ less = 1) (h64 : tN < 64)
    (q : ∀ h' tk m', (∀ y, y ∉ innerNames → m' y = m y) → St h₀ L h' m' led → Q .next { s with heap := h', toks := tk }) :
    wpAny (model prog w) A (execs innerBody (lawEnv L fa cd)) Q E s := by
  have btp : Bd 10 (tN : Int) := by unfold Bd; omega
  have bl : Bd 1 less := by rcases l0 with rfl | rfl <;> (unfold Bd; decide)
  have d1 : Bd 1 (1 : Int) := by unfold Bd; decide
  have b4 : Bd 3 (4 : Int) := by unfold Bd; decide
  have nonneg : ∀ k : Int, 0 ≤ k → 0 ≤ 4 * k * k * mm := fun k hk => Int.mul_nonneg (Int.mul_nonneg (by omega) (by omega)) (by omega)
  have r0 := (rto_pos (N := 4 * (start + 1) * (start + 1) * mm) (D := n) (nonneg _ (by omega)) (by omega) ((((b4.mul (bs.add d1)).mul (bs.add d1)).mul bm).mono (by decide))).2
  have r1 := (rto_pos (N := 4 * (start + tN + 1) * (start + tN + 1) * mm) (D := n) (nonneg _ (by omega)) (by omega) ((((b4.mul ((bs.add btp).add d1)).mul ((bs.add btp).add d1)).mul bm).mono (by decide))).2
  obtain ⟨b, hb⟩ : ∃ b, b = cntOf n mm less start := ⟨_, rfl⟩
  obtain ⟨e, he⟩ : ∃ e, e = cntOf n mm less (start + tN) := ⟨_, rfl⟩
  have b0 : 0 ≤ b := by rw [hb]; exact cnt_nonneg m0 nm0 l0 s0
  have bS : b ≤ start := by rw [hb]; exact cnt_le m0 nm0 l0 s0
  have eS : e ≤ start + tN := by rw [he]; exact cnt_le m0 nm0 l0 (by omega)
  have hg := cnt_grow m0 nm0 l0 s0 tN
  rw [← hb, ← he] at hg
  have hperm := told_perm m0 nm0 t0 l0 s0 tN
  rw [← hb, ← he] at hperm
  obtain ⟨c1, hc1⟩ : ∃ c1 : Nat, c1 = (e - b).toNat := ⟨_, rfl⟩
  obtain ⟨c2, hc2⟩ : ∃ c2 : Nat, c2 = ((tN : Int) - (e - b)).toNat := ⟨_, rfl⟩
  rw [← hc1, ← hc2] at hperm
  have hbe : e = b + c1 := by omega
  have bb : Bd 1200 b := (bs.of_le b0 bS).mono (by decide)
  have be : Bd 1200 e := ((bs.add btp).of_le (by omega) eS).mono (by decide)
  rw [inner_eq]
  refine wpAny_execs_cons (st_ends T S hh hd hs htp hn hon hm hom bn bm bs btp (by omega) (by omega) fun h1 tk1 a1 c1' t0' t1' S1 => ?_)
  refine wpAny_execs_cons (st_cut S1 hh (if_pos rfl) (.head _) (show (if Str.ofString "less" = Str.ofString "ends" then _ else _) = _ by rw [if_neg (by decide)]; exact hl) r0 r1 bl fun h2 tk2 tb te S2 => ?_)
  change St h₀ L h2 (ups (ups (ups m (Str.ofString "ends") (.ref a1)) (Str.ofString "end") (.int (cntOf n mm less (start + tN)) te)) (Str.ofString "begin") (.int (cntOf n mm less start) tb)) _ at S2
  rw [← hb, ← he] at S2
  generalize hm2 : ups (ups (ups m (Str.ofString "ends") (.ref a1)) (Str.ofString "end") (.int e te)) (Str.ofString "begin") (.int b tb) = m2 at S2
  have m2b : m2 (Str.ofString "begin") = some (.int b tb) := by rw [← hm2]; exact if_pos rfl
  have m2e : m2 (Str.ofString "end") = some (.int e te) := by rw [← hm2]; exact (if_neg (by decide)).trans (if_pos rfl)
  have m2o : ∀ y, y ∉ innerNames → m2 y = m y := fun y hy => by
    simp only [innerNames, List.mem_cons, List.not_mem_nil, or_false, not_or] at hy
    rw [← hm2]
    exact (if_neg hy.2.1).trans ((if_neg hy.2.2.1).trans (if_neg hy.1))
  refine wpAny_execs_cons (st_sane S2 m2b m2e ((m2o _ (by decide)).trans htp) (bb.mono (by decide)) (be.mono (by decide)) btp b0 (by omega) (by omega) fun tk3 => ?_)
  refine wpAny_execs_cons (st_told S2 fun h4 tk4 a S4 hne => ?_)
  generalize hm4 : ups m2 (Str.ofString "told") (.ref a) = m4 at S4
  have m4t : m4 (Str.ofString "told") = some (.ref a) := by rw [← hm4]; exact if_pos rfl
  have m4o : ∀ y, y ≠ Str.ofString "told" → m4 y = m2 y := fun y hy => by rw [← hm4]; exact if_neg hy
  have m4i : ∀ y, y ∉ innerNames → m4 y = m y := fun y hy => (m4o y fun q => hy (by rw [q]; decide)).trans (m2o y hy)
  have l1 : (toldLow n mm less b c1).length = c1 := by simp [toldLow, upto_length]
  refine wpAny_execs_cons (st_low T S4 hne hh hd (acc := []) .nil (by simp; omega) m4t ((m4o _ (by decide)).trans m2b) ((m4o _ (by decide)).trans (hbe ▸ m2e)) ((m4i _ (by decide)).trans hl)
    (.tail _ hn) hon (.tail _ hm) hom bn bm bl bb (hbe ▸ be) (by omega) m0 b0 fun h5 tk5 m5 vs5 c5 hm5 hI5 S5 => ?_)
  rw [List.nil_append] at hI5
  have m5i : ∀ y, y ∉ innerNames → m5 y = m y := fun y hy => (hm5 y ⟨fun q => hy (by rw [q]; decide), fun q => hy (by rw [q]; decide)⟩).trans (m4i y hy)
  refine wpAny_execs_cons (st_upp T S5 hne hh hd hI5 (cnt := c2) (by omega) (by omega) ((hm5 _ (by decide)).trans m4t) ((hm5 _ (by decide)).trans ((m4o _ (by decide)).trans m2b)) ((hm5 _ (by decide)).trans ((m4o _ (by decide)).trans m2e))
    ((m5i _ (by decide)).trans hl) ((m5i _ (by decide)).trans hs) ((m5i _ (by decide)).trans htp) ((m5i _ (by decide)).trans htt) (.tail _ hn) hon (.tail _ hm) hom bn bm bl bb be bs btp bt nm0 m0 t0 (by omega) fun h6 tk6 m6 vs6 c6 hm6 hI6 S6 => ?_)
  have m6i : ∀ y, y ∉ innerNames → m6 y = m y := fun y hy => (hm6 y ⟨fun q => hy (by rw [q]; decide), fun q => hy (by rw [q]; decide)⟩).trans (m5i y hy)
  refine wpAny_execs_cons (st_sorted T S6 hh hu hI6 (.head _) ((hm6 _ (by decide)).trans ((hm5 _ (by decide)).trans m4t)) ((m6i _ (by decide)).trans hs) ((m6i _ (by decide)).trans htp) bs btp h64 hperm fun h7 tk7 S7 => ?_)
  exact wpAny_execs_nil (q h7 tk7 m6 m6i (S7.sub fun p hp => .tail _ (.tail _ hp)))
end
end Mine

namespace Mine
open PySem PySem.W PyProof.Rows PySem.Calls

section
variable {prog : Program} {w : World} {A : Around} {s : Shared}

/-- one for of a list comprehension, at any depth, by a state -/
theorem comp_loop {σ : Type} {h₀ : Heap} {C I : Addr} {env : Env} {elt : PySem.Expr} {gens : List Comprehension} {scope : Scope} {pos p : Pos} {depth : Nat} {acc : Value} {target : PySem.Expr} {inner : Sem Unit}
    {fp : List Addr} {n : Nat} {P : Nat → Value → Prop} {Wst : Nat → Heap → Prop} {R : Result → Shared → Prop}
    (W : Walks prog w A I fp [I] n P Wst) (Led : σ → List (Addr × Obj)) (J : Nat → σ → (Str → Option Value) → Prop)
    (hI0 : h₀.get? I = none) (hIL : C ≠ I) (hI : ∀ i c m, J i c m → ∀ p ∈ Led c, p.1 ≠ I)
    (hfp : ∀ b ∈ fp, b = I ∨ ∃ o, ∀ c, (b, o) ∈ Led c)
    (hturn : compTurn (.ListComp elt gens scope pos) depth (.ref I) acc env = (standAt p >>= fun _ => pyNext (.ref I) >>= fun r => match r with
      | none => pure (.done .next)
      | some v => letOwnedTupleGo target (.ref I) v >>= fun _ => assign target env v >>= fun _ => inner >>= fun _ => again (.compLoop (.ListComp elt gens scope pos) depth (.ref I) acc env)))
    (turn : ∀ i v c m₁ h tk X, i < n → P i v → J i c m₁ → (∀ p ∈ X, p.1 = I) → (∀ o, h.get? I = some o → (I, o) ∈ X) → Wst (i + 1) h → St h₀ C h m₁ (Led c ++ X) →
      wpAny (model prog w) A (letOwnedTupleGo target (.ref I) v) (fun _ s₁ => wpAny (model prog w) A (assign target env v) (fun _ s₂ => wpAny (model prog w) A inner
        (fun _ s₃ => ∃ h' tk' m₂ c', s₃ = { s with heap := h', toks := tk' } ∧ St h₀ C h' m₂ (Led c' ++ X) ∧ J (i + 1) c' m₂) (fun _ _ => False) s₂) (fun _ _ => False) s₁) (fun _ _ => False) { s with heap := h, toks := tk })
    (c₀ : σ) (m₀ : Str → Option Value) (h0 : Wst 0 s.heap) (hS : St h₀ C s.heap m₀ (Led c₀)) (hJ : J 0 c₀ m₀)
    (done : ∀ h' tk m' c, St h₀ C h' m' (Led c) → J n c m' → R (.ok .next) { s with heap := h', toks := tk }) :
    codeAny (model prog w) A (.compLoop (.ListComp elt gens scope pos) depth (.ref I) acc env) R s := by
  refine codeAny_loop rfl (fun k s' => ∃ i h' tk m' c, i ≤ n ∧ k = n + 1 - i ∧ s' = { s with heap := h', toks := tk } ∧ Wst i h' ∧ St h₀ C h' m' (Led c) ∧ J i c m') ?_ (n + 1)
    ⟨0, s.heap, s.toks, m₀, c₀, Nat.zero_le _, rfl, rfl, h0, hS, hJ⟩
  rintro k s' ⟨i, h', tk, m', c, hi, rfl, rfl, hst, hS', hJ'⟩
  show wpAny _ _ ((compTurn (.ListComp elt gens scope pos) depth (.ref I) acc env).onRaise (fun x => do noteFrame x env; theTreesLotGoes x)) _ _ _
  refine wpAny_noted ?_
  rw [hturn]
  refine wpAny_bind (wpAny_standAt (wpAny_bind ?_))
  have but : ∀ h₁ : Heap, (∀ b o, b ∉ [I] → h'.get? b = some o → h₁.get? b = some o) → St h₀ C h₁ m' (Led c) := fun h₁ hk₁ =>
    hS'.but (c := I) (fun b o hb e => hk₁ b o (by simpa using hb) e) hI0 hIL (hI _ c _ hJ')
  by_cases hlt : i < n
  · refine W.item i _ _ _ hlt hst fun v h₁ tk₁ hP hst₁ hk₁ => ?_
    have S1 := but h₁ hk₁
    obtain ⟨X, hX1, hX2, hX3⟩ : ∃ X : List (Addr × Obj), (∀ p ∈ X, p.1 = I) ∧ (∀ o, h₁.get? I = some o → (I, o) ∈ X) ∧ ∀ p ∈ X, h₁.get? p.1 = some p.2 := by
      cases e : h₁.get? I with
      | none => exact ⟨[], fun _ h => (nomatch h), fun _ h => (nomatch h), fun _ h => (nomatch h)⟩
      | some o => exact ⟨[(I, o)], fun p hp => by rw [List.mem_singleton.mp hp], fun o' h => by cases h; exact .head _, fun p hp => by rw [List.mem_singleton.mp hp]; exact e⟩
    have S2 : St h₀ C h₁ m' (Led c ++ X) := ⟨S1.F, fun p hp => (List.mem_append.mp hp).elim (S1.N p) fun hp => ⟨hX3 p hp, by rw [hX1 p hp]; exact Ne.symm hIL, by rw [hX1 p hp]; exact hI0⟩⟩
    refine wpAny_bind (wpAny_mono (turn i v c m' h₁ tk₁ X hlt hP hJ' hX1 hX2 hst₁ S2) (fun _ s₁ t₁ => ?_) fun _ _ f => f.elim)
    refine wpAny_bind (wpAny_mono t₁ (fun _ s₂ t₂ => ?_) fun _ _ f => f.elim)
    refine wpAny_bind (wpAny_mono t₂ (fun fl s₃ t₃ => ?_) fun _ _ f => f.elim)
    obtain ⟨h₃, tk₃, m₂, c', rfl, S3, J3⟩ := t₃
    refine wpAny_pure ⟨rfl, n + 1 - (i + 1), by omega, i + 1, h₃, tk₃, m₂, c', hlt, rfl, rfl, ?_, S3.sub fun p hp => List.mem_append_left _ hp, J3⟩
    refine W.frame _ _ _ hst₁ fun b hb o e => ?_
    rcases hfp b hb with rfl | ⟨o', ho'⟩
    · exact S3.get (List.mem_append_right _ (hX2 o e))
    · have e1 := S1.get (ho' c)
      rw [e] at e1
      cases e1
      exact S3.get (List.mem_append_left _ (ho' c'))
  · have hin : i = n := by omega
    subst hin
    refine W.done _ _ _ hst fun h₁ tk₁ hk₁ => wpAny_pure ?_
    exact done h₁ tk₁ m' c (but h₁ hk₁) hJ'

theorem comp_start {env : Env} {elt : PySem.Expr} {gens : List Comprehension} {scope : Scope} {pos : Pos} {depth : Nat} {acc it : Value} {g : Comprehension} {R : Result → Shared → Prop} (hg : gens[depth]? = some g) (ha : (g.is_async != 0) = false)
    (h0 : codeAny (model prog w) A (.compLoop (.ListComp elt gens scope pos) depth it acc env) R s)
    (h : wpAny (model prog w) A (pyIter it) (fun it' s' => codeAny (model prog w) A (.compLoop (.ListComp elt gens scope pos) depth it' acc env) R s') (fun _ _ => False) s) :
    codeAny (model prog w) A (.compStart (.ListComp elt gens scope pos) depth it acc env) R s := by
  refine codeAny_of_tree ?_
  show wpAny _ _ ((compStart (.ListComp elt gens scope pos) depth it acc env).onRaise (fun x => do noteFrame x env; standAt theWindowsPlace)) _ _ s
  refine wpAny_notedAt ?_
  unfold compStart
  have e1 : (clausesOf (.ListComp elt gens scope pos))[depth]? = some g := hg
  simp only [e1, Option.elim, ha, Bool.false_eq_true, if_false]
  refine wpAny_bind (wpAny_askSetting (wpAny_ite ?_))
  split
  · first
      | exact wpAny_bind (wpAny_pure (wpAny_pure (And.intro rfl h0)))
      | exact wpAny_pure (And.intro rfl h0)
  · refine wpAny_bind (wpAny_rule (wpAny_bind (wpAny_standAt (wpAny_bind (wpAny_mono h (fun it' s' h' => wpAny_pure (And.intro rfl h')) fun _ _ f => f.elim)))))
end
end Mine

namespace Mine
open PySem PySem.W PyProof.Rows PySem.Calls

theorem run_own {M : Model} {A : Around} {E : Value → Shared → Prop} {s : Shared} {env : Env} {c : Code} {Q : Flow → Shared → Prop}
    (hc : codeAny M A c (fun r s' => match r with | .ok f => Q f s' | .error _ => False) s) : wpAny M A (runOwn c env) Q E s :=
  wpAny_runOwn (codeAny_mono hc fun r s' h => by cases r with | ok f => exact h | error e => exact h.elim)

/-- what the law asks of a ratio -/
def Ratio (n m : Int) : Prop := 0 < m ∧ m < n ∧ Bd 1100 n ∧ Bd 1100 m
/-- n, m, start, less as a tuple -/
def Quad (o : Obj) : Prop := ∃ n m st le t1 t2 t3 t4 c, o = tup #[.int n t1, .int m t2, .int st t3, .int le t4] c ∧ Ratio n m ∧ 0 ≤ st ∧ Bd 1010 st ∧ (le = 0 ∨ le = 1)

/-- the list that a comprehension fills, and the tuples in it -/
structure Acc where
  ts : List (Addr × Obj)
  ys : Array Value
  c : Nat
def Acc.led (D : Addr) (base : List (Addr × Obj)) (x : Acc) : List (Addr × Obj) := (D, lst x.ys x.c) :: (x.ts ++ base)
structure Acc.Ok (Z : List Addr) (sz : Nat) (x : Acc) : Prop where
  off : ∀ p ∈ x.ts, p.1 ∉ Z
  size : x.ys.size = sz
  good : ∀ v ∈ x.ys.toList, ∃ a o, v = .ref a ∧ (a, o) ∈ x.ts ∧ Quad o
  quad : ∀ p ∈ x.ts, Quad p.2

theorem Acc.led_base {D : Addr} {base base' : List (Addr × Obj)} {x : Acc} (h : ∀ p ∈ base', p ∈ base) : ∀ p ∈ x.led D base', p ∈ x.led D base := fun p hp => by
  rcases List.mem_cons.mp hp with rfl | hp
  · exact .head _
  · rcases List.mem_append.mp hp with hp | hp
    · exact .tail _ (List.mem_append_left _ hp)
    · exact .tail _ (List.mem_append_right _ (h p hp))
theorem Acc.mem_base {D : Addr} {base : List (Addr × Obj)} {x : Acc} {p : Addr × Obj} (h : p ∈ base) : p ∈ x.led D base := .tail _ (List.mem_append_right _ h)

section
variable {prog : Program} {w : World} {A : Around} {s : Shared}

/-- a for of a comprehension over a made list of two ints -/
theorem comp_ints {h₀ : Heap} {C D l : Addr} {cenv : Env} {elt : PySem.Expr} {gens : List Comprehension} {scope : Scope} {pos p px : Pos} {depth : Nat} {acc : Value} {x : Str} {inner : Sem Unit} {g : Comprehension}
    {R : Result → Shared → Prop} {E : Value → Shared → Prop} {k0 k1 : Int} {t0 t1 : Tok} {cl : Nat} (hh : A.handled = none) (hg : gens[depth]? = some g) (ha : (g.is_async != 0) = false)
    (hC : cenv.locals = C) (hkx : cenv.kindOf x = some .local) (hp : (cenv.scope.kind == .class || (cenv.scope.kind == .module && cenv.locals != cenv.globals)) = false)
    (base : List (Addr × Obj)) (Z : List Addr) (sz stp : Nat) (K : (Str → Option Value) → Prop)
    (hturn : ∀ I, compTurn (.ListComp elt gens scope pos) depth (.ref I) acc cenv = (standAt p >>= fun _ => pyNext (.ref I) >>= fun r => match r with
      | none => pure (.done .next)
      | some v => letOwnedTupleGo (.Name x px) (.ref I) v >>= fun _ => assign (.Name x px) cenv v >>= fun _ => inner >>= fun _ => again (.compLoop (.ListComp elt gens scope pos) depth (.ref I) acc cenv)))
    (x₀ : Acc) (m₀ : Str → Option Value) (hS : St h₀ C s.heap m₀ (x₀.led D ((l, lst #[.int k0 t0, .int k1 t1] cl) :: base))) (hx : x₀.Ok Z sz) (hK : K m₀) (hD : ∀ p ∈ base, p.1 ≠ D) (hl : l ≠ D)
    (turn : ∀ (i : Nat) (k : Int) (t : Tok) (x₁ : Acc) (m₁ : Str → Option Value) (h : Heap) (tk : Nat) (I : Addr) (oI : Obj) (X : List (Addr × Obj)), i < 2 → (k = k0 ∨ k = k1) → K m₁ → x₁.Ok (I :: Z) (sz + stp * i) → (I, oI) ∈ X → (∀ p ∈ base ++ X, p.1 ≠ D) → (∀ p ∈ base, p ∈ base ++ X) → St h₀ C h (ups m₁ x (.int k t)) (x₁.led D (base ++ X)) →
      wpAny (model prog w) A inner (fun _ s₃ => ∃ h' tk' m₂, ∃ x₂ : Acc, s₃ = { s with heap := h', toks := tk' } ∧ St h₀ C h' m₂ (x₂.led D (base ++ X)) ∧ K m₂ ∧ x₂.Ok (I :: Z) (sz + stp * (i + 1))) (fun _ _ => False) { s with heap := h, toks := tk })
    (done : ∀ h' tk m' (x₁ : Acc), St h₀ C h' m' (x₁.led D base) → K m' → x₁.Ok Z (sz + stp * 2) → R (.ok .next) { s with heap := h', toks := tk }) :
    wpAny (model prog w) A (pyIter (.ref l)) (fun it s₂ => codeAny (model prog w) A (.compStart (.ListComp elt gens scope pos) depth it acc cenv) R s₂) E s := by
  have hle : (l, lst #[.int k0 t0, .int k1 t1] cl) ∈ x₀.led D ((l, lst #[.int k0 t0, .int k1 t1] cl) :: base) := Acc.mem_base (.head _)
  have hlst : s.heap.IsList l #[.int k0 t0, .int k1 t1] := ⟨_, hS.get hle, rfl, cl, rfl⟩
  refine wpAny_pyIter_list hlst ?_
  have hfresh : s.heap.get? s.heap.objs.size = none := get_none (Nat.le_refl _)
  obtain ⟨o1, o2, o3⟩ := hS.out hfresh
  have hlI : l ≠ s.heap.objs.size := o3 _ hle
  have W := Walks.list (prog := prog) (w := w) hh s.heap.objs.size l hlI #[.int k0 t0, .int k1 t1]
  generalize hH : s.heap.push { cls := .type "list_iterator", data := .fields #[.ref l, .int 0 0] } = H
  have hkp : Kp s.heap H := fun b o e => by rw [← hH]; exact Heap.get?_push_of_some _ e
  have hst : H.IsListIter s.heap.objs.size l 0 ∧ H.IsList l #[.int k0 t0, .int k1 t1] := ⟨⟨_, by rw [← hH]; exact Heap.get?_push_size _ rfl, rfl, rfl⟩, hlst.at fun o e => hkp _ _ e⟩
  have S1 := hS.kp hkp
  have loop : codeAny (model prog w) A (.compLoop (.ListComp elt gens scope pos) depth (.ref s.heap.objs.size) acc cenv) R { s with heap := H } := by
    refine comp_loop (s := { s with heap := H }) (h₀ := h₀) (C := C) W (fun y : Acc => y.led D ((l, lst #[.int k0 t0, .int k1 t1] cl) :: base)) (fun i y m₁ => y.Ok (s.heap.objs.size :: Z) (sz + stp * i) ∧ K m₁) o1 o2 ?_ ?_ (hturn _) ?_ x₀ m₀ hst S1 ⟨⟨?_, by simpa using hx.size, hx.good, hx.quad⟩, hK⟩ ?_
    · rintro i y m₁ ⟨hy, _⟩ p hp
      rcases List.mem_cons.mp hp with rfl | hp
      · exact o3 (D, lst x₀.ys x₀.c) (.head _)
      · rcases List.mem_append.mp hp with hp | hp
        · exact fun e => hy.off p hp (e ▸ .head _)
        · exact o3 p (Acc.mem_base hp)
    · intro b hb
      rcases List.mem_cons.mp hb with rfl | hb
      · exact .inl rfl
      · rw [List.mem_singleton.mp hb]
        exact .inr ⟨_, fun y => Acc.mem_base (.head _)⟩
    · rintro i v y m₁ h tk X hi hP ⟨hy, hKm⟩ hX1 hX2 hW S2
      obtain ⟨k, t, rfl, hk⟩ : ∃ k t, v = Value.int k t ∧ (k = k0 ∨ k = k1) := by
        rcases i with _ | _ | i
        · simp at hP; exact ⟨_, _, hP.symm, .inl rfl⟩
        · simp at hP; exact ⟨_, _, hP.symm, .inr rfl⟩
        · simp at hP
      obtain ⟨oI, hoI, _⟩ := hW.1
      subst hC
      refine wpAny_pure (PyProof.Rows.assign_Name (wpAny_storeName_local hkx S2.F.ns (fun h4 hns4 hs4 => ?_) hp))
      have S3 := (S2.store hns4 hs4).sub (led' := y.led D (base ++ ((l, lst #[.int k0 t0, .int k1 t1] cl) :: X))) fun p hp => by
        rcases List.mem_cons.mp hp with rfl | hp
        · exact .head _
        · rcases List.mem_append.mp hp with hp | hp
          · exact .tail _ (List.mem_append_left _ (List.mem_append_left _ hp))
          · rcases List.mem_append.mp hp with hp | hp
            · exact .tail _ (List.mem_append_left _ (List.mem_append_right _ (.tail _ hp)))
            · rcases List.mem_cons.mp hp with rfl | hp
              · exact .tail _ (List.mem_append_left _ (List.mem_append_right _ (.head _)))
              · exact .tail _ (List.mem_append_right _ hp)
      refine wpAny_mono (turn i k t y m₁ h4 _ s.heap.objs.size oI ((l, lst #[.int k0 t0, .int k1 t1] cl) :: X) hi hk hKm hy (.tail _ (hX2 oI hoI)) (fun p hp => ?_) (fun p hp => List.mem_append_left _ hp) S3) (fun _ s₃ h₃ => ?_) fun _ _ e => e
      · rcases List.mem_append.mp hp with hp | hp
        · exact hD p hp
        · rcases List.mem_cons.mp hp with rfl | hp
          · exact hl
          · rw [hX1 p hp]; exact Ne.symm (o3 (D, lst x₀.ys x₀.c) (.head _))
      · obtain ⟨h', tk', m₂, x₂, rfl, S5, hK2, hx2⟩ := h₃
        refine ⟨h', tk', m₂, x₂, rfl, S5.sub fun p hp => ?_, hx2, hK2⟩
        rcases List.mem_append.mp hp with hp | hp
        · rcases List.mem_cons.mp hp with rfl | hp
          · exact .head _
          · rcases List.mem_append.mp hp with hp | hp
            · exact .tail _ (List.mem_append_left _ hp)
            · rcases List.mem_cons.mp hp with rfl | hp
              · exact .tail _ (List.mem_append_right _ (List.mem_append_right _ (.head _)))
              · exact .tail _ (List.mem_append_right _ (List.mem_append_left _ hp))
        · exact .tail _ (List.mem_append_right _ (List.mem_append_right _ (.tail _ hp)))
    · intro p hp hz
      rcases List.mem_cons.mp hz with e | hz
      · exact o3 p (.tail _ (List.mem_append_left _ hp)) e
      · exact hx.off p hp hz
    · rintro h' tk m' y S6 ⟨hy, hKm⟩
      exact done h' tk m' y (S6.sub (Acc.led_base fun p hp => .tail _ hp)) hKm ⟨fun p hp hz => hy.off p hp (.tail _ hz), hy.size, hy.good, hy.quad⟩
  exact comp_start hg ha loop (W.self 0 _ _ _ hst loop)
end
end Mine

namespace Mine
open PySem PySem.W PyProof.Rows PySem.Calls

theorem turn3_0 (elt t0 i0 t1 i1 t2 i2 : PySem.Expr) (scope : Scope) (pos : Pos) (it acc : Value) (env : Env) :
    compTurn (.ListComp elt [⟨t0, i0, [], 0⟩, ⟨t1, i1, [], 0⟩, ⟨t2, i2, [], 0⟩] scope pos) 0 it acc env = (standAt i0.pos >>= fun _ => pyNext it >>= fun r => match r with
      | none => pure (.done .next)
      | some v => letOwnedTupleGo t0 it v >>= fun _ => assign t0 env v >>= fun _ =>
        eval i1 env >>= fun x => standAt i1.pos >>= fun _ => foldedSetIterable i1 env x >>= fun x => holding [x] (pyIter x) >>= fun it' => runOwn (.compStart (.ListComp elt [⟨t0, i0, [], 0⟩, ⟨t1, i1, [], 0⟩, ⟨t2, i2, [], 0⟩] scope pos) 1 it' acc env) env >>= fun _ =>
          again (.compLoop (.ListComp elt [⟨t0, i0, [], 0⟩, ⟨t1, i1, [], 0⟩, ⟨t2, i2, [], 0⟩] scope pos) 0 it acc env)) := by rfl
theorem turn3_2 (elt t0 i0 t1 i1 t2 i2 : PySem.Expr) (scope : Scope) (pos : Pos) (it acc : Value) (env : Env) :
    compTurn (.ListComp elt [⟨t0, i0, [], 0⟩, ⟨t1, i1, [], 0⟩, ⟨t2, i2, [], 0⟩] scope pos) 2 it acc env = (standAt i2.pos >>= fun _ => pyNext it >>= fun r => match r with
      | none => pure (.done .next)
      | some v => letOwnedTupleGo t2 it v >>= fun _ => assign t2 env v >>= fun _ =>
        (eval elt env >>= fun x => call (.builtin "list.append") [acc, x] >>= fun _ => pure ()) >>= fun _ =>
          again (.compLoop (.ListComp elt [⟨t0, i0, [], 0⟩, ⟨t1, i1, [], 0⟩, ⟨t2, i2, [], 0⟩] scope pos) 2 it acc env)) := by rfl
theorem turn3_1 (elt t0 i0 t1 i1 t2 i2 : PySem.Expr) (scope : Scope) (pos : Pos) (it acc : Value) (env : Env) :
    compTurn (.ListComp elt [⟨t0, i0, [], 0⟩, ⟨t1, i1, [], 0⟩, ⟨t2, i2, [], 0⟩] scope pos) 1 it acc env = (standAt i1.pos >>= fun _ => pyNext it >>= fun r => match r with
      | none => pure (.done .next)
      | some v => letOwnedTupleGo t1 it v >>= fun _ => assign t1 env v >>= fun _ =>
        eval i2 env >>= fun x => standAt i2.pos >>= fun _ => foldedSetIterable i2 env x >>= fun x => holding [x] (pyIter x) >>= fun it' => runOwn (.compStart (.ListComp elt [⟨t0, i0, [], 0⟩, ⟨t1, i1, [], 0⟩, ⟨t2, i2, [], 0⟩] scope pos) 2 it' acc env) env >>= fun _ =>
          again (.compLoop (.ListComp elt [⟨t0, i0, [], 0⟩, ⟨t1, i1, [], 0⟩, ⟨t2, i2, [], 0⟩] scope pos) 1 it acc env)) := by rfl

/-- the for behind a for: its list, its iterator, its own run -/
def nextFor (e i : PySem.Expr) (d : Nat) (acc : Value) (env : Env) : Sem Unit :=
  eval i env >>= fun x => standAt i.pos >>= fun _ => foldedSetIterable i env x >>= fun x => holding [x] (pyIter x) >>= fun it' => runOwn (.compStart e d it' acc env) env >>= fun _ => pure ()

theorem turn3_0' (elt t0 i0 t1 i1 t2 i2 : PySem.Expr) (scope : Scope) (pos : Pos) (it acc : Value) (env : Env) :
    compTurn (.ListComp elt [⟨t0, i0, [], 0⟩, ⟨t1, i1, [], 0⟩, ⟨t2, i2, [], 0⟩] scope pos) 0 it acc env = (standAt i0.pos >>= fun _ => pyNext it >>= fun r => match r with
      | none => pure (.done .next)
      | some v => letOwnedTupleGo t0 it v >>= fun _ => assign t0 env v >>= fun _ => nextFor (.ListComp elt [⟨t0, i0, [], 0⟩, ⟨t1, i1, [], 0⟩, ⟨t2, i2, [], 0⟩] scope pos) i1 1 acc env >>= fun _ =>
          again (.compLoop (.ListComp elt [⟨t0, i0, [], 0⟩, ⟨t1, i1, [], 0⟩, ⟨t2, i2, [], 0⟩] scope pos) 0 it acc env)) := by
  rw [turn3_0]
  simp only [nextFor, bind_assoc, pure_bind]
theorem turn3_1' (elt t0 i0 t1 i1 t2 i2 : PySem.Expr) (scope : Scope) (pos : Pos) (it acc : Value) (env : Env) :
    compTurn (.ListComp elt [⟨t0, i0, [], 0⟩, ⟨t1, i1, [], 0⟩, ⟨t2, i2, [], 0⟩] scope pos) 1 it acc env = (standAt i1.pos >>= fun _ => pyNext it >>= fun r => match r with
      | none => pure (.done .next)
      | some v => letOwnedTupleGo t1 it v >>= fun _ => assign t1 env v >>= fun _ => nextFor (.ListComp elt [⟨t0, i0, [], 0⟩, ⟨t1, i1, [], 0⟩, ⟨t2, i2, [], 0⟩] scope pos) i2 2 acc env >>= fun _ =>
          again (.compLoop (.ListComp elt [⟨t0, i0, [], 0⟩, ⟨t1, i1, [], 0⟩, ⟨t2, i2, [], 0⟩] scope pos) 1 it acc env)) := by
  rw [turn3_1]
  simp only [nextFor, bind_assoc, pure_bind]

section
variable {prog : Program} {w : World} {A : Around} {E : Value → Shared → Prop} {s : Shared}
theorem next_for {e i : PySem.Expr} {d : Nat} {acc : Value} {env : Env} {Q : Unit → Shared → Prop} (hs : ∀ x, foldedSetIterable i env x = pure x)
    (h : wpAny (model prog w) A (eval i env) (fun x s₁ => wpAny (model prog w) A (pyIter x) (fun it s₂ => codeAny (model prog w) A (.compStart e d it acc env) (fun r s' => match r with | .ok _ => Q () s' | .error _ => False) s₂) E s₁) E s) :
    wpAny (model prog w) A (nextFor e i d acc env) Q E s := by
  unfold nextFor
  refine wpAny_bind (wpAny_mono h (fun x s₁ h₁ => ?_) fun _ _ e => e)
  refine wpAny_bind (wpAny_standAt (wpAny_bind (wpAny_of_eq (hs x) (wpAny_bind (wpAny_holding (wpAny_mono h₁ (fun it s₂ h₂ => ?_) fun _ _ e => e))))))
  exact wpAny_bind (run_own (codeAny_mono h₂ fun r s' h' => by cases r with | ok f => exact wpAny_pure h' | error e => exact h'))

/-- the tuple that a list's iterator hands out is the list's own -/
theorem owned_list {I l a : Addr} {i : Nat} {es : List PySem.Expr} {k : Nat} {p : Pos} {Q : Unit → Shared → Prop} (hi : s.heap.IsListIter I l i) (h : Q () s) :
    wpAny (model prog w) A (letOwnedTupleGo (.Tuple es k p) (.ref I) (.ref a)) Q E s := by
  obtain ⟨⟨c, d, dt, sl⟩, ho, hc, hd⟩ := hi
  cases hc
  cases hd
  show wpAny _ _ (load I >>= _) _ _ _
  exact wpAny_bind (wpAny_load ho (wpAny_pure h))
end
end Mine

namespace Mine
open PySem PySem.W PyProof.Rows PySem.Calls

def quadScope : Scope := match innerIter with | .ListComp _ _ s _ => s | _ => default
abbrev quadEnv (L fa : Addr) (cd : Value) (C : Addr) : Env := compEnvC quadScope [(Str.ofString "z", L + 1)] C (lawEnv L fa cd)

section
variable {prog : Program} {w : World} {A : Around} {E : Value → Shared → Prop} {s : Shared} {h₀ : Heap} {L fa C D : Addr} {cd : Value} {Q : Unit → Shared → Prop} {m₀ : Str → Option Value}
  {t0 i0 : PySem.Expr} {p1 p2 p3 p4 pe ps q1 q2 q3 pl q4 q5 q6 pos : Pos} {ke u1 u2 u3 : Nat} {base : List (Addr × Obj)} {x₀ : Acc} {Z : List Addr} {sz : Nat} {n m st z : Int} {tn tm ts tz : Tok} {oz : Obj}

abbrev quadE (t0 i0 : PySem.Expr) (p1 p2 p3 p4 pe ps q1 q2 q3 pl q4 q5 q6 pos : Pos) (ke u1 u2 u3 : Nat) : PySem.Expr :=
  .ListComp (.Tuple [.Name (Str.ofString "n") p1, .Name (Str.ofString "m") p2, .Name (Str.ofString "start") p3, .Name (Str.ofString "less") p4] ke pe)
    [⟨t0, i0, [], 0⟩, ⟨.Name (Str.ofString "start") ps, .List [.Constant (.int 0) u1 q1, .Name (Str.ofString "z") q2] q3, [], 0⟩, ⟨.Name (Str.ofString "less") pl, .List [.Constant (.int 0) u2 q4, .Constant (.int 1) u3 q5] q6, [], 0⟩] quadScope pos

theorem lev2 (hh : A.handled = none) (hS : St h₀ C s.heap m₀ (x₀.led D base)) (hx : x₀.Ok Z sz) (hsz : sz ≤ 100) (hD : ∀ p ∈ base, p.1 ≠ D) (hDZ : D ∈ Z) (hZ : ∀ z ∈ Z, z = D ∨ ∃ o, (z, o) ∈ base)
    (hn : m₀ (Str.ofString "n") = some (.int n tn)) (hm : m₀ (Str.ofString "m") = some (.int m tm)) (hst : m₀ (Str.ofString "start") = some (.int st ts)) (R : Ratio n m) (s0 : 0 ≤ st) (bs : Bd 1010 st)
    (q : ∀ h' tk m' (x₁ : Acc), St h₀ C h' m' (x₁.led D base) → m' (Str.ofString "n") = some (.int n tn) → m' (Str.ofString "m") = some (.int m tm) → x₁.Ok Z (sz + 2) → Q () { s with heap := h', toks := tk }) :
    wpAny (model prog w) A (nextFor (quadE t0 i0 p1 p2 p3 p4 pe ps q1 q2 q3 pl q4 q5 q6 pos ke u1 u2 u3) (.List [.Constant (.int 0) u2 q4, .Constant (.int 1) u3 q5] q6) 2 (.ref D) (quadEnv L fa cd C)) Q E s := by
  have d0 : Bd 1 (0 : Int) := by unfold Bd; decide
  have d1 : Bd 1 (1 : Int) := by unfold Bd; decide
  refine next_for (fun _ => rfl) (List_ (args_cons ((IEv.const d0).run rfl fun ta tka => args_cons ((IEv.const d1).run rfl fun tb tkb => args_nil ?_))))
  refine wpAny_newObj_type ?_ (by size_fits)
  dsimp only
  have S1 := (hS.push (lst #[.int 0 ta, .int 1 tb] 0)).sub (led' := x₀.led D ((s.heap.objs.size, lst #[.int 0 ta, .int 1 tb] 0) :: base)) fun p hp => by
    rcases List.mem_cons.mp hp with rfl | hp
    · exact .tail _ (.head _)
    · rcases List.mem_append.mp hp with hp | hp
      · exact .tail _ (.tail _ (List.mem_append_left _ hp))
      · rcases List.mem_cons.mp hp with rfl | hp
        · exact .head _
        · exact .tail _ (.tail _ (List.mem_append_right _ hp))
  have hlD : s.heap.objs.size ≠ D := fun e => Nat.lt_irrefl D (by have := Heap.lt_size (hS.get (o := lst x₀.ys x₀.c) (.head _)); rwa [e] at this)
  refine comp_ints hh rfl rfl rfl rfl rfl base Z sz 1 (fun m' => m' (Str.ofString "n") = some (.int n tn) ∧ m' (Str.ofString "m") = some (.int m tm) ∧ m' (Str.ofString "start") = some (.int st ts)) (fun I => turn3_2 ..) x₀ m₀ S1 hx ⟨hn, hm, hst⟩ hD hlD ?_ ?_
  · rintro i k t x₁ m₁ h tk I oI X hi hk ⟨kn, km, ks⟩ hx1 hI hDX hbX S3
    have nn : NameIs (quadEnv L fa cd C) h (Str.ofString "n") (.int n tn) := .loc S3.F.ns ((if_neg (by decide)).trans kn) rfl rfl (by decide)
    have nm : NameIs (quadEnv L fa cd C) h (Str.ofString "m") (.int m tm) := .loc S3.F.ns ((if_neg (by decide)).trans km) rfl rfl (by decide)
    have ns : NameIs (quadEnv L fa cd C) h (Str.ofString "start") (.int st ts) := .loc S3.F.ns ((if_neg (by decide)).trans ks) rfl rfl (by decide)
    have nl : NameIs (quadEnv L fa cd C) h (Str.ofString "less") (.int k t) := .loc S3.F.ns (if_pos rfl) rfl rfl (by decide)
    refine wpAny_bind (Tuple_ (args_cons (nn _ _ _ _ _ _ rfl (args_cons (nm _ _ _ _ _ _ rfl (args_cons (ns _ _ _ _ _ _ rfl (args_cons (nl _ _ _ _ _ _ rfl (args_nil ?_))))))))))
    refine wpAny_newObj_type ?_ (by size_fits)
    dsimp only
    have S4 := S3.push (tup #[.int n tn, .int m tm, .int st ts, .int k t] 0)
    have hsz1 := hx1.size
    have aZ : ∀ z ∈ I :: Z, h.objs.size ≠ z := fun z hz e => by
      have key : ∃ o, h.get? z = some o := by
        rcases List.mem_cons.mp hz with rfl | hz
        · exact ⟨oI, S3.get (Acc.mem_base (List.mem_append_right _ hI))⟩
        · rcases hZ z hz with rfl | ⟨o, ho⟩
          · exact ⟨_, S3.get (o := lst x₁.ys x₁.c) (.head _)⟩
          · exact ⟨o, S3.get (Acc.mem_base (hbX _ ho))⟩
      obtain ⟨o, ho⟩ := key
      have := Heap.lt_size ho
      rw [e] at this
      exact Nat.lt_irrefl _ this
    have S5 := S4.sub (led' := (D, lst x₁.ys x₁.c) :: (((h.objs.size, tup #[.int n tn, .int m tm, .int st ts, .int k t] 0) :: x₁.ts) ++ (base ++ X))) fun p hp => by
      rcases List.mem_cons.mp hp with rfl | hp
      · exact .tail _ (.head _)
      · rcases List.mem_cons.mp hp with rfl | hp
        · exact .head _
        · exact .tail _ (.tail _ hp)
    refine wpAny_bind (append_at (S5.get (.head _)) (fun h6 hs6 ho6 => wpAny_pure ?_) (by rw [sizeLine_eq]; omega))
    refine ⟨h6, _, _, ⟨(h.objs.size, tup #[.int n tn, .int m tm, .int st ts, .int k t] 0) :: x₁.ts, x₁.ys.push (.ref h.objs.size), x₁.c + 1⟩, rfl, S5.upd ?_ hs6 ho6, ⟨(if_neg (by decide)).trans kn, (if_neg (by decide)).trans km, (if_neg (by decide)).trans ks⟩, ?_⟩
    · intro p hp
      rcases List.mem_cons.mp hp with rfl | hp
      · exact aZ D (.tail _ hDZ)
      · rcases List.mem_append.mp hp with hp | hp
        · exact fun e => hx1.off p hp (e ▸ .tail _ hDZ)
        · exact hDX p hp
    · have hq : Quad (tup #[.int n tn, .int m tm, .int st ts, .int k t] 0) := ⟨n, m, st, k, tn, tm, ts, t, 0, rfl, R, s0, bs, hk⟩
      refine ⟨fun p hp => ?_, by rw [Array.size_push, hsz1]; omega, fun v hv => ?_, fun p hp => ?_⟩
      · rcases List.mem_cons.mp hp with rfl | hp
        · exact fun hz => aZ _ hz rfl
        · exact hx1.off p hp
      · rw [Array.toList_push] at hv
        rcases List.mem_append.mp hv with hv | hv
        · obtain ⟨a, o, e, ho, hq⟩ := hx1.good v hv
          exact ⟨a, o, e, .tail _ ho, hq⟩
        · exact ⟨_, _, List.mem_singleton.mp hv, .head _, hq⟩
      · rcases List.mem_cons.mp hp with rfl | hp
        · exact hq
        · exact hx1.quad p hp
  · rintro h' tk m' x₁ S7 ⟨kn, km, _⟩ hx1
    exact q h' tk m' x₁ S7 kn km (by simpa using hx1)
end
end Mine

namespace Mine
open PySem PySem.W PyProof.Rows PySem.Calls

section
variable {prog : Program} {w : World} {A : Around} {s : Shared} {h₀ : Heap} {L fa C D : Addr} {cd : Value} {m₀ : Str → Option Value}
  {t0 i0 : PySem.Expr} {p1 p2 p3 p4 pe ps q1 q2 q3 pl q4 q5 q6 pos : Pos} {ke u1 u2 u3 : Nat} {base : List (Addr × Obj)} {x₀ : Acc} {Z : List Addr} {sz : Nat} {n m z : Int} {tn tm tz : Tok} {oz : Obj}

theorem lev1 {E : Value → Shared → Prop} {Q : Unit → Shared → Prop} (hh : A.handled = none) (hS : St h₀ C s.heap m₀ (x₀.led D base)) (hx : x₀.Ok Z sz) (hsz : sz ≤ 90) (hD : ∀ p ∈ base, p.1 ≠ D) (hDZ : D ∈ Z) (hZ : ∀ z ∈ Z, z = D ∨ ∃ o, (z, o) ∈ base)
    (hn : m₀ (Str.ofString "n") = some (.int n tn)) (hm : m₀ (Str.ofString "m") = some (.int m tm)) (hz : (L + 1, oz) ∈ base) (hoz : oz.data = .cell (some (.int z tz))) (R : Ratio n m) (z0 : 0 ≤ z) (bz : Bd 1010 z)
    (q : ∀ h' tk m' (x₁ : Acc), St h₀ C h' m' (x₁.led D base) → x₁.Ok Z (sz + 4) → Q () { s with heap := h', toks := tk }) :
    wpAny (model prog w) A (nextFor (quadE t0 i0 p1 p2 p3 p4 pe ps q1 q2 q3 pl q4 q5 q6 pos ke u1 u2 u3) (.List [.Constant (.int 0) u1 q1, .Name (Str.ofString "z") q2] q3) 1 (.ref D) (quadEnv L fa cd C)) Q E s := by
  have d0 : Bd 1 (0 : Int) := by unfold Bd; decide
  have nz : NameIs (quadEnv L fa cd C) s.heap (Str.ofString "z") (.int z tz) := .cel ⟨oz, hS.get (Acc.mem_base hz), hoz⟩ rfl rfl rfl (by decide)
  refine next_for (fun _ => rfl) (List_ (args_cons ((IEv.const d0).run rfl fun ta tka => args_cons ((IEv.name nz bz).run rfl fun tb tkb => args_nil ?_))))
  refine wpAny_newObj_type ?_ (by size_fits)
  dsimp only
  have S1 := (hS.push (lst #[.int 0 ta, .int z tb] 0)).sub (led' := x₀.led D ((s.heap.objs.size, lst #[.int 0 ta, .int z tb] 0) :: base)) fun p hp => by
    rcases List.mem_cons.mp hp with rfl | hp
    · exact .tail _ (.head _)
    · rcases List.mem_append.mp hp with hp | hp
      · exact .tail _ (.tail _ (List.mem_append_left _ hp))
      · rcases List.mem_cons.mp hp with rfl | hp
        · exact .head _
        · exact .tail _ (.tail _ (List.mem_append_right _ hp))
  have hlD : s.heap.objs.size ≠ D := fun e => Nat.lt_irrefl D (by have := Heap.lt_size (hS.get (o := lst x₀.ys x₀.c) (.head _)); rwa [e] at this)
  refine comp_ints hh rfl rfl rfl rfl rfl base Z sz 2 (fun m' => m' (Str.ofString "n") = some (.int n tn) ∧ m' (Str.ofString "m") = some (.int m tm)) (fun I => turn3_1' ..) x₀ m₀ S1 hx ⟨hn, hm⟩ hD hlD ?_ ?_
  · rintro i k t x₁ m₁ h tk I oI X hi hk ⟨kn, km⟩ hx1 hI hDX hbX S3
    refine lev2 (Z := I :: Z) (base := base ++ X) hh S3 hx1 (by omega) hDX (.tail _ hDZ) (fun y hy => ?_) ((if_neg (by decide)).trans kn) ((if_neg (by decide)).trans km) (if_pos rfl) R ?_ ?_ fun h' tk' m' x₂ S4 kn' km' hx2 => ⟨h', tk', m', x₂, rfl, S4, ⟨kn', km'⟩, by
      have e : sz + 2 * i + 2 = sz + 2 * (i + 1) := by omega
      exact e ▸ hx2⟩
    · rcases List.mem_cons.mp hy with rfl | hy
      · exact .inr ⟨oI, List.mem_append_right _ hI⟩
      · rcases hZ y hy with e | ⟨o, ho⟩
        · exact .inl e
        · exact .inr ⟨o, hbX _ ho⟩
    · rcases hk with rfl | rfl
      · omega
      · exact z0
    · rcases hk with rfl | rfl
      · exact d0.mono (by decide)
      · exact bz
  · rintro h' tk m' x₁ S7 _ hx1
    exact q h' tk m' x₁ S7 (by simpa using hx1)

theorem ev_quads {E : Value → Shared → Prop} {Q : Value → Shared → Prop} {m : Str → Option Value} {led : List (Addr × Obj)} {rA pa pb : Addr} {c ca cb : Nat} {n0 m0 n1 m1 : Int} {ta tb tc td : Tok} (hh : A.handled = none) (S : St h₀ L s.heap m led)
    (hr : m (Str.ofString "ratios") = some (.ref rA)) (hrA : (rA, lst #[.ref pa, .ref pb] c) ∈ led) (hpa : (pa, tup #[.int n0 ta, .int m0 tb] ca) ∈ led) (hpb : (pb, tup #[.int n1 tc, .int m1 td] cb) ∈ led)
    (R0 : Ratio n0 m0) (R1 : Ratio n1 m1) (hz : (L + 1, oz) ∈ led) (hoz : oz.data = .cell (some (.int z tz))) (z0 : 0 ≤ z) (bz : Bd 1010 z)
    (q : ∀ h' tk D (x : Acc), x.Ok [] 8 → St h₀ L h' m (x.led D led) → Q (.ref D) { s with heap := h', toks := tk }) :
    wpAny (model prog w) A (eval innerIter (lawEnv L fa cd)) Q E s := by
  show wpAny _ _ (eval (quadE (.Tuple [.Name (Str.ofString "n") _, .Name (Str.ofString "m") _] _ _) (.Name _ _) _ _ _ _ _ _ _ _ _ _ _ _ _ _ _ _ _ _) (lawEnv L fa cd)) _ _ _
  rw [eval_ListComp]
  refine wpAny_comprehension_free rfl (fun _ => rfl) (cl := [(Str.ofString "z", L + 1)]) (by rfl) (by rfl) (by decide) ?_
  refine NameIs.loc S.F.ns hr rfl rfl (by decide) _ _ _ _ _ _ rfl ?_
  have hl0 : s.heap.IsList rA #[.ref pa, .ref pb] := ⟨_, S.get hrA, rfl, c, rfl⟩
  refine wpAny_pyIter_list hl0 ?_
  have hf1 : s.heap.get? s.heap.objs.size = none := get_none (Nat.le_refl _)
  obtain ⟨a1, a2, a3⟩ := S.out hf1
  have hrI : rA ≠ s.heap.objs.size := a3 _ hrA
  have W := Walks.list (prog := prog) (w := w) hh s.heap.objs.size rA hrI #[.ref pa, .ref pb]
  generalize hI : s.heap.objs.size = I at *
  generalize hH1 : s.heap.push { cls := .type "list_iterator", data := .fields #[.ref rA, .int 0 0] } = H1
  have k1 : Kp s.heap H1 := fun b o e => by rw [← hH1]; exact Heap.get?_push_of_some _ e
  have g1 : H1.get? I = some { cls := .type "list_iterator", data := .fields #[.ref rA, .int 0 0] } := by rw [← hH1, ← hI]; exact Heap.get?_push_size _ rfl
  have z1 : H1.objs.size = I + 1 := by rw [← hH1, Heap.size_push, hI]
  refine wpAny_newObj_type ?_ (by size_fits)
  dsimp only
  obtain ⟨D, hDe⟩ : ∃ D, D = H1.objs.size := ⟨_, rfl⟩
  rw [← hDe]
  generalize hH2 : H1.push { cls := .type "list", dict := none, data := .seq ([] : List Value).toArray } = H2
  have k2 : Kp H1 H2 := fun b o e => by rw [← hH2]; exact Heap.get?_push_of_some _ e
  have g2 : H2.get? D = some (lst #[] 0) := by rw [← hH2, hDe]; exact Heap.get?_push_size _ rfl
  have z2 : H2.objs.size = I + 1 + 1 := by rw [← hH2, Heap.size_push, z1]
  refine wpAny_newFunctionEnv (by decide) (fun y hy => (nomatch hy)) (fun h₁ hns hsb => ?_) rfl
  dsimp only at hns hsb ⊢
  obtain ⟨C, hCe⟩ : ∃ C, C = H2.objs.size := ⟨_, rfl⟩
  rw [← hCe] at hns hsb ⊢
  have k3 : Kp H2 h₁ := fun b o e => hsb.extBut b o (by rw [hCe]; exact Nat.ne_of_lt (Heap.lt_size e)) (Heap.get?_push_of_some _ e)
  have k03 : Kp s.heap h₁ := fun b o e => k3 _ _ (k2 _ _ (k1 _ _ e))
  obtain ⟨oL, es, ep, hoL, hoL2⟩ := S.F.ns
  have ltI : ∀ b o, s.heap.get? b = some o → b < I := fun b o e => by rw [← hI]; exact Heap.lt_size e
  have hL : L < I := ltI _ _ hoL
  have D0 : s.heap.get? D = none := get_none (by rw [hI, hDe, z1]; exact Nat.le_succ _)
  have C0 : s.heap.get? C = none := get_none (by rw [hI, hCe, z2]; exact Nat.le_succ_of_le (Nat.le_succ _))
  obtain ⟨d1, d2, d3⟩ := S.out D0
  obtain ⟨c1, c2, c3⟩ := S.out C0
  have hDC : D ≠ C := by rw [hDe, hCe, z1, z2]; exact Nat.ne_of_lt (Nat.lt_succ_self _)
  have hID : I ≠ D := by rw [hDe, z1]; exact Nat.ne_of_lt (Nat.lt_succ_self _)
  have hIC : C ≠ I := by rw [hCe, z2]; exact Nat.ne_of_gt (Nat.lt_succ_of_lt (Nat.lt_succ_self _))
  have S0 : St h₀ C h₁ (fun x => ([] : List (Str × Value)).reverse.lookup x) (Acc.led D ((L, oL) :: led) ⟨[], #[], 0⟩) := by
    refine ⟨⟨hns, fun b o e => k03 _ _ (S.F.keep b o e), ?_⟩, fun p hp => ?_⟩
    · rw [hCe, z2]
      exact Nat.le_trans S.F.above (Nat.le_of_lt (Nat.lt_succ_of_lt (Nat.lt_succ_of_lt hL)))
    · rcases List.mem_cons.mp hp with rfl | hp
      · exact ⟨k3 _ _ g2, hDC, d1⟩
      · rcases List.mem_cons.mp hp with rfl | hp
        · refine ⟨k03 _ _ hoL, c2, ?_⟩
          exact get_none S.F.above
        · exact ⟨k03 _ _ (S.N p hp).1, c3 p hp, (S.N p hp).2.2⟩
  have hst : h₁.IsListIter I rA 0 ∧ h₁.IsList rA #[.ref pa, .ref pb] := ⟨⟨_, k3 _ _ (k2 _ _ g1), rfl, rfl⟩, hl0.at fun o e => k03 _ _ e⟩
  refine (fun (loop : codeAny (model prog w) A (.compLoop _ 0 (.ref I) (.ref D) (quadEnv L fa cd C)) (compPost (model prog w) A E none Q (.ref D) C) { s with heap := h₁, toks := s.toks + ([] : List (Str × Value)).length }) => comp_start rfl rfl loop (W.self 0 _ _ _ hst loop)) ?_
  refine comp_loop (s := { s with heap := h₁, toks := s.toks + ([] : List (Str × Value)).length }) (h₀ := h₀) (C := C) W (fun y : Acc => y.led D ((L, oL) :: led)) (fun i y _ => y.Ok [I, L, D] (4 * i)) a1 hIC ?_ ?_ (turn3_0' ..) ?_ ⟨[], #[], 0⟩ _ hst S0 ⟨fun _ h => (nomatch h), rfl, fun _ h => (nomatch h), fun _ h => (nomatch h)⟩ ?_
  · intro i y m₁ hy p hp
    rcases List.mem_cons.mp hp with rfl | hp
    · exact Ne.symm hID
    · rcases List.mem_append.mp hp with hp | hp
      · exact fun e => hy.off p hp (e ▸ .head _)
      · rcases List.mem_cons.mp hp with rfl | hp
        · exact Nat.ne_of_lt hL
        · exact a3 p hp
  · intro b hb
    rcases List.mem_cons.mp hb with rfl | hb
    · exact .inl rfl
    · rw [List.mem_singleton.mp hb]
      exact .inr ⟨_, fun y => Acc.mem_base (.tail _ hrA)⟩
  · intro i v y m₁ h tk X hi hP hy hX1 hX2 hW S2
    obtain ⟨pq, nn, mm, t1, t2, cc, rfl, hmem, hR⟩ : ∃ pq nn mm t1 t2 cc, v = Value.ref pq ∧ (pq, tup #[.int nn t1, .int mm t2] cc) ∈ led ∧ Ratio nn mm := by
      rcases i with _ | _ | i
      · simp at hP; exact ⟨pa, n0, m0, ta, tb, ca, hP.symm, hpa, R0⟩
      · simp at hP; exact ⟨pb, n1, m1, tc, td, cb, hP.symm, hpb, R1⟩
      · simp at hP
    obtain ⟨oI, hoI, _⟩ := id hW.1
    have hiI : (I, oI) ∈ X := hX2 oI hoI
    have S2' := S2.sub (led' := y.led D (((L, oL) :: led) ++ X)) fun p hp => by
      rcases List.mem_cons.mp hp with rfl | hp
      · exact .head _
      · rcases List.mem_append.mp hp with hp | hp
        · exact .tail _ (List.mem_append_left _ (List.mem_append_left _ hp))
        · rcases List.mem_append.mp hp with hp | hp
          · exact .tail _ (List.mem_append_left _ (List.mem_append_right _ hp))
          · exact .tail _ (List.mem_append_right _ hp)
    refine owned_list hW.1 (assign_Tuple_tuple hh ⟨_, S2'.get (Acc.mem_base (List.mem_append_left _ (.tail _ hmem))), rfl, cc, rfl⟩ rfl rfl fun h3 k3 => ?_)
    have S3 := S2'.kp fun b o e => k3 b o (Nat.ne_of_lt (Heap.lt_size e)) e
    show wpAny _ _ (assignInOrder [assign (.Name _ _) _, assign (.Name _ _) _] [_, _]) _ _ _
    refine assignInOrder_cons (PyProof.Rows.assign_Name (wpAny_storeName_local rfl S3.F.ns (fun h4 hns4 hs4 => ?_) rfl))
    have S4 := S3.store hns4 hs4
    refine assignInOrder_cons (PyProof.Rows.assign_Name (wpAny_storeName_local rfl S4.F.ns (fun h5 hns5 hs5 => assignInOrder_nil ?_) rfl))
    have S5 := S4.store hns5 hs5
    refine lev1 (Z := [I, L, D]) (base := ((L, oL) :: led) ++ X) hh S5 hy (by have : i < 2 := hi; omega) (fun p hp => ?_) (.tail _ (.tail _ (.head _))) (fun y hy => ?_) ((if_neg (by decide)).trans (if_pos rfl)) (if_pos rfl) (List.mem_append_left _ (.tail _ hz)) hoz hR z0 bz fun h' tk' m' x₁ S6 hx1 => ⟨h', tk', m', x₁, rfl, S6.sub fun p hp => ?_, by
      have e : 4 * i + 4 = 4 * (i + 1) := by omega
      exact e ▸ hx1⟩
    · rcases List.mem_append.mp hp with hp | hp
      · rcases List.mem_cons.mp hp with rfl | hp
        · exact d2
        · exact d3 p hp
      · rw [hX1 p hp]; exact hID
    · rcases List.mem_cons.mp hy with rfl | hy
      · exact .inr ⟨oI, List.mem_append_right _ hiI⟩
      · rcases List.mem_cons.mp hy with rfl | hy
        · exact .inr ⟨oL, .head _⟩
        · exact .inl (List.mem_singleton.mp hy)
    · rcases List.mem_append.mp hp with hp | hp
      · exact Acc.led_base (fun p hp => List.mem_append_left _ hp) p hp
      · exact Acc.mem_base (List.mem_append_right _ hp)
  · intro h' tk m' y S6 hy
    refine ⟨m', S6.F.ns, fun h'' hs => q h'' tk D y ⟨fun _ _ hz => (nomatch hz), by simpa using hy.size, hy.good, hy.quad⟩ ?_⟩
    have gL : h''.get? L = some oL := (hs.2 L c2).trans (S6.get (Acc.mem_base (.head _)))
    refine ⟨⟨⟨oL, es, ep, gL, hoL2⟩, fun b o e => (hs.2 b fun q => by rw [q, c1] at e; cases e).trans (S6.F.keep b o e), S.F.above⟩, fun p hp => ?_⟩
    have hp' : p ∈ y.led D ((L, oL) :: led) := Acc.led_base (fun p hp => .tail _ hp) p hp
    have := S6.N p hp'
    refine ⟨(hs.2 p.1 this.2.1).trans this.1, ?_, this.2.2⟩
    rcases List.mem_cons.mp hp with rfl | hp
    · exact Ne.symm d2
    · rcases List.mem_append.mp hp with hp | hp
      · exact fun e => hy.off p hp (e ▸ .tail _ (.head _))
      · exact (S.N p hp).2.1
end
end Mine

namespace Mine
open PySem PySem.W PyProof.Rows PySem.Calls

def ost (i : Nat) : Stmt := outerBody.getD i (.Pass default)
theorem outer_eq : outerBody = [ost 0, ost 1, ost 2, ost 3, ost 4] := by rfl

/-- one entry changed, wherever it stands -/
theorem St.updG {h₀ h h' : Heap} {L c : Addr} {o o' : Obj} {m : Str → Option Value} {led led' : List (Addr × Obj)} (S : St h₀ L h m led) (hc : (c, o) ∈ led) (hs : Heap.SameBut c h h') (ho : h'.get? c = some o')
    (hl : ∀ p ∈ led', p = (c, o') ∨ (p ∈ led ∧ p.1 ≠ c)) : St h₀ L h' m led' := by
  have hc' := S.N _ hc
  refine ⟨⟨S.F.ns.sameBut hs (Ne.symm hc'.2.1), fun b ob e => (hs.2 b fun q => ?_).trans (S.F.keep b ob e), S.F.above⟩, fun p hp => ?_⟩
  · rw [q, hc'.2.2] at e; cases e
  · rcases hl p hp with rfl | ⟨hp, hne⟩
    · exact ⟨ho, hc'.2⟩
    · exact ⟨(hs.2 _ hne).trans (S.N p hp).1, (S.N p hp).2⟩

section
variable {prog : Program} {w : World} {A : Around} {E : Value → Shared → Prop} {s : Shared}

theorem ev_row {Q : Value → Shared → Prop} {env : Env} {sl : PySem.Expr} {x : Str} {p p' : Pos} {a : Addr} {vs : Array Value} {ns : List Int} {g : Nat} {k : Int} (hrow : NameIs env s.heap x (.ref a)) (hl : s.heap.IsList a vs) (hi : IntsAre vs.toList ns) (hsl : IEv env s.heap sl g k)
    (lo : -(ns.length : Int) ≤ k) (hk : k < ns.length) (h100 : ns.length ≤ 100) (q : ∀ x t tk, x ∈ ns → Q (.int x t) { s with toks := tk })
    (hs : ∀ u, subscripted sl false (.ref a) (.int k u) = operate [.ref a, .int k u] (getItem (.ref a) (.int k u)) := by intro _; with_unfolding_all rfl) :
    wpAny (model prog w) A (eval (.Subscript (.Name x p) sl p') env) Q E s := by
  have hlen := IntsAre.length hi
  rw [Array.length_toList] at hlen
  refine Subscript_ (hrow _ _ _ _ _ _ rfl (hsl.run rfl fun u tk => tail_any hl.typeIs slot_list_getitem.lookup ?_ (hs u)))
  have key : ∀ j : Nat, j < ns.length → ∃ i t, vs[j]? = some (.int i t) ∧ i ∈ ns := fun j hj => by
    obtain ⟨t, ht⟩ := hi.get j ns[j] (by simp [hj])
    exact ⟨ns[j], t, by simpa using ht, List.getElem_mem hj⟩
  by_cases c : 0 ≤ k
  · obtain ⟨i, t, hv, hm⟩ := key k.toNat (by omega)
    exact wpAny_getItem_list hl c (by omega) hv (q _ _ _ hm)
  · obtain ⟨i, t, hv, hm⟩ := key (k + vs.size).toNat (by omega)
    exact wpAny_getItem_list_neg hl (by omega) (by omega) (by omega) hv (q _ _ _ hm)

variable {Q : Flow → Shared → Prop} {h₀ : Heap} {L fa : Addr} {cd : Value} {m : Str → Option Value} {rest : List (Addr × Obj)} {oz on om : Obj} {vz vn vm : Option Value}

abbrev cells (L : Addr) (oz on om : Obj) (rest : List (Addr × Obj)) : List (Addr × Obj) := (L + 1, oz) :: (L + 1 + 1, on) :: (L + 1 + 1 + 1, om) :: rest

theorem st_xyz {rowA : Addr} {rowVs : Array Value} {rc : Nat} {ns : List Int} {i : Int} {ti : Tok} (hh : A.handled = none) (S : St h₀ L s.heap m (cells L oz on om rest)) (hoz : oz.data = .cell vz) (hr : ∀ p ∈ rest, p.1 ≠ L + 1)
    (hrow : m (Str.ofString "row") = some (.ref rowA)) (hrA : (rowA, lst rowVs rc) ∈ rest) (hI : IntsAre rowVs.toList ns) (h100 : ns.length ≤ 100) (h3 : 2 ≤ ns.length)
    (hi : m (Str.ofString "i") = some (.int i ti)) (i0 : 0 ≤ i) (i1 : i < ns.length)
    (q : ∀ h' tk x y z tx ty tz oz', x ∈ ns → y ∈ ns → z ∈ ns → oz'.data = .cell (some (.int z tz)) → St h₀ L h' (ups (ups m (Str.ofString "x") (.int x tx)) (Str.ofString "y") (.int y ty)) (cells L oz' on om rest) → Q .next { s with heap := h', toks := tk }) :
    wpAny (model prog w) A (exec (ost 0) (lawEnv L fa cd)) Q E s := by
  show wpAny _ _ (exec (.Assign [.Tuple [.Name _ _, .Name _ _, .Name _ _] _ _] (.Tuple [.Subscript (.Name _ _) _ _, .Subscript (.Name _ _) _ _, .Subscript (.Name _ _) _ _] _ _) _) (lawEnv L fa cd)) _ _ _
  have bi : Bd 8 i := by unfold Bd; omega
  have d1 : Bd 1 (1 : Int) := by unfold Bd; decide
  have d2 : Bd 2 (2 : Int) := by unfold Bd; decide
  have hl : s.heap.IsList rowA rowVs := ⟨_, S.get (.tail _ (.tail _ (.tail _ hrA))), rfl, rc, rfl⟩
  have nr : NameIs (lawEnv L fa cd) s.heap (Str.ofString "row") (.ref rowA) := .loc S.F.ns hrow rfl rfl (by decide)
  have ni : NameIs (lawEnv L fa cd) s.heap (Str.ofString "i") (.int i ti) := .loc S.F.ns hi rfl rfl (by decide)
  refine Assign_Tuple (Tuple_ ?_) (by rfl) (by rfl)
  refine args_cons (ev_row nr hl hI (.name ni bi) (by omega) i1 h100 fun x tx tk1 hx => ?_)
  refine args_cons (ev_row nr hl hI (.sub (.name ni bi) (.const d1)) (by omega) (by omega) h100 fun y ty tk2 hy => ?_)
  refine args_cons (ev_row nr hl hI (.sub (.name ni bi) (.const d2)) (by omega) (by omega) h100 fun z tz tk3 hz => args_nil ?_)
  refine wpAny_newObj_type ?_ (by size_fits)
  have S1 := (S.push (tup #[.int x tx, .int y ty, .int z tz] 0)).sub (led' := cells L oz on om rest) fun p hp => .tail _ hp
  refine assign_Tuple_tuple (items := #[.int x tx, .int y ty, .int z tz]) hh ⟨_, Heap.get?_push_size _ rfl, rfl, 0, rfl⟩ rfl rfl fun h2 k2 => ?_
  have S2 := S1.kp fun b o e => k2 b o (Nat.ne_of_lt (Heap.lt_size e)) e
  show wpAny _ _ (assignInOrder [assign (.Name _ _) _, assign (.Name _ _) _, assign (.Name _ _) _] [_, _, _]) _ _ _
  refine assignInOrder_cons (PyProof.Rows.assign_Name (wpAny_storeName_local rfl S2.F.ns (fun h4 hns4 hs4 => ?_) rfl))
  have S4 := S2.store hns4 hs4
  refine assignInOrder_cons (PyProof.Rows.assign_Name (wpAny_storeName_local rfl S4.F.ns (fun h5 hns5 hs5 => ?_) rfl))
  have S5 := S4.store hns5 hs5
  refine assignInOrder_cons (PyProof.Rows.assign_Name (wpAny_storeName_cell rfl rfl rfl ⟨oz, S5.get (.head _), hoz⟩ fun h6 hv6 hs6 => assignInOrder_nil ?_))
  obtain ⟨oz', hoz', hdz'⟩ := hv6
  refine q h6 _ x y z tx ty tz oz' hx hy hz hdz' (S5.updG (.head _) hs6 hoz' fun p hp => ?_)
  rcases List.mem_cons.mp hp with rfl | hp
  · exact .inl rfl
  · refine .inr ⟨.tail _ hp, ?_⟩
    rcases List.mem_cons.mp hp with rfl | hp
    · exact Nat.ne_of_gt (Nat.lt_succ_self _)
    · rcases List.mem_cons.mp hp with rfl | hp
      · exact Nat.ne_of_gt (Nat.lt_succ_of_lt (Nat.lt_succ_self _))
      · exact hr p hp
end
end Mine

namespace Mine
open PySem PySem.W PyProof.Rows PySem.Calls

section
variable {prog : Program} {w : World} {A : Around} {E : Value → Shared → Prop} {s : Shared} {Q : Flow → Shared → Prop} {h₀ : Heap} {L fa : Addr} {cd : Value} {m : Str → Option Value} {led : List (Addr × Obj)} {oz : Obj}
  {x y z v t u : Int} {tx ty tz tv tt tu : Tok}

theorem st_vt (hh : A.handled = none) (S : St h₀ L s.heap m led) (hy : m (Str.ofString "y") = some (.int y ty)) (hz : (L + 1, oz) ∈ led) (hoz : oz.data = .cell (some (.int z tz))) (by' : Bd 1000 y) (bz : Bd 1000 z)
    (q : ∀ h' tk tv tt, St h₀ L h' (ups (ups m (Str.ofString "t") (.int (1 + z) tt)) (Str.ofString "v") (.int (1 + y.fmod 9) tv)) led → Q .next { s with heap := h', toks := tk }) :
    wpAny (model prog w) A (exec (ost 1) (lawEnv L fa cd)) Q E s := by
  show wpAny _ _ (exec (.Assign [.Tuple [.Name _ _, .Name _ _] _ _] (.Tuple [_, _] _ _) _) (lawEnv L fa cd)) _ _ _
  have ny : NameIs (lawEnv L fa cd) s.heap (Str.ofString "y") (.int y ty) := .loc S.F.ns hy rfl rfl (by decide)
  have nz : NameIs (lawEnv L fa cd) s.heap (Str.ofString "z") (.int z tz) := .cel ⟨oz, S.get hz, hoz⟩ rfl rfl rfl (by decide)
  have d1 : Bd 1 (1 : Int) := by unfold Bd; decide
  have d9 : Bd 4 (9 : Int) := by unfold Bd; decide
  refine Assign_Tuple_swapped (names := [Str.ofString "v", Str.ofString "t"]) (Tuple_ ?_) (by rfl) (by rfl)
  refine args_cons ((IEv.add (.const d1) (.mod (.name ny by') (.const d9) (by decide))).run rfl fun tv tk0 => ?_)
  refine args_cons ((IEv.add (.const d1) (.name nz bz)).run rfl fun tt tk1 => args_nil ?_)
  refine wpAny_newObj_type ?_ (by size_fits)
  have S1 := (S.push (tup #[.int (1 + y.fmod 9) tv, .int (1 + z) tt] 0)).sub (led' := led) fun p hp => .tail _ hp
  refine unpackItems_tuple (items := #[.int (1 + y.fmod 9) tv, .int (1 + z) tt]) hh ⟨_, Heap.get?_push_size _ rfl, rfl, 0, rfl⟩ fun h2 k2 => ?_
  have S2 := S1.kp fun b o e => k2 b o (Nat.ne_of_lt (Heap.lt_size e)) e
  refine assignInOrder_cons (wpAny_bindName (wpAny_storeName_local rfl S2.F.ns (fun h3 hns3 hs3 => ?_) rfl))
  have S3 := S2.store hns3 hs3
  refine assignInOrder_cons (wpAny_bindName (wpAny_storeName_local rfl S3.F.ns (fun h4 hns4 hs4 => ?_) rfl))
  exact assignInOrder_nil (q h4 _ tv tt (S3.store hns4 hs4))

theorem st_u (S : St h₀ L s.heap m led) (hx : m (Str.ofString "x") = some (.int x tx)) (hv : m (Str.ofString "v") = some (.int v tv)) (bx : Bd 1000 x) (bv : Bd 5 v)
    (q : ∀ h' tk tu, St h₀ L h' (ups m (Str.ofString "u") (.int (v + 1 + x.fmod 9) tu)) led → Q .next { s with heap := h', toks := tk }) :
    wpAny (model prog w) A (exec (ost 2) (lawEnv L fa cd)) Q E s := by
  show wpAny _ _ (exec (.Assign [.Name _ _] (.BinOp _ _ _ _) _) (lawEnv L fa cd)) _ _ _
  have nx : NameIs (lawEnv L fa cd) s.heap (Str.ofString "x") (.int x tx) := .loc S.F.ns hx rfl rfl (by decide)
  have nv : NameIs (lawEnv L fa cd) s.heap (Str.ofString "v") (.int v tv) := .loc S.F.ns hv rfl rfl (by decide)
  have d1 : Bd 1 (1 : Int) := by unfold Bd; decide
  have d9 : Bd 4 (9 : Int) := by unfold Bd; decide
  refine wpAny_Assign_Name ((IEv.add (.add (.name nv bv) (.const d1)) (.mod (.name nx bx) (.const d9) (by decide))).run rfl fun tu tk => ?_) (by rfl)
  exact wpAny_storeName_local rfl S.F.ns (fun h3 hns3 hs3 => q h3 _ tu (S.store hns3 hs3)) rfl

theorem st_ratios (S : St h₀ L s.heap m led) (hx : m (Str.ofString "x") = some (.int x tx)) (hy : m (Str.ofString "y") = some (.int y ty)) (hv : m (Str.ofString "v") = some (.int v tv)) (ht : m (Str.ofString "t") = some (.int t tt)) (hu : m (Str.ofString "u") = some (.int u tu))
    (bx : Bd 1000 x) (by' : Bd 1000 y) (bv : Bd 5 v) (bt : Bd 1010 t) (bu : Bd 7 u) (y0 : 0 ≤ y)
    (q : ∀ h' tk rA pa pb ta tb tc td, St h₀ L h' (ups m (Str.ofString "ratios") (.ref rA)) ((rA, lst #[.ref pa, .ref pb] 0) :: (pb, tup #[.int (u * u * t) tc, .int (v * v * t) td] 0) :: (pa, tup #[.int (y + 2 + x.fmod (8 * y + 8)) ta, .int (y + 1) tb] 0) :: led) → Q .next { s with heap := h', toks := tk }) :
    wpAny (model prog w) A (exec (ost 3) (lawEnv L fa cd)) Q E s := by
  show wpAny _ _ (exec (.Assign [.Name _ _] (.List [.Tuple [_, _] _ _, .Tuple [_, _] _ _] _) _) (lawEnv L fa cd)) _ _ _
  have nn {h : Heap} {m₁ : Str → Option Value} {x : Str} {v : Value} (hns : h.Ns (lawEnv L fa cd).locals m₁) (hx : m₁ x = some v) (hk : (lawEnv L fa cd).kindOf x = some .local) (hdb : (x == ("__debug__" : Str)) = false) : NameIs (lawEnv L fa cd) h x v := .loc hns hx rfl hk hdb
  have d1 : Bd 1 (1 : Int) := by unfold Bd; decide
  have d2 : Bd 2 (2 : Int) := by unfold Bd; decide
  have d8 : Bd 4 (8 : Int) := by unfold Bd; decide
  refine wpAny_Assign_Name (List_ (args_cons (Tuple_ ?_))) (by rfl)
  have nx := nn S.F.ns hx rfl (by decide)
  have ny := nn S.F.ns hy rfl (by decide)
  refine args_cons ((IEv.add (.add (.name ny by') (.const d2)) (.mod (.name nx bx) (.add (.mul (.const d8) (.name ny by') (by decide)) (.const d8)) (by omega))).run rfl fun ta tka => ?_)
  refine args_cons ((IEv.add (.name ny by') (.const d1)).run rfl fun tb tkb => args_nil ?_)
  refine wpAny_newObj_type ?_ (by size_fits)
  dsimp only
  have S1 := S.push (tup #[.int (y + 2 + x.fmod (8 * y + 8)) ta, .int (y + 1) tb] 0)
  refine args_cons (Tuple_ ?_)
  have nv := nn S1.F.ns hv rfl (by decide)
  have nt := nn S1.F.ns ht rfl (by decide)
  have nu := nn S1.F.ns hu rfl (by decide)
  refine args_cons ((IEv.mul (.mul (.name nu bu) (.name nu bu) (by decide)) (.name nt bt) (by decide)).run rfl fun tc tkc => ?_)
  refine args_cons ((IEv.mul (.mul (.name nv bv) (.name nv bv) (by decide)) (.name nt bt) (by decide)).run rfl fun td tkd => args_nil ?_)
  refine wpAny_newObj_type ?_ (by size_fits)
  dsimp only
  have S2 := S1.push (tup #[.int (u * u * t) tc, .int (v * v * t) td] 0)
  refine args_nil (wpAny_newObj_type ?_ (by size_fits))
  dsimp only
  have S3 := S2.push (lst #[.ref s.heap.objs.size, .ref (s.heap.push (tup #[.int (y + 2 + x.fmod (8 * y + 8)) ta, .int (y + 1) tb] 0)).objs.size] 0)
  exact wpAny_storeName_local rfl S3.F.ns (fun h3 hns3 hs3 => q h3 _ _ _ _ ta tb tc td (S3.store hns3 hs3)) rfl
end
end Mine

namespace Mine
open PySem PySem.W PyProof.Rows PySem.Calls

theorem St.apart {h₀ h : Heap} {L a b : Addr} {o o' : Obj} {m : Str → Option Value} {led : List (Addr × Obj)} (S : St h₀ L h m led) (ha : (a, o) ∈ led) (hb : (b, o') ∈ led) (hd : o.data ≠ o'.data) : a ≠ b := fun e => by
  have h1 := S.get ha
  rw [e, S.get hb] at h1
  cases h1
  exact hd rfl

/-- the names that a turn of the inner loop stores, cells left out -/
def quadNames : List Str := Str.ofString "start" :: Str.ofString "less" :: innerNames

section
variable {prog : Program} {w : World} {A : Around} {E : Value → Shared → Prop} {s : Shared} {Q : Flow → Shared → Prop} {mg mb : Str → Option Value} {f : Addr} {fd : FuncData} {h₀ : Heap} {L fa : Addr} {cd : Value} {m : Str → Option Value} {rest : List (Addr × Obj)} {oz on om : Obj}
  {z t : Int} {tz tt tp : Tok} {tN : Nat} {vn vm : Option Value}

theorem st_for {rA pa pb : Addr} {c ca cb : Nat} {n0 m0 n1 m1 : Int} {ta tb tc td : Tok} (T : TF mg mb f fd h₀) (hh : A.handled = none) (hd : A.depth < recursionLimit) (hu : A.units + 64 < cLine) (S : St h₀ L s.heap m (cells L oz on om rest))
    (hon : on.data = .cell vn) (hom : om.data = .cell vm) (hr : m (Str.ofString "ratios") = some (.ref rA)) (hrA : (rA, lst #[.ref pa, .ref pb] c) ∈ rest) (hpa : (pa, tup #[.int n0 ta, .int m0 tb] ca) ∈ rest) (hpb : (pb, tup #[.int n1 tc, .int m1 td] cb) ∈ rest)
    (R0 : Ratio n0 m0) (R1 : Ratio n1 m1) (hoz : oz.data = .cell (some (.int z tz))) (z0 : 0 ≤ z) (bz : Bd 1010 z)
    (htp : m (Str.ofString "top") = some (.int (tN : Int) tp)) (htt : m (Str.ofString "t") = some (.int t tt)) (bt : Bd 1010 t) (t0 : 0 < t) (h64 : tN < 64)
    (hrest : ∀ p ∈ rest, p.1 ≠ L + 1 + 1 ∧ p.1 ≠ L + 1 + 1 + 1)
    (q : ∀ h' tk m' on' om' vn' vm', on'.data = .cell vn' → om'.data = .cell vm' → (∀ y, y ∉ quadNames → m' y = m y) → St h₀ L h' m' (cells L oz on' om' rest) → Q .next { s with heap := h', toks := tk }) :
    wpAny (model prog w) A (exec (ost 4) (lawEnv L fa cd)) Q E s := by
  show wpAny _ _ (exec (.For (.Tuple [.Name _ _, .Name _ _, .Name _ _, .Name _ _] _ _) innerIter innerBody [] _) (lawEnv L fa cd)) _ _ _
  refine wpAny_For ?_ (fun _ => rfl)
  refine ev_quads hh S hr (.tail _ (.tail _ (.tail _ hrA))) (.tail _ (.tail _ (.tail _ hpa))) (.tail _ (.tail _ (.tail _ hpb))) R0 R1 (.head _) hoz z0 bz fun h1 tk1 D x hx S1 => ?_
  have hl : h1.IsList D x.ys := ⟨_, S1.get (.head _), rfl, x.c, rfl⟩
  refine wpAny_pyIter_list hl ?_
  dsimp only
  have S2 := S1.sub (led' := cells L oz on om ((D, lst x.ys x.c) :: (x.ts ++ rest))) fun p hp => by
    rcases List.mem_cons.mp hp with rfl | hp
    · exact Acc.mem_base (.head _)
    · rcases List.mem_cons.mp hp with rfl | hp
      · exact Acc.mem_base (.tail _ (.head _))
      · rcases List.mem_cons.mp hp with rfl | hp
        · exact Acc.mem_base (.tail _ (.tail _ (.head _)))
        · rcases List.mem_cons.mp hp with rfl | hp
          · exact .head _
          · rcases List.mem_append.mp hp with hp | hp
            · exact .tail _ (List.mem_append_left _ hp)
            · exact Acc.mem_base (.tail _ (.tail _ (.tail _ hp)))
  have hfresh : h1.get? h1.objs.size = none := get_none (Nat.le_refl _)
  obtain ⟨o1, o2, o3⟩ := S2.out hfresh
  have hDI : D ≠ h1.objs.size := o3 (D, lst x.ys x.c) (.tail _ (.tail _ (.tail _ (.head _))))
  have W := Walks.list (prog := prog) (w := w) hh h1.objs.size D hDI x.ys
  generalize hH : h1.push { cls := .type "list_iterator", data := .fields #[.ref D, .int 0 0] } = H
  have hkp : Kp h1 H := fun b o e => by rw [← hH]; exact Heap.get?_push_of_some _ e
  have hst : H.IsListIter h1.objs.size D 0 ∧ H.IsList D x.ys := ⟨⟨_, by rw [← hH]; exact Heap.get?_push_size _ rfl, rfl, rfl⟩, hl.at fun o e => hkp _ _ e⟩
  have S3 := S2.kp hkp
  have apt : ∀ {h : Heap} {m₁ : Str → Option Value} {on' om' : Obj} {vn' vm' : Option Value} {X : List (Addr × Obj)}, on'.data = .cell vn' → om'.data = .cell vm' → (∀ p ∈ X, p.1 = h1.objs.size) → St h₀ L h m₁ (cells L oz on' om' ((D, lst x.ys x.c) :: (x.ts ++ rest)) ++ X) →
      ∀ p ∈ (D, lst x.ys x.c) :: (x.ts ++ rest) ++ X, p.1 ≠ L + 1 + 1 ∧ p.1 ≠ L + 1 + 1 + 1 := by
    intro h m₁ on' om' vn' vm' X d1 d2 hX S p hp
    rcases List.mem_append.mp hp with hp | hp
    · rcases List.mem_cons.mp hp with rfl | hp
      · exact ⟨S.apart (.tail _ (.tail _ (.tail _ (.head _)))) (.tail _ (.head _)) (by rw [d1]; exact fun e => by cases e), S.apart (.tail _ (.tail _ (.tail _ (.head _)))) (.tail _ (.tail _ (.head _))) (by rw [d2]; exact fun e => by cases e)⟩
      · rcases List.mem_append.mp hp with hp' | hp
        · obtain ⟨a, o⟩ := p
          obtain ⟨n, mm, st, le, t1, t2, t3, t4, cc, rfl, _⟩ := hx.quad _ hp'
          have hm : (a, tup #[.int n t1, .int mm t2, .int st t3, .int le t4] cc) ∈ cells L oz on' om' ((D, lst x.ys x.c) :: (x.ts ++ rest)) ++ X := List.mem_append_left _ (.tail _ (.tail _ (.tail _ (.tail _ (List.mem_append_left _ hp')))))
          exact ⟨S.apart hm (.tail _ (.head _)) (by rw [d1]; exact fun e => by cases e), S.apart hm (.tail _ (.tail _ (.head _))) (by rw [d2]; exact fun e => by cases e)⟩
        · exact hrest p hp
    · rw [hX p hp]
      exact ⟨Ne.symm (o3 (L + 1 + 1, on) (.tail _ (.head _))), Ne.symm (o3 (L + 1 + 1 + 1, om) (.tail _ (.tail _ (.head _))))⟩
  refine for_loop (s := { s with heap := H, toks := tk1 }) (h₀ := h₀) (L := L) W (fun y : Obj × Obj => cells L oz y.1 y.2 ((D, lst x.ys x.c) :: (x.ts ++ rest)))
    (fun _ y m₁ => (∃ vn', y.1.data = .cell vn') ∧ (∃ vm', y.2.data = .cell vm') ∧ ∀ k, k ∉ quadNames → m₁ k = m k) o1 o2 (fun y p hp => ?_) (fun b hb => ?_) ?_ (on, om) m hst S3 ⟨⟨vn, hon⟩, ⟨vm, hom⟩, fun _ _ => rfl⟩ ?_
  · rcases List.mem_cons.mp hp with rfl | hp
    · exact o3 (L + 1, oz) (.head _)
    · rcases List.mem_cons.mp hp with rfl | hp
      · exact o3 (L + 1 + 1, on) (.tail _ (.head _))
      · rcases List.mem_cons.mp hp with rfl | hp
        · exact o3 (L + 1 + 1 + 1, om) (.tail _ (.tail _ (.head _)))
        · exact o3 p (.tail _ (.tail _ (.tail _ hp)))
  · rcases List.mem_cons.mp hb with rfl | hb
    · exact .inl rfl
    · rw [List.mem_singleton.mp hb]
      exact .inr ⟨_, fun y => .tail _ (.tail _ (.tail _ (.head _)))⟩
  · rintro i v ⟨on', om'⟩ m₁ h tk X hi hP ⟨⟨vn', hon'⟩, ⟨vm', hom'⟩, hm₁⟩ hX1 hX2 hW S4
    have hv : v ∈ x.ys.toList := by
      have : x.ys[i]? = some v := hP
      exact List.mem_of_getElem? (by simpa using this)
    obtain ⟨a, o, rfl, hao, n, mm, st, le, t1, t2, t3, t4, cc, rfl, ⟨m0', nm0, bn, bm⟩, st0, bst, hle⟩ := hx.good v hv
    have hmem : (a, tup #[.int n t1, .int mm t2, .int st t3, .int le t4] cc) ∈ cells L oz on' om' ((D, lst x.ys x.c) :: (x.ts ++ rest)) ++ X := List.mem_append_left _ (.tail _ (.tail _ (.tail _ (.tail _ (List.mem_append_left _ hao)))))
    have hap := apt hon' hom' hX1 S4
    refine owned_list hW.1 (assign_Tuple_tuple hh ⟨_, S4.get hmem, rfl, cc, rfl⟩ rfl rfl fun h5 k5 => ?_)
    have S5 := S4.kp fun b o e => k5 b o (Nat.ne_of_lt (Heap.lt_size e)) e
    show wpAny _ _ (assignInOrder [assign (.Name _ _) _, assign (.Name _ _) _, assign (.Name _ _) _, assign (.Name _ _) _] [_, _, _, _]) _ _ _
    refine assignInOrder_cons (PyProof.Rows.assign_Name (wpAny_storeName_cell rfl rfl rfl ⟨on', S5.get (.tail _ (.head _)), hon'⟩ fun h6 hv6 hs6 => ?_))
    obtain ⟨on2, hon2, hdn2⟩ := hv6
    have S6 := S5.updG (led' := cells L oz on2 om' ((D, lst x.ys x.c) :: (x.ts ++ rest)) ++ X) (.tail _ (.head _)) hs6 hon2 fun p hp => by
      rcases List.mem_cons.mp hp with rfl | hp
      · exact .inr ⟨.head _, Nat.ne_of_lt (Nat.lt_succ_self _)⟩
      · rcases List.mem_cons.mp hp with rfl | hp
        · exact .inl rfl
        · rcases List.mem_cons.mp hp with rfl | hp
          · exact .inr ⟨.tail _ (.tail _ (.head _)), Nat.ne_of_gt (Nat.lt_succ_self _)⟩
          · exact .inr ⟨.tail _ (.tail _ (.tail _ hp)), (hap p hp).1⟩
    refine assignInOrder_cons (PyProof.Rows.assign_Name (wpAny_storeName_cell rfl rfl rfl ⟨om', S6.get (.tail _ (.tail _ (.head _))), hom'⟩ fun h7 hv7 hs7 => ?_))
    obtain ⟨om2, hom2, hdm2⟩ := hv7
    have S7 := S6.updG (led' := cells L oz on2 om2 ((D, lst x.ys x.c) :: (x.ts ++ rest)) ++ X) (.tail _ (.tail _ (.head _))) hs7 hom2 fun p hp => by
      rcases List.mem_cons.mp hp with rfl | hp
      · exact .inr ⟨.head _, Nat.ne_of_lt (Nat.lt_succ_of_lt (Nat.lt_succ_self _))⟩
      · rcases List.mem_cons.mp hp with rfl | hp
        · exact .inr ⟨.tail _ (.head _), Nat.ne_of_lt (Nat.lt_succ_self _)⟩
        · rcases List.mem_cons.mp hp with rfl | hp
          · exact .inl rfl
          · exact .inr ⟨.tail _ (.tail _ (.tail _ hp)), (hap p hp).2⟩
    refine assignInOrder_cons (PyProof.Rows.assign_Name (wpAny_storeName_local rfl S7.F.ns (fun h8 hns8 hs8 => ?_) rfl))
    have S8 := S7.store hns8 hs8
    refine assignInOrder_cons (PyProof.Rows.assign_Name (wpAny_storeName_local rfl S8.F.ns (fun h9 hns9 hs9 => assignInOrder_nil ?_) rfl))
    have S9 := S8.store hns9 hs9
    have off9 : ∀ k, k ∉ quadNames → ups (ups m₁ (Str.ofString "start") (.int st t3)) (Str.ofString "less") (.int le t4) k = m k := fun k hk => by
      simp only [quadNames, List.mem_cons, not_or] at hk
      exact (if_neg hk.2.1).trans ((if_neg hk.1).trans (hm₁ k (by simp only [quadNames, List.mem_cons, not_or]; exact hk)))
    refine inner_body T S9 hh hd hu ((if_neg (by decide)).trans (if_pos rfl)) ((off9 _ (by decide)).trans htp) (if_pos rfl) ((off9 _ (by decide)).trans htt) (.tail _ (.head _)) hdn2 (.tail _ (.tail _ (.head _))) hdm2
      bn bm bst bt m0' nm0 t0 st0 hle h64 fun h' tk' m' hm' S10 => ⟨rfl, h', tk', m', (on2, om2), rfl, S10, ⟨_, hdn2⟩, ⟨_, hdm2⟩, fun k hk => ?_⟩
    exact (hm' k fun hin => hk (.tail _ (.tail _ hin))).trans (off9 k hk)
  · rintro h' tk m' ⟨on', om'⟩ S11 ⟨⟨vn', hon'⟩, ⟨vm', hom'⟩, hm'⟩
    refine q h' tk m' on' om' vn' vm' hon' hom' hm' (S11.sub fun p hp => ?_)
    rcases List.mem_cons.mp hp with rfl | hp
    · exact .head _
    · rcases List.mem_cons.mp hp with rfl | hp
      · exact .tail _ (.head _)
      · rcases List.mem_cons.mp hp with rfl | hp
        · exact .tail _ (.tail _ (.head _))
        · exact .tail _ (.tail _ (.tail _ (.tail _ (List.mem_append_right _ hp))))
end
end Mine

namespace Mine
open PySem PySem.W PyProof.Rows PySem.Calls

def outerNames : List Str := Str.ofString "x" :: Str.ofString "y" :: Str.ofString "v" :: Str.ofString "t" :: Str.ofString "u" :: Str.ofString "ratios" :: quadNames

theorem ratio_one {x y : Int} (hy : 0 ≤ y) (by' : Bd 1000 y) : Ratio (y + 2 + x.fmod (8 * y + 8)) (y + 1) := by
  have h1 := Int.fmod_nonneg_of_pos x (b := 8 * y + 8) (by omega)
  have d1 : Bd 1 (1 : Int) := by unfold Bd; decide
  have d2 : Bd 2 (2 : Int) := by unfold Bd; decide
  have d8 : Bd 4 (8 : Int) := by unfold Bd; decide
  exact ⟨by omega, by omega, ((by'.add d2).add (((d8.mul by').add d8).fmod (by omega))).mono (by decide), (by'.add d1).mono (by decide)⟩

theorem ratio_two {u v t : Int} (hv : 0 < v) (huv : v < u) (ht : 0 < t) (bu : Bd 7 u) (bv : Bd 5 v) (bt : Bd 1010 t) : Ratio (u * u * t) (v * v * t) := by
  refine ⟨Int.mul_pos (Int.mul_pos hv hv) ht, ?_, ((bu.mul bu).mul bt).mono (by decide), ((bv.mul bv).mul bt).mono (by decide)⟩
  have h1 : v * v < u * u := by
    have a1 : v * v ≤ v * u := Int.mul_le_mul_of_nonneg_left (by omega) (by omega)
    have a2 : v * u < u * u := Int.mul_lt_mul_of_pos_right huv (by omega)
    omega
  exact Int.mul_lt_mul_of_pos_right h1 ht

section
variable {prog : Program} {w : World} {A : Around} {E : Value → Shared → Prop} {s : Shared} {Q : Flow → Shared → Prop} {mg mb : Str → Option Value} {f : Addr} {fd : FuncData} {h₀ : Heap} {L fa : Addr} {cd : Value} {m : Str → Option Value} {rest : List (Addr × Obj)} {oz on om : Obj}
  {tp : Tok} {tN : Nat} {vz vn vm : Option Value}

theorem outer_body {rowA : Addr} {rowVs : Array Value} {rc : Nat} {ns : List Int} {i : Int} {ti : Tok} (T : TF mg mb f fd h₀) (hh : A.handled = none) (hd : A.depth < recursionLimit) (hu : A.units + 64 < cLine) (S : St h₀ L s.heap m (cells L oz on om rest))
    (hoz : oz.data = .cell vz) (hon : on.data = .cell vn) (hom : om.data = .cell vm) (hrest : ∀ p ∈ rest, p.1 ≠ L + 1 ∧ p.1 ≠ L + 1 + 1 ∧ p.1 ≠ L + 1 + 1 + 1)
    (hrow : m (Str.ofString "row") = some (.ref rowA)) (hrA : (rowA, lst rowVs rc) ∈ rest) (hI : IntsAre rowVs.toList ns) (h100 : ns.length ≤ 100) (h3 : 2 ≤ ns.length) (hns : ∀ x ∈ ns, 0 ≤ x ∧ Bd 1000 x)
    (hi : m (Str.ofString "i") = some (.int i ti)) (i0 : 0 ≤ i) (i1 : i < ns.length) (htp : m (Str.ofString "top") = some (.int (tN : Int) tp)) (h64 : tN < 64)
    (q : ∀ h' tk m' oz' on' om' vz' vn' vm', oz'.data = .cell vz' → on'.data = .cell vn' → om'.data = .cell vm' → (∀ y, y ∉ outerNames → m' y = m y) → St h₀ L h' m' (cells L oz' on' om' rest) → Q .next { s with heap := h', toks := tk }) :
    wpAny (model prog w) A (execs outerBody (lawEnv L fa cd)) Q E s := by
  rw [outer_eq]
  refine wpAny_execs_cons (st_xyz hh S hoz (fun p hp => (hrest p hp).1) hrow hrA hI h100 h3 hi i0 i1 fun h1 tk1 x y z tx ty tz oz1 hx hy hz hoz1 S1 => ?_)
  obtain ⟨x0, bx⟩ := hns x hx
  obtain ⟨y0, by'⟩ := hns y hy
  obtain ⟨z0, bz⟩ := hns z hz
  refine wpAny_execs_cons (st_vt hh S1 (if_pos rfl) (.head _) hoz1 by' bz fun h2 tk2 tv tt S2 => ?_)
  have d1 : Bd 1 (1 : Int) := by unfold Bd; decide
  have d9 : Bd 4 (9 : Int) := by unfold Bd; decide
  have m9 := Int.fmod_nonneg_of_pos y (b := 9) (by decide)
  have x9 := Int.fmod_nonneg_of_pos x (b := 9) (by decide)
  have bv : Bd 5 (1 + y.fmod 9) := (d1.add (d9.fmod (by decide))).mono (by decide)
  have bt : Bd 1010 (1 + z) := (d1.add bz).mono (by decide)
  refine wpAny_execs_cons (st_u S2 ((if_neg (by decide)).trans ((if_neg (by decide)).trans ((if_neg (by decide)).trans (if_pos rfl)))) (if_pos rfl) bx bv fun h3 tk3 tu S3 => ?_)
  have bu : Bd 7 (1 + y.fmod 9 + 1 + x.fmod 9) := ((bv.add d1).add (d9.fmod (by decide))).mono (by decide)
  generalize hm3 : ups (ups (ups (ups (ups m (Str.ofString "x") (.int x tx)) (Str.ofString "y") (.int y ty)) (Str.ofString "t") (.int (1 + z) tt)) (Str.ofString "v") (.int (1 + y.fmod 9) tv)) (Str.ofString "u") (.int (1 + y.fmod 9 + 1 + x.fmod 9) tu) = m3 at S3
  have m3x : m3 (Str.ofString "x") = some (.int x tx) := by rw [← hm3]; exact (if_neg (by decide)).trans ((if_neg (by decide)).trans ((if_neg (by decide)).trans ((if_neg (by decide)).trans (if_pos rfl))))
  have m3y : m3 (Str.ofString "y") = some (.int y ty) := by rw [← hm3]; exact (if_neg (by decide)).trans ((if_neg (by decide)).trans ((if_neg (by decide)).trans (if_pos rfl)))
  have m3t : m3 (Str.ofString "t") = some (.int (1 + z) tt) := by rw [← hm3]; exact (if_neg (by decide)).trans ((if_neg (by decide)).trans (if_pos rfl))
  have m3v : m3 (Str.ofString "v") = some (.int (1 + y.fmod 9) tv) := by rw [← hm3]; exact (if_neg (by decide)).trans (if_pos rfl)
  have m3u : m3 (Str.ofString "u") = some (.int (1 + y.fmod 9 + 1 + x.fmod 9) tu) := by rw [← hm3]; exact if_pos rfl
  have m3o : ∀ k, k ∉ outerNames → m3 k = m k := fun k hk => by
    simp only [outerNames, List.mem_cons, not_or] at hk
    rw [← hm3]
    exact (if_neg hk.2.2.2.2.1).trans ((if_neg hk.2.2.1).trans ((if_neg hk.2.2.2.1).trans ((if_neg hk.2.1).trans (if_neg hk.1))))
  refine wpAny_execs_cons (st_ratios S3 m3x m3y m3v m3t m3u bx by' bv bt bu y0 fun h4 tk4 rA pa pb ta tb tc td S4 => ?_)
  have S5 := S4.sub (led' := cells L oz1 on om ((rA, lst #[.ref pa, .ref pb] 0) :: (pb, tup #[.int ((1 + y.fmod 9 + 1 + x.fmod 9) * (1 + y.fmod 9 + 1 + x.fmod 9) * (1 + z)) tc, .int ((1 + y.fmod 9) * (1 + y.fmod 9) * (1 + z)) td] 0) ::
      (pa, tup #[.int (y + 2 + x.fmod (8 * y + 8)) ta, .int (y + 1) tb] 0) :: rest)) fun p hp => by
    rcases List.mem_cons.mp hp with rfl | hp
    · exact .tail _ (.tail _ (.tail _ (.head _)))
    · rcases List.mem_cons.mp hp with rfl | hp
      · exact .tail _ (.tail _ (.tail _ (.tail _ (.head _))))
      · rcases List.mem_cons.mp hp with rfl | hp
        · exact .tail _ (.tail _ (.tail _ (.tail _ (.tail _ (.head _)))))
        · rcases List.mem_cons.mp hp with rfl | hp
          · exact .head _
          · rcases List.mem_cons.mp hp with rfl | hp
            · exact .tail _ (.head _)
            · rcases List.mem_cons.mp hp with rfl | hp
              · exact .tail _ (.tail _ (.head _))
              · exact .tail _ (.tail _ (.tail _ (.tail _ (.tail _ (.tail _ hp)))))
  have m4o : ∀ k, k ≠ Str.ofString "ratios" → ups m3 (Str.ofString "ratios") (.ref rA) k = m3 k := fun k hk => if_neg hk
  refine wpAny_execs_cons (st_for T hh hd hu S5 hon hom (if_pos rfl) (.head _) (.tail _ (.tail _ (.head _))) (.tail _ (.head _)) (ratio_one y0 by') (ratio_two (by omega) (by omega) (by omega) bu bv bt) hoz1 z0 (bz.mono (by decide))
    ((m4o _ (by decide)).trans ((m3o _ (by decide)).trans htp)) ((m4o _ (by decide)).trans m3t) bt (by omega) h64 (fun p hp => ?_) fun h6 tk6 m6 on6 om6 vn6 vm6 hon6 hom6 hm6 S6 => wpAny_execs_nil ?_)
  · rcases List.mem_cons.mp hp with rfl | hp
    · exact ⟨S5.apart (.tail _ (.tail _ (.tail _ (.head _)))) (.tail _ (.head _)) (by rw [hon]; exact fun e => by cases e), S5.apart (.tail _ (.tail _ (.tail _ (.head _)))) (.tail _ (.tail _ (.head _))) (by rw [hom]; exact fun e => by cases e)⟩
    · rcases List.mem_cons.mp hp with rfl | hp
      · exact ⟨S5.apart (.tail _ (.tail _ (.tail _ (.tail _ (.head _))))) (.tail _ (.head _)) (by rw [hon]; exact fun e => by cases e), S5.apart (.tail _ (.tail _ (.tail _ (.tail _ (.head _))))) (.tail _ (.tail _ (.head _))) (by rw [hom]; exact fun e => by cases e)⟩
      · rcases List.mem_cons.mp hp with rfl | hp
        · exact ⟨S5.apart (.tail _ (.tail _ (.tail _ (.tail _ (.tail _ (.head _)))))) (.tail _ (.head _)) (by rw [hon]; exact fun e => by cases e), S5.apart (.tail _ (.tail _ (.tail _ (.tail _ (.tail _ (.head _)))))) (.tail _ (.tail _ (.head _))) (by rw [hom]; exact fun e => by cases e)⟩
        · exact (hrest p hp).2
  · refine q h6 tk6 m6 oz1 on6 om6 _ vn6 vm6 hoz1 hon6 hom6 (fun k hk => ?_) (S6.sub fun p hp => ?_)
    · have hk' := hk
      simp only [outerNames, List.mem_cons, not_or] at hk'
      exact (hm6 k (fun hin => hk (.tail _ (.tail _ (.tail _ (.tail _ (.tail _ (.tail _ hin)))))))).trans ((m4o k hk'.2.2.2.2.2.1).trans (m3o k hk))
    · rcases List.mem_cons.mp hp with rfl | hp
      · exact .head _
      · rcases List.mem_cons.mp hp with rfl | hp
        · exact .tail _ (.head _)
        · rcases List.mem_cons.mp hp with rfl | hp
          · exact .tail _ (.tail _ (.head _))
          · exact .tail _ (.tail _ (.tail _ (.tail _ (.tail _ (.tail _ hp)))))
end
end Mine

namespace Mine
open PySem PySem.W PyProof.Rows PySem.Calls

theorem tf_of {K : Frag} {h : Heap} {mg mb : Str → Option Value} {p : Program} {loose : List Str} {f : Addr} {oc : Value} {od : Option Addr} {doc pm cdv ct : Value} {an : Option Addr} {osl : Array (Option Value)} (X : K.In h) (T : TopRead p loose mg mb h)
    (e1 : nsIn K mainGlobals (Str.ofString "isqrt") = some (some (.builtin "math.isqrt"))) (e2 : nsIn K mainGlobals rtoName = some (some (.ref f)))
    (e3 : nsIn K mainGlobals (Str.ofString "range") = some none) (e4 : nsIn K mainGlobals (Str.ofString "sorted") = some none) (e5 : nsIn K mainGlobals (Str.ofString "list") = some none)
    (ho : K.lookup f = some ⟨oc, od, .func (fnOf rtoName rtoName rtoArgs rtoBody rtoScope .none .none doc pm an cdv ct), osl⟩) (hc : codeIn K cdv rtoName = true) :
    TF mg mb f (fnOf rtoName rtoName rtoArgs rtoBody rtoScope .none .none doc pm an cdv ct) h where
  g := T.g
  b := T.b
  lim := T.nolimit
  isq := mg_of X T.g e1
  rt := mg_of X T.g e2
  rg := mg_none_of X T.g e3
  rb := (T.builtins _ (by decide)).trans boot_range
  sg := mg_none_of X T.g e4
  sb := (T.builtins _ (by decide)).trans boot_sorted
  lg := mg_none_of X T.g e5
  lb := (T.builtins _ (by decide)).trans PyProof.Rows.boot_list
  fo := ⟨_, X _ _ ho, rfl⟩
  cd := codeRec_of X hc
  body := rfl
  scope := rfl
  gl := rfl
  bl := rfl
  binds := fun s a b => BindsTo.of_eq (by rfl)

section
variable {prog : Program} {w : World} {A : Around} {E : Value → Shared → Prop} {s : Shared} {Q : Flow → Shared → Prop} {mg mb : Str → Option Value} {f : Addr} {fd : FuncData} {h₀ : Heap} {L fa : Addr} {cd : Value} {m : Str → Option Value} {rest : List (Addr × Obj)} {oz on om : Obj}
  {tp : Tok} {vz vn vm : Option Value}

/-- the outer loop, where the walk stands at it -/
theorem outer_loop {rowA r : Addr} {rowVs : List Value} {rc : Nat} {ns : List Int} {top b : Int} {t₀ u₀ v₀ : Tok} {a1 a2 a3 : Addr} {b1 b2 b3 : Obj} (T : TF mg mb f fd h₀) (hh : A.handled = none) (hd : A.depth < recursionLimit) (hu : A.units + 64 < cLine)
    (F : Fr h₀ L s.heap m) (N : News h₀ L s.heap [(rowA, lst rowVs.toArray rc), (a1, b1), (a2, b2), (a3, b3), (L + 1 + 1 + 1, om), (L + 1 + 1, on), (L + 1, oz)])
    (hoz : oz.data = .cell vz) (hon : on.data = .cell vn) (hom : om.data = .cell vm) (e1 : b1.data ≠ .cell vz ∧ b1.data ≠ .cell vn ∧ b1.data ≠ .cell vm) (e2 : b2.data ≠ .cell vz ∧ b2.data ≠ .cell vn ∧ b2.data ≠ .cell vm) (e3 : b3.data ≠ .cell vz ∧ b3.data ≠ .cell vn ∧ b3.data ≠ .cell vm)
    (hr : IsRange s.heap r 0 b 1 t₀ u₀ v₀) (hb : b = (ns.length : Int)) (hI : IntsAre rowVs ns) (h100 : ns.length ≤ 100) (h3 : 2 ≤ ns.length) (hns : ∀ x ∈ ns, 0 ≤ x ∧ Bd 1000 x)
    (hrow : m (Str.ofString "row") = some (.ref rowA)) (htp : m (Str.ofString "top") = some (.int top tp)) (ht0 : 0 ≤ top) (ht1 : top < 64)
    (done : ∀ h' tk m' om' on' oz', (∀ y, y ≠ Str.ofString "i" → y ∉ outerNames → m' y = m y) → Fr h₀ L h' m' → News h₀ L h' [(rowA, lst rowVs.toArray rc), (a1, b1), (a2, b2), (a3, b3), (L + 1 + 1 + 1, om'), (L + 1 + 1, on'), (L + 1, oz')] → Q .next { s with heap := h', toks := tk }) :
    wpAny (model prog w) A (pyIter (.ref r)) (fun it s₂ => LoopAtV prog w A h₀ (lawEnv L fa cd) (Str.ofString "i") outerBody Q E it s₂) E s := by
  obtain ⟨tN, rfl⟩ : ∃ tN : Nat, top = (tN : Int) := ⟨top.toNat, by omega⟩
  subst hb
  have hsz := range_size 0 ns.length
  rw [Int.zero_add] at hsz
  refine iter_range hh hr hsz fun Wst o W hW ho => ?_
  have hfresh : s.heap.get? s.heap.objs.size = none := get_none (Nat.le_refl _)
  have S : St h₀ L s.heap m [(rowA, lst rowVs.toArray rc), (a1, b1), (a2, b2), (a3, b3), (L + 1 + 1 + 1, om), (L + 1 + 1, on), (L + 1, oz)] := ⟨F, N⟩
  obtain ⟨o1, o2, o3⟩ := S.out hfresh
  have S1 := S.kp (h' := s.heap.push o) fun b o' e => Heap.get?_push_of_some _ e
  have rest0 : ∀ p ∈ [(rowA, lst rowVs.toArray rc), (a1, b1), (a2, b2), (a3, b3)], p.1 ≠ L + 1 ∧ p.1 ≠ L + 1 + 1 ∧ p.1 ≠ L + 1 + 1 + 1 := by
    intro p hp
    have k : ∀ q : Addr × Obj, q ∈ [(rowA, lst rowVs.toArray rc), (a1, b1), (a2, b2), (a3, b3)] → (q.2.data ≠ .cell vz ∧ q.2.data ≠ .cell vn ∧ q.2.data ≠ .cell vm) → q.1 ≠ L + 1 ∧ q.1 ≠ L + 1 + 1 ∧ q.1 ≠ L + 1 + 1 + 1 := by
      intro q hq hd
      have hq' : (q.1, q.2) ∈ [(rowA, lst rowVs.toArray rc), (a1, b1), (a2, b2), (a3, b3), (L + 1 + 1 + 1, om), (L + 1 + 1, on), (L + 1, oz)] := by
        have : q ∈ [(rowA, lst rowVs.toArray rc), (a1, b1), (a2, b2), (a3, b3)] ++ [(L + 1 + 1 + 1, om), (L + 1 + 1, on), (L + 1, oz)] := List.mem_append_left _ hq
        exact this
      refine ⟨S.apart (o' := oz) hq' (by simp) (by rw [hoz]; exact hd.1), S.apart (o' := on) hq' (by simp) (by rw [hon]; exact hd.2.1), S.apart (o' := om) hq' (by simp) (by rw [hom]; exact hd.2.2)⟩
    refine k p hp ?_
    rcases List.mem_cons.mp hp with rfl | hp
    · exact ⟨(by intro e; cases e), (by intro e; cases e), (by intro e; cases e)⟩
    · rcases List.mem_cons.mp hp with rfl | hp
      · exact e1
      · rcases List.mem_cons.mp hp with rfl | hp
        · exact e2
        · rw [List.mem_singleton.mp hp]; exact e3
  refine ⟨s.heap.objs.size, _, _, ns.length, _, Wst, m, [(rowA, lst rowVs.toArray rc), (a1, b1), (a2, b2), (a3, b3), (L + 1 + 1 + 1, om), (L + 1 + 1, on), (L + 1, oz)],
    fun _ m₁ news₁ => (∃ om' on' oz' vz' vn' vm', news₁ = [(rowA, lst rowVs.toArray rc), (a1, b1), (a2, b2), (a3, b3), (L + 1 + 1 + 1, om'), (L + 1 + 1, on'), (L + 1, oz')] ∧ oz'.data = .cell vz' ∧ on'.data = .cell vn' ∧ om'.data = .cell vm') ∧ ∀ y, y ≠ Str.ofString "i" → y ∉ outerNames → m₁ y = m y,
    rfl, W, ?_, ?_, ?_, hW, S1.F, S1.N, ⟨⟨om, on, oz, vz, vn, vm, rfl, hoz, hon, hom⟩, fun _ _ _ => rfl⟩, ?_, ?_⟩
  · exact fun hm => o2 (List.mem_singleton.mp hm)
  · intro b hb
    rw [List.mem_singleton.mp hb]; exact o1
  · exact fun p hp hm => o3 p hp (List.mem_singleton.mp hm)
  · rintro i v m₁ news₁ s₁ own ⟨h, tk, rfl⟩ hi ⟨t, rfl⟩ ⟨⟨om', on', oz', vz', vn', vm', rfl, hoz', hon', hom'⟩, hm₁⟩ hnw hown hog _ _ F₁ N₁
    have S2 : St h₀ L h (ups m₁ (Str.ofString "i") (.int (0 + (i : Int)) t)) (cells L oz' on' om' ([(rowA, lst rowVs.toArray rc), (a1, b1), (a2, b2), (a3, b3)] ++ own)) := ⟨F₁, fun p hp => N₁ p (by
      simp only [List.mem_cons, List.mem_append, List.not_mem_nil, or_false] at hp ⊢
      rcases hp with h | h | h | (h | h | h | h) | h <;> simp [h])⟩
    refine wpAny_mono (outer_body (E := fun _ _ => False) (Q := fun fl s₃ => fl = .next ∧ ∃ h' tk' m' oz' on' om' vz' vn' vm', s₃ = { s with heap := h', toks := tk' } ∧ oz'.data = .cell vz' ∧ on'.data = .cell vn' ∧ om'.data = .cell vm' ∧ (∀ y, y ∉ outerNames → m' y = ups m₁ (Str.ofString "i") (.int (0 + (i : Int)) t) y) ∧ St h₀ L h' m' (cells L oz' on' om' ([(rowA, lst rowVs.toArray rc), (a1, b1), (a2, b2), (a3, b3)] ++ own)))
      T hh hd hu S2 hoz' hon' hom' ?_ ((if_neg (by decide)).trans ((hm₁ _ (by decide) (by decide)).trans hrow)) (.head _) hI h100 h3 hns (if_pos rfl) (by omega) (by omega) ((if_neg (by decide)).trans ((hm₁ _ (by decide) (by decide)).trans htp)) (by omega)
      fun h' tk' m' oz2 on2 om2 vz2 vn2 vm2 d1 d2 d3 hm' S3 => ⟨rfl, h', tk', m', oz2, on2, om2, vz2, vn2, vm2, rfl, d1, d2, d3, hm', S3⟩) (fun fl s₃ h₃ => ?_) fun _ _ f => f.elim
    · intro p hp
      rcases List.mem_append.mp hp with hp | hp
      · exact rest0 p hp
      · rw [List.mem_singleton.mp (hown p hp)]
        exact ⟨Ne.symm (o3 (L + 1, oz) (by simp)), Ne.symm (o3 (L + 1 + 1, on) (by simp)), Ne.symm (o3 (L + 1 + 1 + 1, om) (by simp))⟩
    · obtain ⟨rfl, h', tk', m', oz2, on2, om2, vz2, vn2, vm2, rfl, d1, d2, d3, hm', S3⟩ := h₃
      refine LoopStepV.next ⟨rfl, h', tk', m', [(rowA, lst rowVs.toArray rc), (a1, b1), (a2, b2), (a3, b3), (L + 1 + 1 + 1, om2), (L + 1 + 1, on2), (L + 1, oz2)], rfl, S3.F, fun p hp => S3.N p (by
        simp only [List.mem_cons, List.mem_append, List.not_mem_nil, or_false] at hp ⊢
        rcases hp with h | h | h | h | h | h | h | h <;> simp [h]), fun p hp hm => ?_, ⟨om2, on2, oz2, vz2, vn2, vm2, rfl, d1, d2, d3⟩, fun y hy1 hy2 => (hm' y hy2).trans ((if_neg hy1).trans (hm₁ y hy1 hy2))⟩
      have e := List.mem_singleton.mp hm
      have key : ∀ (om3 on3 oz3 : Obj), p ∈ [(rowA, lst rowVs.toArray rc), (a1, b1), (a2, b2), (a3, b3), (L + 1 + 1 + 1, om3), (L + 1 + 1, on3), (L + 1, oz3)] → p.1 ≠ s.heap.objs.size := by
        intro om3 on3 oz3 hp
        simp only [List.mem_cons, List.not_mem_nil, or_false] at hp
        rcases hp with rfl | rfl | rfl | rfl | rfl | rfl | rfl
        · exact o3 _ (by simp)
        · exact o3 (a1, b1) (by simp)
        · exact o3 (a2, b2) (by simp)
        · exact o3 (a3, b3) (by simp)
        · exact o3 (L + 1 + 1 + 1, om) (by simp)
        · exact o3 (L + 1 + 1, on) (by simp)
        · exact o3 (L + 1, oz) (by simp)
      exact key _ _ _ hp e
  · rintro h' tk m' news' F' N' _ ⟨⟨om', on', oz', vz', vn', vm', rfl, _, _, _⟩, hm'⟩
    exact done h' tk m' om' on' oz' hm' F' N'

theorem pow300 : Bd 1000 ((10 : Int) ^ Int.toNat 300) ∧ (0 : Int) < (10 : Int) ^ Int.toNat 300 := by
  unfold Bd
  constructor <;> decide +kernel

theorem row_small {ks : List Int} : ∀ x ∈ (ks.map fun k' => (if k' < 0 then -k' else k').fmod ((10 : Int) ^ Int.toNat 300)) ++ [1, 2, 0], 0 ≤ x ∧ Bd 1000 x := by
  intro x hx
  rcases List.mem_append.mp hx with hx | hx
  · obtain ⟨y, _, rfl⟩ := List.mem_map.mp hx
    exact ⟨Int.fmod_nonneg_of_pos _ pow300.2, pow300.1.fmod pow300.2⟩
  · simp only [List.mem_cons, List.not_mem_nil, or_false] at hx
    rcases hx with rfl | rfl | rfl <;> exact ⟨by decide, by unfold Bd; decide +kernel⟩
end
end Mine

open PySem PySem.W PyProof.Rows
set_option maxHeartbeats 8000000 in
theorem PySem.Challenge.cw_dw0056_01_holds : PySem.Challenge.rw_dw0056_01.Holds := by
  w_on
  o_law
  k_head
  case hw => w_witness2
  w_strict (
    k_go0
    all_goals try k_fold
    k_steps
    (rename Fr _ _ _ _ => lF')
    (rename News _ _ _ _ => lN')
    (rename IsRange _ _ _ _ _ _ _ _ => rgX)
    have tf := Mine.tf_of (by assumption) (topRead_of (by assumption)) rfl rfl rfl rfl rfl rfl rfl
    refine' Mine.outer_loop tf ?ka ?kb ?kc lF' lN' ?k1 ?k2 ?k3 ?k4 ?k5 ?k6 rgX ?k7 ?k8 ?k9 ?k10 ?k11 ?k12 ?k13 ?k14 ?k15 ?_
    case k1 => assumption
    case k2 => assumption
    case k3 => assumption
    case k8 => assumption
    case k12 => rfl
    case k13 => rfl
    case ka => rfl
    case kb => (simp only [depth_deeper, depth_caller]; decide)
    case kc => units_room
    case k4 => exact ⟨(by intro e; cases e), (by intro e; cases e), (by intro e; cases e)⟩
    case k5 => exact ⟨(by intro e; cases e), (by intro e; cases e), (by intro e; cases e)⟩
    case k6 => exact ⟨(by intro e; cases e), (by intro e; cases e), (by intro e; cases e)⟩
    case k7 => simp
    case k9 => (simp; omega)
    case k10 => simp
    case k11 => exact Mine.row_small
    case k14 => omega
    case k15 => (have := List.length_take_le 3 (by assumption : List Int); omega)
    intro h' tk m' om' on' oz' hm' F' N'
    (try dsimp only)
    k_steps
    all_goals w_report)
