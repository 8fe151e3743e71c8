import PyProof.Rows.All
import Wide.All
import OpenK.AllK
import Wide.FinOn
import PySem.Challenge.RW_ls0005_01
open PySem PySem.W PyProof.Rows PySem.Calls
set_option Elab.async false

namespace Mine

/-! THE PLAIN LAW: half-even rounding by inequalities, the nearest root, the ends of a turn -/
/-- half-even rounding of N / D, said by inequalities -/
structure RHE (N D q : Int) : Prop where
  lo : (2 * q - 1) * D ≤ 2 * N
  hi : 2 * N ≤ (2 * q + 1) * D
  tlo : 2 * N = (2 * q - 1) * D → q % 2 = 0
  thi : 2 * N = (2 * q + 1) * D → q % 2 = 0

theorem rhe_pos {N D q r h : Int} (e : q * D + r = N + h) (r0 : 0 ≤ r) (r1 : r < D) (hh : D = 2 * h ∨ D = 2 * h + 1) (hr : ¬ (r = 0 ∧ D % 2 = 0)) : RHE N D q := by
  have e1 : (2 * q - 1) * D = 2 * (q * D) - D := by rw [Int.sub_mul, Int.mul_assoc, Int.one_mul]
  have e2 : (2 * q + 1) * D = 2 * (q * D) + D := by rw [Int.add_mul, Int.mul_assoc, Int.one_mul]
  generalize hx : q * D = x at e e1 e2
  exact ⟨by omega, by omega, fun t => by omega, fun t => by omega⟩
theorem rhe_tie {N D q h : Int} (hD : 0 < D) (e : q * D = N + h) (hh : D = 2 * h) : RHE N D (q - q % 2) := by
  have q2 : q % 2 = 0 ∨ q % 2 = 1 := by omega
  have e1 : (2 * q - 1) * D = 2 * (q * D) - D := by rw [Int.sub_mul, Int.mul_assoc, Int.one_mul]
  have e2 : (2 * q + 1) * D = 2 * (q * D) + D := by rw [Int.add_mul, Int.mul_assoc, Int.one_mul]
  rcases q2 with z | z
  · rw [z, Int.sub_zero]
    generalize hx : q * D = x at e e1 e2
    exact ⟨by omega, by omega, fun t => by omega, fun t => by omega⟩
  · rw [z]
    have e3 : (2 * (q - 1) - 1) * D = 2 * (q * D) - 3 * D := by
      rw [show 2 * (q - 1) - 1 = 2 * q - 3 by omega, Int.sub_mul, Int.mul_assoc]
    have e4 : (2 * (q - 1) + 1) * D = 2 * (q * D) - D := by
      rw [show 2 * (q - 1) + 1 = 2 * q - 1 by omega]; exact e1
    generalize hx : q * D = x at e e1 e2 e3 e4
    exact ⟨by omega, by omega, fun t => by omega, fun t => by omega⟩
/-- a common factor goes -/
theorem RHE.cancel {N D k q : Int} (hk : 0 < k) (h : RHE (k * N) (k * D) q) : RHE N D q := by
  have a1 : ∀ y : Int, y * (k * D) = k * (y * D) := fun y => by rw [← Int.mul_assoc, Int.mul_comm y k, Int.mul_assoc]
  have a2 : 2 * (k * N) = k * (2 * N) := by rw [← Int.mul_assoc, Int.mul_comm 2 k, Int.mul_assoc]
  obtain ⟨l, hi, t1, t2⟩ := h
  rw [a1, a2] at l hi t1 t2
  exact ⟨Int.le_of_mul_le_mul_left l hk, Int.le_of_mul_le_mul_left hi hk, fun e => t1 (by rw [e]), fun e => t2 (by rw [e])⟩

/-- the nearest root -/
def rtN : Nat → Nat
  | 0 => 0
  | n + 1 => if rtN n * (rtN n + 1) < n + 1 then rtN n + 1 else rtN n
theorem rtN_spec : ∀ n : Nat, 0 < n → 0 < rtN n ∧ (rtN n - 1) * rtN n < n ∧ n ≤ rtN n * (rtN n + 1)
  | 0, h => absurd h (by omega)
  | 1, _ => by decide
  | n + 2, _ => by
    have ih := rtN_spec (n + 1) (by omega)
    have e : rtN (n + 2) = if rtN (n + 1) * (rtN (n + 1) + 1) < n + 1 + 1 then rtN (n + 1) + 1 else rtN (n + 1) := rfl
    rw [e]
    generalize rtN (n + 1) = r at ih ⊢
    split
    · rename_i h
      refine ⟨by omega, ?_, ?_⟩
      · show r * (r + 1) < _
        exact h
      · have : (r + 1) * (r + 1 + 1) = r * (r + 1) + 2 * (r + 1) := by
          rw [Nat.mul_comm (r + 1) (r + 1 + 1), Nat.add_assoc, Nat.add_mul]
        omega
    · rename_i h
      exact ⟨ih.1, by omega, by omega⟩
def rt (n : Int) : Int := rtN n.toNat

structure Root (n r : Int) : Prop where
  pos : 0 < r
  lo : r * (r - 1) < n
  hi : n ≤ r * (r + 1)
theorem rt_root {n : Int} (h : 0 < n) : Root n (rt n) := by
  have s := rtN_spec n.toNat (by omega)
  unfold rt
  generalize rtN n.toNat = r at s
  obtain ⟨s1, s2, s3⟩ := s
  have e : (n.toNat : Int) = n := by omega
  refine ⟨by omega, ?_, ?_⟩
  · have c : (((r - 1) * r : Nat) : Int) < (n.toNat : Int) := Int.ofNat_lt.mpr s2
    rw [Int.natCast_mul, Int.natCast_sub s1, e] at c
    rw [Int.mul_comm]
    exact c
  · have c : (n.toNat : Int) ≤ ((r * (r + 1) : Nat) : Int) := Int.ofNat_le.mpr s3
    rw [Int.natCast_mul, e] at c
    exact c

/-- Newton's step as the text takes it -/
def nw (n a : Int) : Int := (a - (-n).fdiv a).fdiv 2

/-- the ceiling -/
theorem ceil_spec (n : Int) {a : Int} (ha : 0 < a) : ∃ c, (-n).fdiv a = -c ∧ a * (c - 1) < n ∧ n ≤ a * c := by
  refine ⟨-((-n).fdiv a), by omega, ?_⟩
  have h1 := Int.mul_fdiv_add_fmod (-n) a
  have h2 := Int.fmod_nonneg_of_pos (-n) ha
  have h3 := Int.fmod_lt_of_pos (-n) ha
  generalize (-n).fdiv a = q at h1
  have e1 : a * (-q - 1) = -(a * q) - a := by rw [Int.mul_sub, Int.mul_neg, Int.mul_one]
  have e2 : a * -q = -(a * q) := Int.mul_neg _ _
  omega
theorem nw_spec (n : Int) {a : Int} (ha : 0 < a) : ∃ c, a * (c - 1) < n ∧ n ≤ a * c ∧ nw n a = (a + c).fdiv 2 ∧ 2 * nw n a ≤ a + c ∧ a + c ≤ 2 * nw n a + 1 := by
  obtain ⟨c, e, h1, h2⟩ := ceil_spec n ha
  have e' : nw n a = (a + c).fdiv 2 := by
    unfold nw
    rw [e, Int.sub_neg]
  refine ⟨c, h1, h2, e', ?_, ?_⟩ <;> rw [e'] <;> rw [Int.fdiv_eq_ediv_of_nonneg _ (by omega)] <;> omega

theorem lt_of_mul_lt {a b c : Int} (ha : 0 < a) (h : a * b < a * c) : b < c := Int.lt_of_mul_lt_mul_left h (by omega)
theorem le_of_mul_le {a b c : Int} (ha : 0 < a) (h : a * b ≤ a * c) : b ≤ c := Int.le_of_mul_le_mul_left h ha

theorem nw_ge {n a r : Int} (R : Root n r) (hn : 0 < n) (ha : 0 < a) : r ≤ nw n a := by
  obtain ⟨c, h1, h2, _, h4, h5⟩ := nw_spec n ha
  have hc : 0 < c := lt_of_mul_lt ha (by rw [Int.mul_zero]; omega)
  rcases Int.lt_or_le (nw n a) r with h | h
  · exfalso
    have hs : a + c ≤ 2 * r - 1 := by omega
    -- 4 a c ≤ (a + c)² ≤ (2 r - 1)²
    have k1 : (a + c) * (a + c) ≤ (2 * r - 1) * (2 * r - 1) := Int.mul_le_mul hs hs (by omega) (by omega)
    have k2 : 0 ≤ (a - c) * (a - c) := by
      rcases Int.le_total 0 (a - c) with z | z
      · exact Int.mul_nonneg z z
      · have := Int.mul_nonneg (show 0 ≤ -(a - c) by omega) (show 0 ≤ -(a - c) by omega)
        rwa [Int.neg_mul_neg] at this
    have e1 : (a + c) * (a + c) = (a - c) * (a - c) + 4 * (a * c) := by grind
    have e2 : (2 * r - 1) * (2 * r - 1) = 4 * (r * (r - 1)) + 1 := by grind
    have := R.lo
    omega
  · exact h
theorem nw_dec {n a r : Int} (R : Root n r) (h : r < a) : nw n a ≤ a - 1 := by
  have := R.pos
  obtain ⟨c, h1, h2, _, h4, h5⟩ := nw_spec n (show 0 < a by omega)
  have k : r * (r + 1) ≤ a * (a - 1) := by
    rw [Int.mul_comm r (r + 1)]
    exact Int.mul_le_mul (by omega) (by omega) (by omega) (by omega)
  have := R.hi
  have := lt_of_mul_lt (show 0 < a by omega) (show a * (c - 1) < a * (a - 1) by omega)
  omega
theorem nw_root {n r : Int} (R : Root n r) : nw n r = r := by
  obtain ⟨c, h1, h2, _, h4, h5⟩ := nw_spec n R.pos
  have l := lt_of_mul_lt R.pos (show r * (r - 1) < r * c by have := R.lo; omega)
  have u := lt_of_mul_lt R.pos (show r * (c - 1) < r * (r + 1) by have := R.hi; omega)
  omega
theorem root_nw {n a : Int} (ha : 0 < a) (h : nw n a = a) : Root n a := by
  obtain ⟨c, h1, h2, _, h4, h5⟩ := nw_spec n ha
  rw [h] at h4 h5
  have k1 : a * (a - 1) ≤ a * (c - 1) := Int.mul_le_mul_of_nonneg_left (by omega) (by omega)
  have k2 : a * c ≤ a * (a + 1) := Int.mul_le_mul_of_nonneg_left (by omega) (by omega)
  exact ⟨ha, by omega, by omega⟩

/-- what holds at the head of the while -/
def NwInv (n a b : Int) : Prop := 0 < n ∧ 0 < a ∧ (b = 0 ∨ (0 < b ∧ a = nw n b))
def nwMu (n a b : Int) : Nat := if a < rt n then (nw n a - rt n).toNat + 2 else (a - rt n).toNat + (if a = b then 0 else 1)
theorem nwInv_start {n a : Int} (hn : 0 < n) (ha : 0 < a) : NwInv n a 0 := ⟨hn, ha, .inl rfl⟩
theorem nwInv_turn {n a b : Int} (h : NwInv n a b) : NwInv n (nw n a) a := by
  obtain ⟨hn, ha, _⟩ := h
  have R := rt_root hn
  have := nw_ge R hn ha
  exact ⟨hn, by have := R.pos; omega, .inr ⟨ha, rfl⟩⟩
theorem nwInv_end {n a : Int} (h : NwInv n a a) : Root n a := by
  obtain ⟨hn, ha, hb⟩ := h
  exact root_nw ha (by omega)
theorem nwMu_turn {n a b : Int} (h : NwInv n a b) (hab : a ≠ b) : nwMu n (nw n a) a < nwMu n a b := by
  obtain ⟨hn, ha, _⟩ := h
  have R := rt_root hn
  have g := nw_ge R hn ha
  unfold nwMu
  rw [if_neg hab, if_neg (show ¬ nw n a < rt n by omega)]
  by_cases h1 : a < rt n
  · rw [if_pos h1]
    split <;> omega
  · rw [if_neg h1]
    by_cases h2 : a = rt n
    · have e : nw n a = a := by rw [h2]; exact nw_root R
      rw [e, if_pos rfl]
      omega
    · have := nw_dec R (show rt n < a by omega)
      split <;> omega
section
variable {N D q r : Int}
/-- 2 N is «above», D is «below» -/
theorem rhe_small (hD : 0 < D) (h : RHE N D q) (hs : 2 * N ≤ D) : q ≤ 0 := by
  rcases Int.lt_or_le 0 q with z | z
  · exfalso
    have k : 1 * D ≤ (2 * q - 1) * D := Int.mul_le_mul_of_nonneg_right (by omega) (by omega)
    have l := h.lo
    have e : 2 * N = (2 * q - 1) * D := by omega
    have t := h.tlo e
    have k2 : (2 * q - 1) * D = 1 * D := by omega
    have := Int.eq_of_mul_eq_mul_right (show D ≠ 0 by omega) k2
    omega
  · exact z
theorem rhe_large (hD : 0 < D) (h : RHE N D q) (hs : D < 2 * N) : 0 < q := by
  rcases Int.lt_or_le 0 q with z | z
  · exact z
  · exfalso
    have k : (2 * q + 1) * D ≤ 1 * D := Int.mul_le_mul_of_nonneg_right (by omega) (by omega)
    have := h.hi
    omega
theorem rhe_nonneg (hD : 0 < D) (hN : 0 ≤ N) (h : RHE N D q) : 0 ≤ q := by
  rcases Int.lt_or_le q 0 with z | z
  · exfalso
    have k : (2 * q + 1) * D ≤ (-1) * D := Int.mul_le_mul_of_nonneg_right (by omega) (by omega)
    have := h.hi
    omega
  · exact z
theorem even_pp (r : Int) : (r * (r - 1)) % 2 = 0 := by
  rcases (show r % 2 = 0 ∨ r % 2 = 1 by omega) with z | z
  · rw [Int.mul_emod, z]; omega
  · rw [Int.mul_emod, show (r - 1) % 2 = 0 by omega]; omega
theorem root_lo (hD : 0 < D) (h : RHE N D q) (R : Root q r) : (2 * r * (r - 1) + 1) * D < 2 * N := by
  have e0 : 2 * r * (r - 1) = 2 * (r * (r - 1)) := Int.mul_assoc _ _ _
  have ev := even_pp r
  have l := R.lo
  rw [e0]
  generalize r * (r - 1) = x at ev l
  have k : (2 * x + 1) * D ≤ (2 * q - 1) * D := Int.mul_le_mul_of_nonneg_right (by omega) (by omega)
  have := h.lo
  rcases Int.lt_or_le ((2 * x + 1) * D) (2 * N) with z | z
  · exact z
  · exfalso
    have t := h.tlo (by omega)
    have k2 : (2 * x + 1) * D = (2 * q - 1) * D := by omega
    have := Int.eq_of_mul_eq_mul_right (show D ≠ 0 by omega) k2
    omega
theorem root_hi (hD : 0 < D) (h : RHE N D q) (R : Root q r) : 2 * N ≤ (2 * r * (r + 1) + 1) * D := by
  have e0 : 2 * r * (r + 1) = 2 * (r * (r + 1)) := Int.mul_assoc _ _ _
  have l := R.hi
  rw [e0]
  generalize r * (r + 1) = x at l
  have k : (2 * q + 1) * D ≤ (2 * x + 1) * D := Int.mul_le_mul_of_nonneg_right (by omega) (by omega)
  have := h.hi
  omega
end

theorem lt_of_sq {x y : Int} (hy : 0 ≤ y) (h : x * x < y * y) : x < y := by
  rcases Int.lt_or_le x y with z | z
  · exact z
  · exfalso
    have := Int.mul_le_mul z z hy (by omega)
    omega
/-- the side of a square: r is the root of u² / v², s the rounding of u / v -/
theorem side_due {u v r s : Int} (hv : 0 < v) (hu : 0 ≤ u) (hr : 0 < r) (lo : (2 * r * (r - 1) + 1) * (v * v) < 2 * (u * u)) (hi : 2 * (u * u) ≤ (2 * r * (r + 1) + 1) * (v * v)) (h : RHE u v s) :
    s = r + (if (2 * u > (2 * r + 1) * v ∨ (2 * u = (2 * r + 1) * v ∧ r % 2 ≠ 0)) then 1 else 0) := by
  have hvv : 0 < v * v := Int.mul_pos hv hv
  have a1 : (2 * r - 1) * v < 2 * u := by
    refine lt_of_sq (by omega) ?_
    have e1 : (2 * r - 1) * v * ((2 * r - 1) * v) = (2 * (2 * r * (r - 1) + 1)) * (v * v) - v * v := by grind
    have e2 : 2 * u * (2 * u) = 2 * (2 * (u * u)) := by grind
    have e3 : (2 * (2 * r * (r - 1) + 1)) * (v * v) = 2 * ((2 * r * (r - 1) + 1) * (v * v)) := Int.mul_assoc _ _ _
    omega
  have a2 : 2 * u < (2 * r + 3) * v := by
    refine lt_of_sq (Int.mul_nonneg (by omega) (by omega)) ?_
    have e1 : (2 * r + 3) * v * ((2 * r + 3) * v) = 2 * ((2 * r * (r + 1) + 1) * (v * v)) + 8 * (r * (v * v)) + 7 * (v * v) := by grind
    have e2 : 2 * u * (2 * u) = 2 * (2 * (u * u)) := by grind
    have e3 : 0 ≤ r * (v * v) := Int.mul_nonneg (by omega) (by omega)
    omega
  have up : ∀ {x y : Int}, x * v < y * v → x < y := fun {x y} k => Int.lt_of_mul_lt_mul_right k (by omega)
  have b1 := h.lo
  have b2 := h.hi
  rcases Int.lt_trichotomy (2 * u) ((2 * r + 1) * v) with c | c | c
  · rw [if_neg (by omega)]
    have := up (show (2 * s - 1) * v < (2 * r + 1) * v by omega)
    have := up (show (2 * r - 1) * v < (2 * s + 1) * v by omega)
    omega
  · have k1 := up (show (2 * s - 1) * v < (2 * r + 3) * v by omega)
    have k2 := up (show (2 * r - 1) * v < (2 * s + 1) * v by omega)
    rcases (show s = r ∨ s = r + 1 by omega) with z | z
    · have t := h.thi (by rw [z]; exact c)
      rw [if_neg (by omega)]
      omega
    · have t := h.tlo (by rw [z, show 2 * (r + 1) - 1 = 2 * r + 1 by omega]; exact c)
      rw [if_pos (by omega)]
      omega
  · rw [if_pos (by omega)]
    have := up (show (2 * r + 1) * v < (2 * s + 1) * v by omega)
    have := up (show (2 * s - 1) * v < (2 * r + 3) * v by omega)
    omega

/-- what the rounding tells of n * more, d * more at -2 * places, said of n, d -/
theorem turn_rhe {n d more q : Int} {A B : Int} (hm : 0 < more) (h : RHE (n * more * A) (d * more * B) q) : RHE (n * A) (d * B) q := by
  have e1 : n * more * A = more * (n * A) := by grind
  have e2 : d * more * B = more * (d * B) := by grind
  rw [e1, e2] at h
  exact h.cancel hm
theorem pow_sq (p : Int) : (10 : Int) ^ (2 * p).toNat = (10 : Int) ^ p.toNat * (10 : Int) ^ p.toNat := by
  rw [← Int.pow_add]
  congr 1
  omega
theorem pow10_pos (k : Nat) : (0 : Int) < 10 ^ k := Int.pow_pos (by decide)
theorem mx_eq (v : Int) : (if 0 > v then 0 else v).toNat = v.toNat := by split <;> omega
section
variable {first second n d k p q r r2 q2 st : Int}
theorem turn_H (hk : 0 ≤ k) (hq : RHE (n * (k + 1) * 10 ^ (-(-2 * p)).toNat) (d * (k + 1) * 10 ^ (-2 * p).toNat) q) : RHE (n * 10 ^ (2 * p).toNat) (d * 10 ^ (-2 * p).toNat) q := by
  have h := turn_rhe (more := k + 1) (by omega) hq
  rw [show -(-2 * p) = 2 * p by omega] at h
  exact h
theorem below_pos (hd : 0 < d) (e : Nat) : 0 < d * 10 ^ e := Int.mul_pos hd (pow10_pos _)
theorem end_small (hd0 : 0 < d) (_R : Root q r) (hq : RHE (n * (k + 1) * 10 ^ (-(-2 * p)).toNat) (d * (k + 1) * 10 ^ (-2 * p).toNat) q) (hk : 0 ≤ k) (x0 : 0 < q)
    (h : 2 * n * 10 ^ (if 0 > 2 * p then 0 else 2 * p).toNat ≤ d * 10 ^ (if 0 > -2 * p then 0 else -2 * p).toNat) : False := by
  rw [mx_eq, mx_eq, Int.mul_assoc] at h
  have := rhe_small (below_pos hd0 _) (turn_H hk hq) h
  omega
theorem end_hi (hd0 : 0 < d) (R : Root q r) (hq : RHE (n * (k + 1) * 10 ^ (-(-2 * p)).toNat) (d * (k + 1) * 10 ^ (-2 * p).toNat) q) (hk : 0 ≤ k)
    (h : ¬ 2 * n * 10 ^ (if 0 > 2 * p then 0 else 2 * p).toNat ≤ (2 * r * (r + 1) + 1) * (d * 10 ^ (if 0 > -2 * p then 0 else -2 * p).toNat)) : False := by
  rw [mx_eq, mx_eq, Int.mul_assoc 2 n] at h
  exact h (root_hi (below_pos hd0 _) (turn_H hk hq) R)
theorem end_lo (hd0 : 0 < d) (R : Root q r) (hq : RHE (n * (k + 1) * 10 ^ (-(-2 * p)).toNat) (d * (k + 1) * 10 ^ (-2 * p).toNat) q) (hk : 0 ≤ k)
    (h : ¬ (2 * r * (r - 1) + 1) * (d * 10 ^ (if 0 > -2 * p then 0 else -2 * p).toNat) < 2 * n * 10 ^ (if 0 > 2 * p then 0 else 2 * p).toNat) : False := by
  rw [mx_eq, mx_eq, Int.mul_assoc 2 n] at h
  exact h (root_lo (below_pos hd0 _) (turn_H hk hq) R)
theorem end_none (hd0 : 0 < d) (z : q ≤ 0 ∨ st + 1 ≤ 0) (hst : 0 ≤ st) (hq : RHE (n * (k + 1) * 10 ^ (-(-2 * p)).toNat) (d * (k + 1) * 10 ^ (-2 * p).toNat) q) (hk : 0 ≤ k)
    (h : ¬ 2 * n * 10 ^ (if 0 > 2 * p then 0 else 2 * p).toNat ≤ d * 10 ^ (if 0 > -2 * p then 0 else -2 * p).toNat) : False := by
  rw [mx_eq, mx_eq, Int.mul_assoc 2 n] at h
  have := rhe_large (below_pos hd0 _) (turn_H hk hq) (by omega)
  omega
theorem sq_due (hf0 : 0 < first) (hs0 : 0 < second) (R : Root q r) (e : (n == first * first && d == second * second) = true)
    (lo : (2 * r * (r - 1) + 1) * (d * 10 ^ (if 0 > -2 * p then 0 else -2 * p).toNat) < 2 * n * 10 ^ (if 0 > 2 * p then 0 else 2 * p).toNat)
    (hi : 2 * n * 10 ^ (if 0 > 2 * p then 0 else 2 * p).toNat ≤ (2 * r * (r + 1) + 1) * (d * 10 ^ (if 0 > -2 * p then 0 else -2 * p).toNat))
    (h2 : RHE (first * 10 ^ (- -p).toNat) (second * 10 ^ (-p).toNat) q2) :
    q2 = r + (if (2 * first * 10 ^ (if 0 > p then 0 else p).toNat > (2 * r + 1) * (second * 10 ^ (if 0 > -p then 0 else -p).toNat) ∨ (2 * first * 10 ^ (if 0 > p then 0 else p).toNat = (2 * r + 1) * (second * 10 ^ (if 0 > -p then 0 else -p).toNat) ∧ r % 2 ≠ 0)) then 1 else 0) := by
  simp only [Bool.and_eq_true, beq_iff_eq] at e
  obtain ⟨rfl, rfl⟩ := e
  simp only [mx_eq, Int.neg_neg] at *
  have e1 : 2 * (first * first) * 10 ^ (2 * p).toNat = 2 * (first * 10 ^ p.toNat * (first * 10 ^ p.toNat)) := by
    rw [pow_sq]
    generalize (10 : Int) ^ p.toNat = x
    grind
  have e2 : second * second * 10 ^ (-2 * p).toNat = second * 10 ^ (-p).toNat * (second * 10 ^ (-p).toNat) := by
    rw [show -2 * p = 2 * -p by omega, pow_sq]
    generalize (10 : Int) ^ (-p).toNat = x
    grind
  rw [e1, e2] at lo hi
  have hu : 0 ≤ first * 10 ^ p.toNat := Int.le_of_lt (below_pos hf0 _)
  have := side_due (below_pos hs0 (-p).toNat) hu R.pos lo hi h2
  rw [Int.mul_assoc 2 first]
  exact this
theorem end_gt (hf0 : 0 < first) (hs0 : 0 < second) (R : Root q r) (e : (n == first * first && d == second * second) = true)
    (lo : (2 * r * (r - 1) + 1) * (d * 10 ^ (if 0 > -2 * p then 0 else -2 * p).toNat) < 2 * n * 10 ^ (if 0 > 2 * p then 0 else 2 * p).toNat)
    (hi : 2 * n * 10 ^ (if 0 > 2 * p then 0 else 2 * p).toNat ≤ (2 * r * (r + 1) + 1) * (d * 10 ^ (if 0 > -2 * p then 0 else -2 * p).toNat))
    (h2 : RHE (first * 10 ^ (- -p).toNat) (second * 10 ^ (-p).toNat) q2)
    (h : (2 * r + 1) * (second * 10 ^ (if 0 > -p then 0 else -p).toNat) < 2 * first * 10 ^ (if 0 > p then 0 else p).toNat) (hne : q2 ≠ r + 1) : False := by
  have := sq_due hf0 hs0 R e lo hi h2
  rw [if_pos (.inl h)] at this
  exact hne this
theorem end_eq1 (hf0 : 0 < first) (hs0 : 0 < second) (R : Root q r) (e : (n == first * first && d == second * second) = true)
    (lo : (2 * r * (r - 1) + 1) * (d * 10 ^ (if 0 > -2 * p then 0 else -2 * p).toNat) < 2 * n * 10 ^ (if 0 > 2 * p then 0 else 2 * p).toNat)
    (hi : 2 * n * 10 ^ (if 0 > 2 * p then 0 else 2 * p).toNat ≤ (2 * r * (r + 1) + 1) * (d * 10 ^ (if 0 > -2 * p then 0 else -2 * p).toNat))
    (h2 : RHE (first * 10 ^ (- -p).toNat) (second * 10 ^ (-p).toNat) q2)
    (h : 2 * first * 10 ^ (if 0 > p then 0 else p).toNat = (2 * r + 1) * (second * 10 ^ (if 0 > -p then 0 else -p).toNat)) (re : r2 = r.fmod 2) (hr : r2 ≠ 0) (hne : q2 ≠ r + 1) : False := by
  have := sq_due hf0 hs0 R e lo hi h2
  rw [Int.fmod_eq_emod_of_nonneg _ (by decide)] at re
  rw [if_pos (.inr ⟨h, by omega⟩)] at this
  exact hne this
theorem end_eq0 (hf0 : 0 < first) (hs0 : 0 < second) (R : Root q r) (e : (n == first * first && d == second * second) = true)
    (lo : (2 * r * (r - 1) + 1) * (d * 10 ^ (if 0 > -2 * p then 0 else -2 * p).toNat) < 2 * n * 10 ^ (if 0 > 2 * p then 0 else 2 * p).toNat)
    (hi : 2 * n * 10 ^ (if 0 > 2 * p then 0 else 2 * p).toNat ≤ (2 * r * (r + 1) + 1) * (d * 10 ^ (if 0 > -2 * p then 0 else -2 * p).toNat))
    (h2 : RHE (first * 10 ^ (- -p).toNat) (second * 10 ^ (-p).toNat) q2)
    (hlt : ¬ (2 * r + 1) * (second * 10 ^ (if 0 > -p then 0 else -p).toNat) < 2 * first * 10 ^ (if 0 > p then 0 else p).toNat)
    (re : r2 = r.fmod 2) (hr : r2 = 0) (hne : q2 ≠ r + 0) : False := by
  have := sq_due hf0 hs0 R e lo hi h2
  rw [Int.fmod_eq_emod_of_nonneg _ (by decide)] at re
  rw [if_neg (fun c => c.elim hlt fun c => c.2 (by omega))] at this
  exact hne this
theorem end_lt (hf0 : 0 < first) (hs0 : 0 < second) (R : Root q r) (e : (n == first * first && d == second * second) = true)
    (lo : (2 * r * (r - 1) + 1) * (d * 10 ^ (if 0 > -2 * p then 0 else -2 * p).toNat) < 2 * n * 10 ^ (if 0 > 2 * p then 0 else 2 * p).toNat)
    (hi : 2 * n * 10 ^ (if 0 > 2 * p then 0 else 2 * p).toNat ≤ (2 * r * (r + 1) + 1) * (d * 10 ^ (if 0 > -2 * p then 0 else -2 * p).toNat))
    (h2 : RHE (first * 10 ^ (- -p).toNat) (second * 10 ^ (-p).toNat) q2)
    (hlt : ¬ (2 * r + 1) * (second * 10 ^ (if 0 > -p then 0 else -p).toNat) < 2 * first * 10 ^ (if 0 > p then 0 else p).toNat)
    (hne' : 2 * first * 10 ^ (if 0 > p then 0 else p).toNat ≠ (2 * r + 1) * (second * 10 ^ (if 0 > -p then 0 else -p).toNat)) (hne : q2 ≠ r + 0) : False := by
  have := sq_due hf0 hs0 R e lo hi h2
  rw [if_neg (fun c => c.elim hlt fun c => hne' c.1)] at this
  exact hne this
end

/-! THE HEAD: the run of the top, once -/
section
set_option maxRecDepth 100000
set_option maxHeartbeats 8000000
open_top hd for PySem.Challenge.rw_ls0005_01
end

/-! THE WALK: what a call of _law_root gives -/
section
theorem noPylong_num {x y : Int} (h : Builtin.Int.intBits x ≤ 9000) : Builtin.divisionGoesByPylong x y = false := by
  have hx : x.natAbs < 2 ^ 9000 := intBits_le_iff.mp h
  have key : (if x == 0 then 0 else x.natAbs.log2 / 30 + 1) ≤ 450 := by
    by_cases hy : (x == 0) = true
    · rw [if_pos hy]; exact Nat.zero_le _
    · rw [if_neg hy]
      have h0 : x.natAbs ≠ 0 := by
        have : x ≠ 0 := by simpa using hy
        omega
      have := (Nat.log2_lt h0).mpr hx
      omega
  unfold Builtin.divisionGoesByPylong
  dsimp only
  rcases Nat.lt_or_ge 300 (if y == 0 then 0 else y.natAbs.log2 / 30 + 1) with z | z
  · rw [decide_eq_false (p := (if x == 0 then 0 else x.natAbs.log2 / 30 + 1) > _) (by omega), Bool.and_false]
  · rw [decide_eq_false (by omega), Bool.false_and]
theorem root_le {x r : Int} (h : Root x r) : r ≤ x := by
  have h1 := h.lo
  have h2 := h.pos
  have k : 1 * (r - 1) ≤ r * (r - 1) := Int.mul_le_mul_of_nonneg_right (by omega) (by omega)
  omega
theorem root_bits {x r : Int} (h : Root x r) (hx : Builtin.Int.intBits x ≤ 9000) : Builtin.Int.intBits r ≤ 9000 := by
  have h1 := root_le h
  have h2 := h.pos
  exact intBits_le_of_natAbs (y := x) (by omega) hx
theorem NwInv.ne {n a b : Int} (h : NwInv n a b) : a ≠ 0 := by
  have := h.2.1
  omega
theorem bits_neg9 {x : Int} (h : Builtin.Int.intBits x ≤ 9000) : Builtin.Int.intBits (-x) ≤ 9000 := intBits_neg_le h
local macro_rules | `(tactic| walk_at "binaryOp FloorDiv int int") => `(tactic| ((with_reducible rename NwInv _ _ _ => nwI'); (with_reducible refine floordiv_int (NwInv.ne nwI') ?_ (Or.inl (noPylong_num (bits_neg9 (by assumption)))))))
set_option maxRecDepth 100000
set_option maxHeartbeats 8000000
section
variable {w : World} {mean : ExcName → Option Value} {mg mb : Str → Option Value} {cn : Str} {cs : Scope} {a : Addr} {ccd : Value} {h₀ : Heap} {L : Addr} {m : Str → Option Value} {news : List (Addr × Obj)} {s : Shared} {Q E : Value → Shared → Prop}
theorem root_call {x y : Int} {tx ty : Tok}
    (B : Below callerA h₀ [] h₀) (F : Fr h₀ L s.heap m) (X : (hd.heap_39 w.params).In h₀) (N : News h₀ L s.heap news) (T : Top hd.view_39 (looseW hd.view_39 [Str.ofString "_round_to_exponent"]) mean mg mb h₀) (hk : cs.kind = .function)
    (hx : Builtin.Int.intBits x ≤ 9000)
    (hN : (x ≤ 0 ∨ y ≤ 0) → ∀ h' tk', Fr h₀ L h' m → News h₀ L h' news → Q .none { s with heap := h', toks := tk' })
    (hR : ∀ r t, 0 < x → 0 < y → Root x r → Builtin.Int.intBits r ≤ 9000 → ∀ h' tk', Fr h₀ L h' m → News h₀ L h' news → Q (.int r t) { s with heap := h', toks := tk' }) :
    wpAny (model Challenge.rw_ls0005_01.row.prog w) (callerA.deeper (envOf cn cs L a ccd)) (call (.ref 43) [.int x tx, .int y ty]) Q E s := by
  revert X; k_fill; intro X
  w_on
  k_with_none
  k_with "state" => first | exact nwInv_start (by omega) (by omega) | exact nwInv_turn (by assumption)
  k_with "measure" => exact nwMu_turn (by assumption) (by assumption)
  k_with "exec While Compare cons nil" => k_while_given ["n"] (fun n _ a b => NwInv n a b) (fun n _ a b => nwMu n a b) "a" "b"
  w_strict (refine wpAny_call ?_; k_dflt (refine' code_defS0 ?k1 ?k2 ?k3 ?k4 ?k5 ?kA ?k6 ?k7 ?k8 ?k9 ?kB ?_ ?cK ?c2 ?c3 ?c4 ?c5; (case kA => exact rfl); (case k2 => k_asm); (case k1 => k_asm); (case k3 => k_asm); (case k4 => k_asm); (case k5 => k_asm); (case k6 => k_is); (case k7 => k_is); (case k8 => k_room); (case k9 => exact BindsTo.of_eq rfl); (case kB => exact locs rfl); (case cK => assumption); (case c2 => exact rfl); (case c3 => exact rfl); (case c4 => exact rfl); (case c5 => decide); k_whole; intro g' L' h' FG' F' N' B' X' T' D'; (try dsimp only); (try k_lift B'); (try k_fold)); k_steps)
  · exact hN (.inl (by assumption)) _ _ (by assumption) (by assumption)
  · exact hN (.inr (by assumption)) _ _ (by assumption) (by assumption)
  · rename_i e0 _ _ _ _ _ _ _ _
    subst e0
    exact hR _ _ (by omega) (by omega) (nwInv_end (by assumption)) (root_bits (nwInv_end (by assumption)) hx) _ _ (by assumption) (by assumption)
end
end

/-! THE WALK: what a call of _round_to_exponent gives -/
section
theorem bits_pow10 {e : Int} (h : e ≤ 64) : Builtin.Int.intBits ((10 : Int) ^ e.toNat) ≤ 300 :=
  Nat.le_trans (intBits_pow_le (m := 4) (intBits_le_iff.mpr (by decide)) e.toNat) (by omega)
theorem pow_rule {e : Int} (h0 : 0 ≤ e) (h : e ≤ 64) : (Builtin.Int.intBits (10 : Int) : Int) * e ≤ 2 ^ 27 := by
  have : (Builtin.Int.intBits (10 : Int) : Int) = 4 := by decide
  rw [this]
  omega
local macro_rules | `(tactic| bits_by_make) => `(tactic| first | assumption | exact bits_pow10 (by omega))
local macro_rules | `(tactic| walk_at "binaryOp Pow int int") => `(tactic| (with_reducible refine pow_int ?mn ?ms ?_; (case mn => omega); (case ms => exact pow_rule (by omega) (by omega))))
local macro_rules | `(tactic| walk_at "inplaceOp Mult int int") => `(tactic| ((with_reducible refine imul_int ?_ (mulOk_of_bits ?ma ?mb ?mc)); (case ma => bits_by_make); (case mb => bits_by_make); (case mc => decide)))
theorem band_m2 {x : Int} (hx : 0 ≤ x) : Builtin.bitAnd x (-2) = x - x % 2 := by
  rw [bitAnd_pn hx (by decide)]
  have e : (Builtin.bitNot (-2)).toNat = 1 := by decide
  rw [e, Nat.and_one_is_mod]
  omega
theorem noPylong_both {x y : Int} (h : Builtin.Int.intBits y ≤ 9000) : Builtin.divisionGoesByPylong x y = false := by
  refine PyProof.noPylong_of_log2 ?_
  by_cases h0 : y.natAbs = 0
  · rw [h0]; decide
  · exact (Nat.log2_lt h0).mpr (intBits_le_iff.mp h)
/-- what the end must show of the number that comes back -/
def Rnd (N D v : Int) : Prop := RHE N D v ∧ 0 ≤ v ∧ Builtin.Int.intBits v ≤ 3000
theorem rnd_abs {N D q : Int} (hD : 0 < D) (hN : 0 ≤ N) (h : RHE N D q) (hb : Builtin.Int.intBits q ≤ 3000) : Rnd N D (if q < 0 then -q else q) := by
  have h0 := rhe_nonneg hD hN h
  rw [if_neg (by omega)]
  exact ⟨h, h0, hb⟩
theorem rnd_bits {N D : Int} (hbN : Builtin.Int.intBits N ≤ 2500) (hbD : Builtin.Int.intBits D ≤ 2500) : Builtin.Int.intBits ((N + D.fdiv (2 ^ Int.toNat 1)).fdiv D) ≤ 3000 :=
  Nat.le_trans (intBits_fdiv_le (intBits_add_le hbN (intBits_fdiv_le hbD))) (by decide)
theorem rnd_eq {N D : Int} (hD : 0 < D) : (N + D.fdiv (2 ^ Int.toNat 1)).fdiv D * D + (N + D.fdiv (2 ^ Int.toNat 1)).fmod D = N + D.fdiv (2 ^ Int.toNat 1) ∧ 0 ≤ (N + D.fdiv (2 ^ Int.toNat 1)).fmod D ∧ (N + D.fdiv (2 ^ Int.toNat 1)).fmod D < D := by
  refine ⟨?_, Int.fmod_nonneg_of_pos _ hD, Int.fmod_lt_of_pos _ hD⟩
  rw [Int.mul_comm]
  exact Int.mul_fdiv_add_fmod _ _
theorem half_of (D : Int) : D.fdiv (2 ^ Int.toNat 1) = D / 2 := by
  show D.fdiv 2 = D / 2
  exact Int.fdiv_eq_ediv_of_nonneg _ (by decide)
theorem rnd_tie {N D : Int} (hD : 0 < D) (hN : 0 ≤ N) (hbN : Builtin.Int.intBits N ≤ 2500) (hbD : Builtin.Int.intBits D ≤ 2500) (h1 : (N + D.fdiv (2 ^ Int.toNat 1)).fmod D = 0) (h2 : Builtin.bitAnd D 1 = 0) :
    Rnd N D (if Builtin.bitAnd ((N + D.fdiv (2 ^ Int.toNat 1)).fdiv D) (-2) < 0 then -Builtin.bitAnd ((N + D.fdiv (2 ^ Int.toNat 1)).fdiv D) (-2) else Builtin.bitAnd ((N + D.fdiv (2 ^ Int.toNat 1)).fdiv D) (-2)) := by
  have hb := rnd_bits hbN hbD
  obtain ⟨e, r0, r1⟩ := rnd_eq (N := N) hD
  rw [bitAnd_m1] at h2
  have hh := half_of D
  rw [h1] at e
  have hq : 0 ≤ (N + D.fdiv (2 ^ Int.toNat 1)).fdiv D := Int.fdiv_nonneg (by omega) (by omega)
  rw [band_m2 hq]
  generalize (N + D.fdiv (2 ^ Int.toNat 1)).fdiv D = q at *
  refine rnd_abs hD hN (rhe_tie hD (h := D / 2) (by omega) (by omega)) ?_
  exact intBits_le_of_natAbs (y := q) (by omega) hb
theorem rnd_off {N D : Int} (hD : 0 < D) (hN : 0 ≤ N) (hbN : Builtin.Int.intBits N ≤ 2500) (hbD : Builtin.Int.intBits D ≤ 2500) (h : ¬ ((N + D.fdiv (2 ^ Int.toNat 1)).fmod D = 0 ∧ Builtin.bitAnd D 1 = 0)) :
    Rnd N D (if (N + D.fdiv (2 ^ Int.toNat 1)).fdiv D < 0 then -(N + D.fdiv (2 ^ Int.toNat 1)).fdiv D else (N + D.fdiv (2 ^ Int.toNat 1)).fdiv D) := by
  have hb := rnd_bits hbN hbD
  obtain ⟨e, r0, r1⟩ := rnd_eq (N := N) hD
  rw [bitAnd_m1] at h
  have hh := half_of D
  refine rnd_abs hD hN (rhe_pos (h := D / 2) (r := (N + D.fdiv (2 ^ Int.toNat 1)).fmod D) (by omega) r0 r1 (by omega) h) hb
theorem round_end {h₀ h' : Heap} {L D : Addr} {m : Str → Option Value} {news : List (Addr × Obj)} {s : Shared} {Q : Value → Shared → Prop} {n d e N₁ D₁ v : Int} {b : Bool} {x : Addr × Obj} {P : Prop} {t : Tok} {c : Nat} {tk' : Nat}
    (hR : ∀ q D t c h' tk', RHE (n * 10 ^ (-e).toNat) (d * 10 ^ e.toNat) q → 0 ≤ q → Builtin.Int.intBits q ≤ 3000 → Fr h₀ L h' m → News h₀ L h' ((D, { cls := .type "tuple", data := .seq #[.bool false, .int q t] c }) :: news) → AllLt D news → Q (.ref D) { s with heap := h', toks := tk' })
    (hN : N₁ = n * 10 ^ (-e).toNat) (hD : D₁ = d * 10 ^ e.toNat) (hv : Rnd N₁ D₁ v) (hb : b = false) (F : Fr h₀ L h' m) (N : News h₀ L h' ((D, { cls := .type "tuple", data := .seq #[.bool b, .int v t] c }) :: x :: news)) (l : P ∧ AllLt D news) :
    Q (.ref D) { s with heap := h', toks := tk' } := by
  subst hN hD hb
  refine hR v D t c h' tk' hv.1 hv.2.1 hv.2.2 F (fun p hp => N p ?_) l.2
  rcases List.mem_cons.mp hp with z | z
  · exact List.mem_cons.mpr (.inl z)
  · exact List.mem_cons_of_mem _ (List.mem_cons_of_mem _ z)
theorem pow_ne {d e : Int} (h : 0 < d) : 0 < d * 10 ^ e.toNat := Int.mul_pos h (pow10_pos _)
local macro_rules | `(tactic| walk_at "call builtin:divmod") => `(tactic| ((with_reducible show wpAny _ _ (call (Value.builtin _) [Value.int _ _, Value.int _ _]) _ _ _); refine divmod_N (by assumption) (by assumption) (by first | omega | exact Int.ne_of_gt (pow_ne (by assumption))) ?_ (Or.inl (noPylong_both (Nat.le_trans (by bits_by_make) (by decide : _ ≤ 9000)))); intro _ _ _))
set_option maxRecDepth 100000
set_option maxHeartbeats 8000000
section
variable {w : World} {mean : ExcName → Option Value} {mg mb : Str → Option Value} {cn : Str} {cs : Scope} {a : Addr} {ccd : Value} {h₀ : Heap} {L : Addr} {m : Str → Option Value} {news : List (Addr × Obj)} {s : Shared} {Q E : Value → Shared → Prop}
theorem round_call {n d e : Int} {tn td te : Tok}
    (B : Below callerA h₀ [] h₀) (F : Fr h₀ L s.heap m) (X : (hd.heap_39 w.params).In h₀) (N : News h₀ L s.heap news) (T : Top hd.view_39 (looseW hd.view_39 [Str.ofString "_round_to_exponent"]) mean mg mb h₀) (hk : cs.kind = .function)
    (hn : 0 ≤ n) (hd : 0 < d) (he0 : -64 ≤ e) (he1 : e ≤ 64) (hbn : Builtin.Int.intBits n ≤ 2000) (hbd : Builtin.Int.intBits d ≤ 2000)
    (hR : ∀ q D t c h' tk', RHE (n * 10 ^ (-e).toNat) (d * 10 ^ e.toNat) q → 0 ≤ q → Builtin.Int.intBits q ≤ 3000 → Fr h₀ L h' m → News h₀ L h' ((D, { cls := .type "tuple", data := .seq #[.bool false, .int q t] c }) :: news) → AllLt D news → Q (.ref D) { s with heap := h', toks := tk' }) :
    wpAny (model Challenge.rw_ls0005_01.row.prog w) (callerA.deeper (envOf cn cs L a ccd)) (call (.ref 29) [.int n tn, .int d td, .int e te]) Q E s := by
  have z0 : (0 : Int) ≤ n * 10 ^ (-e).toNat := Int.mul_nonneg hn (Int.le_of_lt (pow10_pos _))
  have z1 : (0 : Int) < d * 10 ^ e.toNat := pow_ne hd
  revert X; k_fill; intro X
  w_on
  k_with_none
  w_strict (refine wpAny_call ?_; k_dflt (refine' code_def ?k1 ?k2 ?k3 ?k4 ?k5 ?kA ?kF ?kK ?k6 ?k7 ?k8 ?k9 ?kB ?_ ?c2 ?c3 ?c4 ?c5; (case kA => exact rfl); (case kF => exact rfl); (case kK => assumption); (case k1 => k_asm); (case k2 => k_asm); (case k3 => k_asm); (case k4 => k_asm); (case k5 => k_asm); (case k6 => k_is); (case k7 => k_is); (case k8 => k_room); (case k9 => exact binds_K (by k_in) rfl (by k_is) rfl rfl rfl); (case c5 => decide); (case kB => exact locs rfl); (case c2 => exact rfl); (case c3 => exact rfl); (case c4 => exact rfl); k_whole; intro g' L' h' FG' F' N' B' X' T'; (try dsimp only); (try k_lift B'); (try k_fold)); k_steps)
  all_goals (
    refine' round_end hR ?e1 ?e2 ?e3 ?e4 (by assumption) (by assumption) (by assumption)
    (case e3 => first | exact rnd_tie (by assumption) (by assumption) (Nat.le_trans (by bits_by_make) (by decide : _ ≤ 2500)) (Nat.le_trans (by bits_by_make) (by decide : _ ≤ 2500)) (by assumption) (by assumption) | exact rnd_off (by assumption) (by assumption) (Nat.le_trans (by bits_by_make) (by decide : _ ≤ 2500)) (Nat.le_trans (by bits_by_make) (by decide : _ ≤ 2500)) (fun h => absurd h.1 (by assumption)) | exact rnd_off (by assumption) (by assumption) (Nat.le_trans (by bits_by_make) (by decide : _ ≤ 2500)) (Nat.le_trans (by bits_by_make) (by decide : _ ≤ 2500)) (fun h => absurd h.2 (by assumption)))
    (case e1 => first | rfl | (rw [show (-e).toNat = 0 by omega, Int.pow_zero, Int.mul_one]))
    (case e2 => first | rfl | (rw [show e.toNat = 0 by omega, Int.pow_zero, Int.mul_one]))
    (case e4 => exact decide_eq_false (by omega)))
end
end

/-! THE WALK: the inner loop, whole -/
section
def lawBody : List Stmt := match Challenge.pw_ls0005_01.main.body with
  | [_, _, _, _, _, _, _, .FunctionDef _ _ b _ _ _ _ _ _ _] => b
  | _ => []
def lawScope : Scope := match Challenge.pw_ls0005_01.main.body with
  | [_, _, _, _, _, _, _, .FunctionDef _ _ _ _ _ _ s _ _ _] => s
  | _ => default
def innerFor : Stmt := match lawBody with
  | [_, .For _ _ [s] _ _, _] => s
  | _ => .Pass default
/-- the frame's names at the inner loop -/
def inMap (m : Str → Option Value) (l : Addr) (first second n d : Int) (t1 t2 t3 t4 : Tok) : Str → Option Value := fun y =>
  if y = Str.ofString "d" then some (.int d t4) else if y = Str.ofString "n" then some (.int n t3) else if y = Str.ofString "first" then some (.int first t1) else if y = Str.ofString "second" then some (.int second t2) else if y = Str.ofString "script" then some (.ref l) else m y
theorem inMap_eq {m : Str → Option Value} {l : Addr} {first second n d : Int} {t1 t2 t3 t4 : Tok} (e1 : m (Str.ofString "first") = some (.int first t1)) (e2 : m (Str.ofString "second") = some (.int second t2)) (e3 : m (Str.ofString "n") = some (.int n t3)) (e4 : m (Str.ofString "d") = some (.int d t4)) (e5 : m (Str.ofString "script") = some (.ref l)) : inMap m l first second n d t1 t2 t3 t4 = m := by
  funext y
  unfold inMap
  split
  · rename_i h; rw [h, e4]
  split
  · rename_i h; rw [h, e3]
  split
  · rename_i h; rw [h, e1]
  split
  · rename_i h; rw [h, e2]
  split
  · rename_i h; rw [h, e5]
  rfl
def turned : List Str := [Str.ofString "places", Str.ofString "start", Str.ofString "more", Str.ofString "minus", Str.ofString "whole", Str.ofString "root", Str.ofString "above", Str.ofString "below", Str.ofString "side", Str.ofString "part", Str.ofString "due"]
/-- the frame's names behind the inner loop -/
def outMap (m u : Str → Option Value) : Str → Option Value := fun y => if y = Str.ofString "x" then u y else if turned.contains y = true then u y else m y
theorem out_fr {h₀ h : Heap} {L : Addr} {m m' u : Str → Option Value} (e : m' = m) (F : Fr h₀ L h (outMap m' u)) : Fr h₀ L h (outMap m u) := e ▸ F
theorem news3 {h₀ h : Heap} {L : Addr} {a b c : Addr × Obj} {news : List (Addr × Obj)} (N : News h₀ L h (a :: b :: c :: news)) : News h₀ L h news := fun p hp => N p (.tail _ (.tail _ (.tail _ hp)))
local macro_rules | `(tactic| bits_by_make) => `(tactic| first | assumption | exact bits_pow10 (by omega))
theorem mod_letter {prog : Program} {w : World} {A : Around} {E : Value → Shared → Prop} {s : Shared} {a b : Int} {t u : Tok} {Q : Value → Shared → Prop} (hb : 0 < b)
    (h : ∀ r : Int, 0 ≤ r → r < b → r = a.fmod b → Q (.int r s.toks) { s with toks := s.toks + 1 }) : wpAny (model prog w) A (binaryOp .Mod (.int a t) (.int b u)) Q E s :=
  mod_int (Int.ne_of_gt hb) (h _ (Int.fmod_nonneg_of_pos _ hb) (Int.fmod_lt_of_pos _ hb) rfl)
local macro_rules | `(tactic| walk_at "binaryOp Mod int int") => `(tactic| (k_here; (with_reducible refine mod_letter (by first | (with_reducible exact Int.pow_pos (by decide)) | (with_reducible exact (by decide : (0 : Int) < 12)) | (with_reducible exact (by decide : (0 : Int) < 5)) | (with_reducible exact (by decide : (0 : Int) < 2))) ?_); intro r' r0' r1' re'; (try dsimp only)))
local macro_rules | `(tactic| walk_at "binaryOp Pow int int") => `(tactic| (with_reducible refine pow_int ?mn ?ms ?_; (case mn => omega); (case ms => exact pow_rule (by omega) (by omega)); (try dsimp only)))
local macro_rules | `(tactic| walk_at "ite") => `(tactic| (k_here; (fail_if_success k_closed); first | (with_reducible refine split_ine ?_ ?_ <;> intro _) | (with_reducible refine split_ieq ?_ ?_ <;> intro _) | with_reducible refine split_not ?_ | (refine split_dec ?_ ?_ <;> intro _) | (refine split_bool ?_ ?_ <;> intro _)))
theorem in3 {α : Type} {a b c : α} {l own : List α} {p : α} (h : p ∈ a :: b :: c :: l) : p ∈ a :: b :: c :: (l ++ own) := List.mem_append_left (as := a :: b :: c :: l) own h
theorem in3o {α : Type} {a b c : α} {l own : List α} {p : α} (h : p ∈ own) : p ∈ a :: b :: c :: (l ++ own) := List.mem_append_right (a :: b :: c :: l) h
local macro_rules | `(tactic| walk_at "InvEndN") => `(tactic| (k_here; k_dflt ((rename News _ _ _ _ => nE'); (rename Fr _ _ _ _ => fE'); refine' kst_end () fE' nE' ?iA ?iB ?iC True.intro (List.forall_mem_nil _) ?iD True.intro; (case iA => (intro p hp; (repeat (first | (with_reducible exact in3 hp) | (with_reducible refine List.mem_cons_of_mem _ ?_))))); (case iB => (intro p hp; (repeat (first | (with_reducible exact in3o hp) | (with_reducible refine List.mem_cons_of_mem _ ?_))))); (case iC => rfl); (case iD => (intro z h1 h2 h3; have h4 := h3; (simp only [List.contains_cons, List.contains_nil, Bool.or_false, Bool.or_eq_false_iff, beq_eq_false_iff_ne, ne_eq] at h4); (simp only [h1, h3, h4, Bool.false_eq_true, if_false]; done))))))
local macro_rules | `(tactic| walk_at "execs nil") => `(tactic| (k_here; k_dflt (dsimp only)))
local macro_rules | `(tactic| walk_at "ite") => `(tactic| (k_here; k_dflt (dsimp only)))
theorem pos_more {n r : Int} (hn : 0 < n) (hr : 0 ≤ r) : 0 < n * (r + 1) := Int.mul_pos hn (by omega)
local macro_rules | `(tactic| walk_at "call ref") => `(tactic| (k_here; k_dflt (refine' round_call ?k1 ?k2 ?k3 ?k4 ?k5 ?k6 ?a1 ?a2 ?a3 ?a4 ?a5 ?a6 ?_; (case k2 => k_asm); (case k1 => k_asm); (case k3 => k_asm); (case k4 => k_asm); (case k5 => k_asm); (case k6 => exact rfl); (case a1 => first | omega | exact Int.le_of_lt (pos_more (by assumption) (by assumption))); (case a2 => first | omega | exact pos_more (by assumption) (by assumption)); (case a3 => omega); (case a4 => omega); (case a5 => exact Nat.le_trans (by bits_by_make) (by decide : _ ≤ 2000)); (case a6 => exact Nat.le_trans (by bits_by_make) (by decide : _ ≤ 2000)); k_whole; intro q' D' t' c' h' tk' hq' q0' qb' F' N' l1'; (try k_sweep); (try dsimp only))))
local macro_rules | `(tactic| walk_at "call ref") => `(tactic| (k_here; k_dflt (refine' root_call ?k1 ?k2 ?k3 ?k4 ?k5 ?k6 ?a1 ?_ ?_; (case k2 => k_asm); (case k1 => k_asm); (case k3 => k_asm); (case k4 => k_asm); (case k5 => k_asm); (case k6 => exact rfl); (case a1 => exact Nat.le_trans (by assumption : _ ≤ 3000) (by decide)); k_whole; first | (rotate_left; (intro r' t' x0' y0' R'; exfalso; omega); intro z' h' tk' F' N'; (try k_sweep); (try dsimp only)) | ((intro z' h' tk' F' N'; (try k_sweep); (try dsimp only)); rotate_left; (intro r' t' x0' y0' R' rb' h' tk' F' N'; (try k_sweep); (try dsimp only))))))
local macro_rules | `(tactic| walk_at "exec For Name BinOp cons nil") => `(tactic| (k_here; (rename Fr _ _ _ _ => lF'); (with_unfolding_all refine' For_invVF lF' ?k1 ?k2 ?_; (case k1 => exact rfl); (case k2 => exact rfl); k_whole)))
set_option maxRecDepth 100000
set_option maxHeartbeats 8000000
section
variable {w : World} {mean : ExcName → Option Value} {mg mb : Str → Option Value} {a : Addr} {ccd : Value} {h₀ : Heap} {L : Addr} {m : Str → Option Value} {news : List (Addr × Obj)} {s : Shared} {Q : Flow → Shared → Prop} {E : Value → Shared → Prop}
theorem inner_for {first second n d : Int} {t1 t2 t3 t4 : Tok} {l : Addr} {vs : List Value} {ns : List Int}
    (B : Below callerA h₀ [] h₀) (F : Fr h₀ L s.heap m) (X : (hd.heap_39 w.params).In h₀) (N : News h₀ L s.heap news) (T : Top hd.view_39 (looseW hd.view_39 [Str.ofString "_round_to_exponent"]) mean mg mb h₀)
    (e1 : m (Str.ofString "first") = some (.int first t1)) (e2 : m (Str.ofString "second") = some (.int second t2)) (e3 : m (Str.ofString "n") = some (.int n t3)) (e4 : m (Str.ofString "d") = some (.int d t4)) (e5 : m (Str.ofString "script") = some (.ref l))
    (hE : PassesOwn (model Challenge.rw_ls0005_01.row.prog w) (callerA.deeper (envOf (Str.ofString "law") lawScope L a ccd)) (envOf (Str.ofString "law") lawScope L a ccd) E)
    (hl : h₀.IsList l vs.toArray) (hI : IntsAre vs ns) (hlay : (PyData.list (ns.map PyData.int)).layable0 = true) (hlen : ¬ (63 : Int) < ns.length)
    (hf0 : 0 < first) (hs0 : 0 < second) (hn0 : 0 < n) (hd0 : 0 < d) (hbf : Builtin.Int.intBits first ≤ 200) (hbs : Builtin.Int.intBits second ≤ 200) (hbn : Builtin.Int.intBits n ≤ 400) (hbd : Builtin.Int.intBits d ≤ 400)
    (hK : ∀ (u : Str → Option Value) h' tk', Fr h₀ L h' (outMap m u) → News h₀ L h' news → Q .next { s with heap := h', toks := tk' }) :
    wpAny (model Challenge.rw_ls0005_01.row.prog w) (callerA.deeper (envOf (Str.ofString "law") lawScope L a ccd)) (exec innerFor (envOf (Str.ofString "law") lawScope L a ccd)) Q E s := by
  have em := inMap_eq e1 e2 e3 e4 e5
  have hKK : ∀ (u : Str → Option Value) h' tk', Fr h₀ L h' (outMap (inMap m l first second n d t1 t2 t3 t4) u) → News h₀ L h' news → Q .next { s with heap := h', toks := tk' } := fun u h' tk' F' N' => hK u h' tk' (out_fr em F') N'
  rw [← em] at F
  clear hK em e1 e2 e3 e4 e5
  revert X; k_fill; intro X
  w_on
  k_with_none
  k_with "state" => exact True.intro
  k_with "pyIter ref" => k_search (fun _ => True)
  change PassesOwn _ (callerA.deeper (envOf _ ⟨_, _, _, _, _⟩ L a ccd)) (envOf _ ⟨_, _, _, _, _⟩ L a ccd) E at hE
  show wpAny _ (callerA.deeper (envOf _ ⟨_, _, _, _, _⟩ L a ccd)) (exec (Stmt.For _ _ _ _ _) (envOf _ ⟨_, _, _, _, _⟩ L a ccd)) _ _ _
  unfold inMap at F
  w_strict (repeat' (first | (k_unfold; (try dsimp only)) | walk1 | (dsimp only; walk1) | (leave1; walk_say "STEP leave1"; (try dsimp only))))
  all_goals first
    | (exfalso; exact end_small hd0 (by assumption) (by assumption) (by assumption) (by assumption) (by assumption))
    | (exfalso; exact end_hi hd0 (by assumption) (by assumption) (by assumption) (by assumption))
    | (exfalso; exact end_lo hd0 (by assumption) (by assumption) (by assumption) (by assumption))
    | (exfalso; exact end_none hd0 (by assumption) (by assumption) (by assumption) (by assumption) (by assumption))
    | (exfalso; exact end_gt hf0 hs0 (by assumption) (by assumption) (by assumption) (by assumption) (by assumption) (by assumption) (by assumption))
    | (exfalso; exact end_eq1 hf0 hs0 (by assumption) (by assumption) (by assumption) (by assumption) (by assumption) (by assumption) (by assumption) (by assumption) (by assumption))
    | (exfalso; exact end_eq0 hf0 hs0 (by assumption) (by assumption) (by assumption) (by assumption) (by assumption) (by assumption) (by assumption) (by assumption) (by assumption))
    | (exfalso; exact end_lt hf0 hs0 (by assumption) (by assumption) (by assumption) (by assumption) (by assumption) (by assumption) (by assumption) (by assumption))
    | exact hKK _ _ _ (by assumption) (news3 (by assumption))
end
end

/-! THE WALK: the law -/
section
def nthOf (xs : List Int) (i d : Int) : Int := if i < (xs.length : Int) then xs.getD i.toNat 0 else d
theorem bits_first (x : Int) : Builtin.Int.intBits (x.fmod (10 ^ Int.toNat 30 - 1) + 1) ≤ 200 := by
  have h0 : (0 : Int) < 10 ^ Int.toNat 30 - 1 := by decide +kernel
  have h1 := Int.fmod_nonneg_of_pos x h0
  have h2 := Int.fmod_lt_of_pos x h0
  have e : (10 : Int) ^ Int.toNat 30 - 1 = 999999999999999999999999999999 := by decide +kernel
  rw [e] at h1 h2 ⊢
  refine intBits_le_iff.mpr ?_
  have : (1000000000000000000000000000000 : Nat) < 2 ^ 200 := by decide +kernel
  omega
theorem pos_first (x : Int) : 0 < x.fmod (10 ^ Int.toNat 30 - 1) + 1 := by
  have h0 : (0 : Int) < 10 ^ Int.toNat 30 - 1 := by decide +kernel
  have h1 := Int.fmod_nonneg_of_pos x h0
  omega
theorem bits_second (x : Int) : Builtin.Int.intBits (x.fmod (10 ^ Int.toNat 15 - 1) + 1) ≤ 200 := by
  have h0 : (0 : Int) < 10 ^ Int.toNat 15 - 1 := by decide +kernel
  have h1 := Int.fmod_nonneg_of_pos x h0
  have h2 := Int.fmod_lt_of_pos x h0
  have e : (10 : Int) ^ Int.toNat 15 - 1 = 999999999999999 := by decide +kernel
  rw [e] at h1 h2 ⊢
  refine intBits_le_iff.mpr ?_
  have : (1000000000000000 : Nat) < 2 ^ 200 := by decide +kernel
  omega
theorem pos_second (x : Int) : 0 < x.fmod (10 ^ Int.toNat 15 - 1) + 1 := by
  have h0 : (0 : Int) < 10 ^ Int.toNat 15 - 1 := by decide +kernel
  have h1 := Int.fmod_nonneg_of_pos x h0
  omega
theorem bits_sq {x : Int} (h : Builtin.Int.intBits x ≤ 200) : Builtin.Int.intBits (x * x) ≤ 400 := intBits_mul_le h h

end
end Mine

open Mine
local macro_rules | `(tactic| bits_by_make) => `(tactic| first | assumption | exact bits_first _ | exact bits_second _)
local macro_rules | `(tactic| walk_at "exec For Name BinOp cons nil") => `(tactic| (k_here; k_dflt (refine' inner_for ?k1 ?k2 ?k3 ?k4 ?k5 ?e1 ?e2 ?e3 ?e4 ?e5 ?kE ?l1 ?l2 ?l3 ?l4 ?p1 ?p2 ?p3 ?p4 ?b1 ?b2 ?b3 ?b4 ?_; (case k2 => k_asm); (case k1 => k_asm); (case k3 => k_asm); (case k4 => k_asm); (case k5 => k_asm); (case e1 => rfl); (case e2 => rfl); (case e3 => rfl); (case e4 => rfl); (case e5 => rfl); (case kE => passes_own); (case l1 => k_asm); (case l2 => k_asm); (case l3 => k_asm); (case l4 => assumption); (case p1 => exact pos_first _); (case p2 => exact pos_second _); (case p3 => first | decide | exact pos_first _ | exact Int.mul_pos (pos_first _) (pos_first _)); (case p4 => first | decide | exact pos_second _ | exact Int.mul_pos (pos_second _) (pos_second _)); (case b1 => exact bits_first _); (case b2 => exact bits_second _); (case b3 => first | exact Nat.le_trans (bits_first _) (by decide) | exact bits_sq (bits_first _) | decide); (case b4 => first | exact Nat.le_trans (bits_second _) (by decide) | exact bits_sq (bits_second _) | decide); k_whole; intro u' h' tk' F' N'; (try k_sweep); (try dsimp only))))
set_option maxRecDepth 100000 in
set_option maxHeartbeats 8000000 in
theorem PySem.Challenge.cw_ls0005_01_holds : PySem.Challenge.rw_ls0005_01.Holds := by
  refine Mine.hd ?_
  k_with_none
  k_with "call ref" => k_call_by "_law_nth" Mine.nthOf (fun (_ : List Int) (i _ : Int) => 0 ≤ i)
  k_with "tree" => simp only [Mine.nthOf]
  w_strict (k_go0; (all_goals try k_fold); k_steps)
