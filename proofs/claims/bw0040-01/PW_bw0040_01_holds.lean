import PyProof.Rows.All
import Wide.All
import OpenK.AllK
import Wide.FinOn
import Lean
import PySem.Challenge.RW_bw0040_01
set_option Elab.async false
set_option rowWalk.seconds 0
set_option maxRecDepth 100000
namespace Mine
section
def EInv (a n lm low hm high : Int) : Prop := 2 ≤ high ∧ 1 < n ∧ (∃ k, low = lm * a + k * n) ∧ (∃ k, high = hm * a + k * n) ∧ Int.gcd low high = 1

theorem gcd_emod' (a n : Int) : Int.gcd (a % n) n = Int.gcd a n := by
  have e : a % n = a + n * (-(a / n)) := by have := Int.mul_ediv_add_emod a n; rw [Int.mul_neg]; omega
  rw [e, Int.gcd_add_mul_left_left]

theorem einv_start {a n : Int} (hn : 2 ≤ n) (hn2 : n < 128) (hg : Int.gcd a n = 1) : 0 ≤ a.fmod n ∧ a.fmod n < n ∧ n < 128 ∧ EInv a n 1 (a.fmod n) 0 n := by
  have e : a.fmod n = a % n := Int.fmod_eq_emod_of_nonneg a (by omega)
  rw [e]
  refine ⟨Int.emod_nonneg _ (by omega), Int.emod_lt_of_pos _ (by omega), hn2, hn, by omega, ⟨-(a / n), ?_⟩, ⟨1, by omega⟩, ?_⟩
  · have := Int.mul_ediv_add_emod a n
    rw [Int.neg_mul, Int.mul_comm (a / n) n]; omega
  · rw [gcd_emod']; exact hg

theorem einv_step {a n lm low hm high : Int} (h0 : 0 ≤ low) (h1 : low < high) (h2 : high < 128) (hl : 1 < low) (h : EInv a n lm low hm high) :
    0 ≤ high - low * high.fdiv low ∧ high - low * high.fdiv low < low ∧ low < 128 ∧ EInv a n (hm - lm * high.fdiv low) (high - low * high.fdiv low) lm low := by
  obtain ⟨g1, g2, ⟨k1, e1⟩, ⟨k2, e2⟩, g⟩ := h
  have e : high - low * high.fdiv low = high % low := by
    rw [Int.fdiv_eq_ediv_of_nonneg high (by omega)]
    have := Int.mul_ediv_add_emod high low; omega
  refine ⟨?_, ?_, by omega, by omega, g2, ⟨k2 - k1 * high.fdiv low, ?_⟩, ⟨k1, e1⟩, ?_⟩
  · rw [e]; exact Int.emod_nonneg _ (by omega)
  · rw [e]; exact Int.emod_lt_of_pos _ (by omega)
  · grind
  · rw [e, gcd_emod', Int.gcd_comm]; exact g

theorem einv_end {a n lm low hm high : Int} (h0 : 0 ≤ low) (h1 : low < high) (hl : ¬ 1 < low) (h : EInv a n lm low hm high) :
    0 ≤ lm.fmod n ∧ lm.fmod n < n ∧ (a * lm.fmod n) % n = 1 := by
  obtain ⟨g1, g2, ⟨k1, e1⟩, ⟨k2, e2⟩, g⟩ := h
  have hl1 : low = 1 := by
    rcases (by omega : low = 0 ∨ low = 1) with h | h
    · rw [h, Int.gcd_zero_left] at g; omega
    · exact h
  have e : lm.fmod n = lm % n := Int.fmod_eq_emod_of_nonneg lm (by omega)
  rw [e]
  refine ⟨Int.emod_nonneg _ (by omega), Int.emod_lt_of_pos _ (by omega), ?_⟩
  rw [Int.mul_emod, Int.emod_emod_of_dvd _ (Int.dvd_refl n), ← Int.mul_emod]
  have : a * lm = 1 + (-k1) * n := by grind
  rw [this, Int.add_mul_emod_self_right]
  exact Int.emod_eq_of_lt (by omega) (by omega)

theorem emeas {low high : Int} (h1 : low < high) (hl : 1 < low) : (high - low * high.fdiv low).toNat < low.toNat := by
  have e : high - low * high.fdiv low = high % low := by
    rw [Int.fdiv_eq_ediv_of_nonneg high (by omega)]
    have := Int.mul_ediv_add_emod high low; omega
  have h1 := Int.emod_nonneg high (show low ≠ 0 by omega)
  have h2 := Int.emod_lt_of_pos high (show 0 < low by omega)
  omega

theorem fdiv_small {low high : Int} (h0 : 0 ≤ low) (h1 : 0 ≤ high) : -(2^64) < high.fdiv low ∧ high.fdiv low ≤ high := by
  rw [Int.fdiv_eq_ediv_of_nonneg high h0]
  have h2 := Int.ediv_nonneg h1 h0
  exact ⟨by omega, Int.ediv_le_self _ h1⟩

end
section
open Lean.Grind

structure HomP (p : Int) (R : Type) [CommRing R] (φ : Int → R) : Prop where
  add : ∀ x y, φ (x + y) = φ x + φ y
  mul : ∀ x y, φ (x * y) = φ x * φ y
  sub : ∀ x y, φ (x - y) = φ x - φ y
  neg : ∀ x, φ (-x) = - φ x
  lit : ∀ n : Nat, φ (OfNat.ofNat n) = OfNat.ofNat n
  pow : ∀ x (n : Nat), φ (x ^ n) = φ x ^ n
  mod : ∀ x, φ (x.fmod p) = φ x
  zero : ∀ x, φ x = 0 ↔ x % p = 0

theorem HomP.exists {p : Int} (hp : 2 ≤ p) : ∃ (R : Type) (_ : CommRing R) (φ : Int → R), HomP p R φ := by
  obtain ⟨q, rfl⟩ : ∃ q : Nat, p = q := ⟨p.toNat, by omega⟩
  have hq : q ≠ 0 := by omega
  haveI : NeZero q := ⟨hq⟩
  let φ : Int → Fin q := fun x => @IntCast.intCast (Fin q) Ring.intCast x
  have hz : ∀ x, φ x = 0 ↔ x % (q : Int) = 0 := fun x => IsCharP.intCast_eq_zero_iff q x
  have hadd : ∀ x y, φ (x + y) = φ x + φ y := fun x y => Ring.intCast_add x y
  have hmul : ∀ x y, φ (x * y) = φ x * φ y := fun x y => Ring.intCast_mul x y
  have hlit : ∀ n : Nat, φ (OfNat.ofNat n) = OfNat.ofNat n := fun n => Ring.intCast_ofNat n
  refine ⟨Fin q, inferInstance, φ, hadd, hmul, fun x y => Ring.intCast_sub x y, fun x => Ring.intCast_neg x, hlit, ?_, ?_, hz⟩
  · intro x n
    induction n with
    | zero => rw [Int.pow_zero, Semiring.pow_zero]; exact hlit 1
    | succ n ih => rw [Int.pow_succ, hmul, ih, Semiring.pow_succ]
  · intro x
    have e : x = x.fmod q + (x / q) * q := by
      rw [Int.fmod_eq_emod_of_nonneg x (by omega)]
      have := Int.mul_ediv_add_emod x q; rw [Int.mul_comm] at this; omega
    have h0 : φ (q : Int) = 0 := (hz _).mpr (by simp)
    conv => rhs; rw [e, hadd, hmul, h0]
    rw [Semiring.mul_zero, Semiring.add_zero]

section
variable {R : Type} [CommRing R]
theorem dbl_x (x y a x3 X Y Z : R) (hX : X = x*Z^2) (hY : Y = y*Z^3) (h1 : (x3+2*x)*(4*y^2) = (3*x^2+a)^2) :
  (3*X^2 + a*Z^4)^2 - 2*(4*X*Y^2) = x3 * (2*Y*Z)^2 := by grind
theorem dbl_y_id (x y a x3 y3 Z : R) :
  (3*(x*Z^2)^2 + a*Z^4)*(4*(x*Z^2)*(y*Z^3)^2 - x3*(2*(y*Z^3)*Z)^2) - 8*((y*Z^3)^2)^2 = y3 * (2*(y*Z^3)*Z)^3 - Z^12*(4*y^2)*((y3+y)*(2*y) - (3*x^2+a)*(x-x3)) := by grind
theorem dbl_y (x y a x3 y3 X Y Z : R) (hX : X = x*Z^2) (hY : Y = y*Z^3) (h2 : (y3+y)*(2*y) = (3*x^2+a)*(x-x3)) :
  (3*X^2 + a*Z^4)*(4*X*Y^2 - x3*(2*Y*Z)^2) - 8*(Y^2)^2 = y3 * (2*Y*Z)^3 := by
  subst hX hY
  rw [dbl_y_id x y a x3 y3 Z, h2]
  have : ∀ u v : R, u - v * ((3*x^2+a)*(x-x3) - (3*x^2+a)*(x-x3)) = u := by intro u v; grind
  exact this _ _
theorem add_x_id (x1 y1 x2 y2 x3 Z1 Z2 : R) :
  ((y2*Z2^3)*Z1^3 - (y1*Z1^3)*Z2^3)^2 - ((x2*Z2^2)*Z1^2 - (x1*Z1^2)*Z2^2)*(((x2*Z2^2)*Z1^2 - (x1*Z1^2)*Z2^2)*((x2*Z2^2)*Z1^2 - (x1*Z1^2)*Z2^2)) - 2*((x1*Z1^2)*Z2^2*(((x2*Z2^2)*Z1^2 - (x1*Z1^2)*Z2^2)*((x2*Z2^2)*Z1^2 - (x1*Z1^2)*Z2^2))) = x3 * (((x2*Z2^2)*Z1^2 - (x1*Z1^2)*Z2^2)*Z1*Z2)^2 - Z1^6*Z2^6*((x3+x1+x2)*(x2-x1)^2 - (y2-y1)^2) := by grind
theorem add_x (x1 y1 x2 y2 x3 Z1 Z2 X1 Y1 X2 Y2 : R) (hX : X1 = x1*Z1^2) (hY : Y1 = y1*Z1^3) (hX2 : X2 = x2*Z2^2) (hY2 : Y2 = y2*Z2^3)
  (h1 : (x3+x1+x2)*(x2-x1)^2 = (y2-y1)^2) (H S : R) (hH : H = X2*Z1^2 - X1*Z2^2) (hR : S = Y2*Z1^3 - Y1*Z2^3) :
  S^2 - H*(H*H) - 2*(X1*Z2^2*(H*H)) = x3 * (H*Z1*Z2)^2 := by
  subst hH hR hX hY hX2 hY2
  rw [add_x_id x1 y1 x2 y2 x3 Z1 Z2, h1]
  have : ∀ u v w : R, u - v * (w - w) = u := by intro u v w; grind
  exact this _ _ _
theorem add_y_id (x1 y1 x2 y2 x3 y3 w : R) :
  (y2*w^3 - y1*w^3)*(x1*w^2*((x2*w^2 - x1*w^2)*(x2*w^2 - x1*w^2)) - x3 * ((x2*w^2 - x1*w^2)*w)^2) - y1*w^3*((x2*w^2 - x1*w^2)*((x2*w^2 - x1*w^2)*(x2*w^2 - x1*w^2))) = y3 * ((x2*w^2 - x1*w^2)*w)^3 - w^9*(x2-x1)^2*((y3+y1)*(x2-x1) - (y2-y1)*(x1-x3)) := by grind
theorem add_y (x1 y1 x2 y2 x3 y3 Z1 Z2 X1 Y1 X2 Y2 : R) (hX : X1 = x1*Z1^2) (hY : Y1 = y1*Z1^3) (hX2 : X2 = x2*Z2^2) (hY2 : Y2 = y2*Z2^3)
  (h2 : (y3+y1)*(x2-x1) = (y2-y1)*(x1-x3)) (H S : R) (hH : H = X2*Z1^2 - X1*Z2^2) (hR : S = Y2*Z1^3 - Y1*Z2^3) :
  S*(X1*Z2^2*(H*H) - x3 * (H*Z1*Z2)^2) - Y1*Z2^3*(H*(H*H)) = y3 * (H*Z1*Z2)^3 := by
  have eH : H = x2*(Z1*Z2)^2 - x1*(Z1*Z2)^2 := by rw [hH, hX, hX2]; grind
  have eS : S = y2*(Z1*Z2)^3 - y1*(Z1*Z2)^3 := by rw [hR, hY, hY2]; grind
  have eU : X1*Z2^2 = x1*(Z1*Z2)^2 := by rw [hX]; grind
  have eT : Y1*Z2^3 = y1*(Z1*Z2)^3 := by rw [hY]; grind
  have eZ : H*Z1*Z2 = H*(Z1*Z2) := by grind
  rw [eU, eT, eZ, eH, eS]
  rw [add_y_id x1 y1 x2 y2 x3 y3 (Z1*Z2), h2]
  have : ∀ u v w : R, u - v * (w - w) = u := by intro u v w; grind
  exact this _ _ _
end

end
section
open Lean.Grind

def fp (u e p : Int) : Int := ((PySem.Builtin.powMod (u % p).toNat e.natAbs p.natAbs : Nat) : Int)

structure Crv (p n a b gx gy : Int) (X Y : Int → Int) : Prop where
  p_lo : 11 ≤ p
  p_hi : p ≤ 127
  n_lo : 13 ≤ n
  n_hi : n ≤ 127
  a_lo : 0 ≤ a
  a_hi : a ≤ 6
  b_lo : 0 < b
  b_hi : b ≤ 7
  oneX : X 1 = gx
  oneY : Y 1 = gy
  rng : ∀ i, 0 < i → i < n → 0 ≤ X i ∧ X i < p ∧ 0 < Y i ∧ Y i < p
  on : ∀ i, 0 < i → i < n → ((Y i)^2 - ((X i)^3 + a * X i + b)) % p = 0
  dbl : ∀ i, 0 < i → i < n → ((X ((2*i)%n) + 2 * X i) * (4 * (Y i)^2) - (3 * (X i)^2 + a)^2) % p = 0 ∧ ((Y ((2*i)%n) + Y i) * (2 * Y i) - (3 * (X i)^2 + a) * (X i - X ((2*i)%n))) % p = 0
  add : ∀ i j, 0 < i → i < n → 0 < j → j < n → i ≠ j → i + j ≠ n → X i ≠ X j ∧ ((X ((i+j)%n) + X i + X j) * (X j - X i)^2 - (Y j - Y i)^2) % p = 0 ∧ ((Y ((i+j)%n) + Y i) * (X j - X i) - (Y j - Y i) * (X i - X ((i+j)%n))) % p = 0
  neg : ∀ i, 0 < i → i < n → X (n - i) = X i ∧ Y (n - i) = p - Y i
  pr : ∀ u, u % p ≠ 0 → Int.gcd u p = 1
  npr : ∀ u, u % n ≠ 0 → Int.gcd u n = 1
  fer : ∀ u, u % p ≠ 0 → (fp u (p - 2) p * u) % p = 1

section
variable {p n a b gx gy : Int} {X Y : Int → Int}

theorem emod_small {x m : Int} (h0 : 0 ≤ x) (h1 : x < m) : x % m = x := Int.emod_eq_of_lt h0 h1

theorem int_dvd {p u v : Int} (h : p ∣ u * v) (g : Int.gcd p u = 1) : p ∣ v := by
  have h1 : p.natAbs ∣ u.natAbs * v.natAbs := by rw [← Int.natAbs_mul]; exact Int.natAbs_dvd_natAbs.mpr h
  have h2 : Nat.Coprime p.natAbs u.natAbs := g
  exact Int.natAbs_dvd_natAbs.mp (h2.dvd_of_dvd_mul_left h1)
/-- no zero divisors mod p -/
theorem Crv.mul_ne (c : Crv p n a b gx gy X Y) {u v : Int} (hu : u % p ≠ 0) (hv : v % p ≠ 0) : (u * v) % p ≠ 0 := by
  intro h
  have h1 : p ∣ u * v := Int.dvd_of_emod_eq_zero h
  have h2 : Int.gcd p u = 1 := by rw [Int.gcd_comm]; exact c.pr u hu
  have h3 : p ∣ v := int_dvd h1 h2
  exact hv (Int.emod_eq_zero_of_dvd h3)
theorem Crv.nmul_ne (c : Crv p n a b gx gy X Y) {u v : Int} (hu : u % n ≠ 0) (hv : v % n ≠ 0) : (u * v) % n ≠ 0 := by
  intro h
  have h1 : n ∣ u * v := Int.dvd_of_emod_eq_zero h
  have h2 : Int.gcd n u = 1 := by rw [Int.gcd_comm]; exact c.npr u hu
  have h3 : n ∣ v := int_dvd h1 h2
  exact hv (Int.emod_eq_zero_of_dvd h3)
theorem Crv.pow_ne (c : Crv p n a b gx gy X Y) {u : Int} (hu : u % p ≠ 0) (k : Nat) : (u ^ k) % p ≠ 0 := by
  induction k with
  | zero => rw [Int.pow_zero, emod_small (by omega) (by have := c.p_lo; omega)]; omega
  | succ k ih => rw [Int.pow_succ]; exact c.mul_ne ih hu
theorem Crv.small_ne (c : Crv p n a b gx gy X Y) {u : Int} (h0 : 0 < u) (h1 : u < p) : u % p ≠ 0 := by rw [emod_small (by omega) h1]; omega
theorem Crv.two_ne (c : Crv p n a b gx gy X Y) : (2 : Int) % p ≠ 0 := by have := c.p_lo; exact c.small_ne (by omega) (by omega)
theorem Crv.sub_ne (c : Crv p n a b gx gy X Y) {u v : Int} (hu : 0 ≤ u) (hu' : u < p) (hv : 0 ≤ v) (hv' : v < p) (h : u ≠ v) : (u - v) % p ≠ 0 := by
  intro h'
  have h1 := Int.mul_ediv_add_emod (u - v) p
  rw [h'] at h1
  have h2 : p * ((u - v) / p) = u - v := by omega
  rcases Int.lt_trichotomy ((u - v) / p) 0 with h3 | h3 | h3
  · have : p * ((u - v) / p) ≤ p * (-1) := Int.mul_le_mul_of_nonneg_left (by omega) (by omega)
    omega
  · rw [h3] at h2; omega
  · have : p * 1 ≤ p * ((u - v) / p) := Int.mul_le_mul_of_nonneg_left (by omega) (by omega)
    omega
theorem fmod_rng {x p : Int} (h : 0 < p) : 0 ≤ x.fmod p ∧ x.fmod p < p := by
  rw [Int.fmod_eq_emod_of_nonneg x (by omega)]
  exact ⟨Int.emod_nonneg _ (by omega), Int.emod_lt_of_pos _ h⟩
theorem fmod_mod {x p : Int} (h : 0 < p) : x.fmod p % p = x % p := by
  rw [Int.fmod_eq_emod_of_nonneg x (by omega), Int.emod_emod_of_dvd _ (Int.dvd_refl p)]
theorem fmod_e {x p : Int} (h : 0 < p) : x.fmod p = x % p := Int.fmod_eq_emod_of_nonneg x (by omega)
theorem mod_ne_of_fmod {x p : Int} (h : 0 < p) (hx : x % p ≠ 0) : x.fmod p ≠ 0 := by rw [fmod_e h]; exact hx

/-- a triple stands for the point i -/
def Rep (p : Int) (X Y : Int → Int) (i x y z : Int) : Prop :=
  (0 ≤ x ∧ x < p) ∧ (0 ≤ y ∧ y < p) ∧ (0 ≤ z ∧ z < p) ∧ z % p ≠ 0 ∧ (x - X i * z ^ 2) % p = 0 ∧ (y - Y i * z ^ 3) % p = 0

theorem HomP.eqv {R : Type} [CommRing R] {φ : Int → R} (h : HomP p R φ) {x y : Int} : (x - y) % p = 0 ↔ φ x = φ y := by
  rw [← h.zero, h.sub]
  constructor
  · intro e; grind
  · intro e; grind
theorem HomP.ne {R : Type} [CommRing R] {φ : Int → R} (h : HomP p R φ) {x : Int} : x % p ≠ 0 ↔ φ x ≠ 0 := by rw [Ne, ← h.zero]
theorem eq_of_mod {x y p : Int} (hx : 0 ≤ x) (hx' : x < p) (hy : 0 ≤ y) (hy' : y < p) (h : (x - y) % p = 0) : x = y := by
  have h1 := Int.mul_ediv_add_emod (x - y) p
  rw [h] at h1
  have h2 : p * ((x - y) / p) = x - y := by omega
  rcases Int.lt_trichotomy ((x - y) / p) 0 with h3 | h3 | h3
  · have : p * ((x - y) / p) ≤ p * (-1) := Int.mul_le_mul_of_nonneg_left (by omega) (by omega)
    omega
  · rw [h3] at h2; omega
  · have : p * 1 ≤ p * ((x - y) / p) := Int.mul_le_mul_of_nonneg_left (by omega) (by omega)
    omega

theorem Rep.y_ne (c : Crv p n a b gx gy X Y) {i x y z : Int} (hi : 0 < i) (hi' : i < n) (r : Rep p X Y i x y z) : y ≠ 0 := by
  intro h
  obtain ⟨_, _, _, hz, _, hy⟩ := r
  obtain ⟨_, _, q1, q2⟩ := c.rng i hi hi'
  have h1 : (Y i * z ^ 3) % p ≠ 0 := c.mul_ne (c.small_ne q1 q2) (c.pow_ne hz 3)
  rw [h] at hy
  apply h1
  have : p ∣ 0 - Y i * z ^ 3 := Int.dvd_of_emod_eq_zero hy
  rw [Int.zero_sub] at this
  exact Int.emod_eq_zero_of_dvd ((Int.dvd_neg).mp this)

theorem Crv.idx2 (c : Crv p n a b gx gy X Y) {i : Int} (hi : 0 < i) (hi' : i < n) : 0 < (2*i) % n ∧ (2*i) % n < n := by
  have h1 : (2 * i) % n ≠ 0 := c.nmul_ne (by rw [emod_small (by omega) (by have := c.n_lo; omega)]; omega) (by rw [emod_small (by omega) hi']; omega)
  have h2 := Int.emod_nonneg (2 * i) (by omega : n ≠ 0)
  have h3 := Int.emod_lt_of_pos (2 * i) (by omega : 0 < n)
  omega

theorem rep_dbl (c : Crv p n a b gx gy X Y) {i x y z : Int} (hi : 0 < i) (hi' : i < n) (r : Rep p X Y i x y z) :
    Rep p X Y ((2*i) % n)
      (((3 * x ^ Int.toNat 2 + a * z ^ Int.toNat 4).fmod p ^ Int.toNat 2 - 2 * (4 * x * (y ^ Int.toNat 2).fmod p).fmod p).fmod p)
      (((3 * x ^ Int.toNat 2 + a * z ^ Int.toNat 4).fmod p * ((4 * x * (y ^ Int.toNat 2).fmod p).fmod p - ((3 * x ^ Int.toNat 2 + a * z ^ Int.toNat 4).fmod p ^ Int.toNat 2 - 2 * (4 * x * (y ^ Int.toNat 2).fmod p).fmod p).fmod p) - 8 * (y ^ Int.toNat 2).fmod p ^ Int.toNat 2).fmod p)
      ((2 * y * z).fmod p) := by
  have hp0 : 0 < p := by have := c.p_lo; omega
  have hy0 := r.y_ne c hi hi'
  obtain ⟨hx, hy, hz, hzn, ex, ey⟩ := r
  obtain ⟨d1, d2⟩ := c.dbl i hi hi'
  obtain ⟨R, _, φ, h⟩ := HomP.exists (p := p) (by have := c.p_lo; omega)
  rw [h.eqv] at ex ey d1 d2
  have e2 : Int.toNat 2 = 2 := rfl
  have e4 : Int.toNat 4 = 4 := rfl
  rw [e2, e4]
  simp only [h.mul, h.pow, h.add, h.sub, h.lit] at ex ey d1 d2
  have nx : φ (((3 * x ^ 2 + a * z ^ 4).fmod p ^ 2 - 2 * (4 * x * (y ^ 2).fmod p).fmod p).fmod p) = φ (X (2 * i % n)) * (2 * φ y * φ z) ^ 2 := by
    simp only [h.mod, h.mul, h.pow, h.add, h.sub, h.lit]
    exact dbl_x _ _ _ _ _ _ _ ex ey d1
  refine ⟨fmod_rng hp0, fmod_rng hp0, fmod_rng hp0, ?_, ?_, ?_⟩
  · rw [fmod_mod hp0]
    exact c.mul_ne (c.mul_ne c.two_ne (by rw [emod_small hy.1 hy.2]; exact hy0)) hzn
  · rw [h.eqv, nx]
    simp only [h.mod, h.mul, h.pow, h.lit]
  · rw [h.eqv]
    simp only [h.mod, h.mul, h.sub, h.pow, h.lit, h.add] at nx ⊢
    rw [nx]
    exact dbl_y _ _ _ _ _ _ _ _ ex ey d2
end

end
section
open Lean.Grind
section
variable {p n a b gx gy : Int} {X Y : Int → Int}

theorem Crv.idxA (c : Crv p n a b gx gy X Y) {i j : Int} (hi : 0 < i) (hi' : i < n) (hj : 0 < j) (hj' : j < n) (hn : i + j ≠ n) : 0 < (i + j) % n ∧ (i + j) % n < n := by
  have h2 := Int.emod_nonneg (i + j) (by omega : n ≠ 0)
  have h3 := Int.emod_lt_of_pos (i + j) (by omega : 0 < n)
  have h1 : (i + j) % n ≠ 0 := by
    by_cases h : i + j < n
    · rw [emod_small (by omega) h]; omega
    · have e : i + j = (i + j - n) + n := by omega
      rw [e, Int.add_emod_right, emod_small (by omega) (by omega)]; omega
  omega

theorem U_ne (c : Crv p n a b gx gy X Y) {i j x1 y1 z1 x2 y2 z2 : Int} (hi : 0 < i) (hi' : i < n) (hj : 0 < j) (hj' : j < n) (hij : i ≠ j) (hn : i + j ≠ n)
    (r1 : Rep p X Y i x1 y1 z1) (r2 : Rep p X Y j x2 y2 z2) : (x2 * z1 ^ 2 - x1 * z2 ^ 2) % p ≠ 0 := by
  have hp0 : 0 < p := by have := c.p_lo; omega
  obtain ⟨_, _, _, hz1, e1, _⟩ := r1
  obtain ⟨_, _, _, hz2, e2, _⟩ := r2
  have ha := (c.add i j hi hi' hj hj' hij hn).1
  have q1 := c.rng i hi hi'
  have q2 := c.rng j hj hj'
  have hs : (X j - X i) % p ≠ 0 := c.sub_ne q2.1 q2.2.1 q1.1 q1.2.1 (Ne.symm ha)
  have hm : ((X j - X i) * (z1 ^ 2 * z2 ^ 2)) % p ≠ 0 := c.mul_ne hs (c.mul_ne (c.pow_ne hz1 2) (c.pow_ne hz2 2))
  obtain ⟨R, _, φ, h⟩ := HomP.exists (p := p) (by have := c.p_lo; omega)
  rw [h.eqv] at e1 e2
  rw [h.ne] at hm ⊢
  simp only [h.mul, h.sub, h.pow] at e1 e2 hm ⊢
  intro hh
  apply hm
  rw [e1, e2] at hh
  grind

theorem fmod_ne {u v p : Int} (hp : 0 < p) (h : (u - v) % p ≠ 0) : v.fmod p ≠ u.fmod p := by
  intro e
  apply h
  rw [fmod_e hp, fmod_e hp] at e
  exact Int.emod_eq_emod_iff_emod_sub_eq_zero.mp e.symm

theorem rep_add (c : Crv p n a b gx gy X Y) {i j x1 y1 z1 x2 y2 z2 U1 U2 S1 S2 H S H2 H3 UH nx ny nz : Int} (hi : 0 < i) (hi' : i < n) (hj : 0 < j) (hj' : j < n) (hij : i ≠ j) (hn : i + j ≠ n)
    (r1 : Rep p X Y i x1 y1 z1) (r2 : Rep p X Y j x2 y2 z2)
    (hU1 : U1 = (x1 * z2 ^ Int.toNat 2).fmod p) (hU2 : U2 = (x2 * z1 ^ Int.toNat 2).fmod p) (hS1 : S1 = (y1 * z2 ^ Int.toNat 3).fmod p) (hS2 : S2 = (y2 * z1 ^ Int.toNat 3).fmod p)
    (hH : H = U2 - U1) (hS : S = S2 - S1) (hH2 : H2 = (H * H).fmod p) (hH3 : H3 = (H * H2).fmod p) (hUH : UH = (U1 * H2).fmod p)
    (hnx : nx = (S ^ Int.toNat 2 - H3 - 2 * UH).fmod p) (hny : ny = (S * (UH - nx) - S1 * H3).fmod p) (hnz : nz = (H * z1 * z2).fmod p) :
    Rep p X Y ((i + j) % n) nx ny nz := by
  have hp0 : 0 < p := by have := c.p_lo; omega
  have e2 : Int.toNat 2 = 2 := rfl
  have e3 : Int.toNat 3 = 3 := rfl
  rw [e2] at hU1 hU2 hnx
  rw [e3] at hS1 hS2
  have hUne := U_ne c hi hi' hj hj' hij hn r1 r2
  obtain ⟨_, _, _, hz1, ex1, ey1⟩ := r1
  obtain ⟨_, _, _, hz2, ex2, ey2⟩ := r2
  obtain ⟨_, d1, d2⟩ := c.add i j hi hi' hj hj' hij hn
  obtain ⟨R, _, φ, h⟩ := HomP.exists (p := p) (by have := c.p_lo; omega)
  rw [h.eqv] at ex1 ey1 ex2 ey2 d1 d2
  simp only [h.mul, h.pow, h.add, h.sub, h.lit] at ex1 ey1 ex2 ey2 d1 d2
  have fU1 : φ U1 = φ x1 * φ z2 ^ 2 := by rw [hU1]; simp only [h.mod, h.mul, h.pow]
  have fU2 : φ U2 = φ x2 * φ z1 ^ 2 := by rw [hU2]; simp only [h.mod, h.mul, h.pow]
  have fS1 : φ S1 = φ y1 * φ z2 ^ 3 := by rw [hS1]; simp only [h.mod, h.mul, h.pow]
  have fS2 : φ S2 = φ y2 * φ z1 ^ 3 := by rw [hS2]; simp only [h.mod, h.mul, h.pow]
  have fH : φ H = φ x2 * φ z1 ^ 2 - φ x1 * φ z2 ^ 2 := by rw [hH, h.sub, fU1, fU2]
  have fS : φ S = φ y2 * φ z1 ^ 3 - φ y1 * φ z2 ^ 3 := by rw [hS, h.sub, fS1, fS2]
  have fH2 : φ H2 = φ H * φ H := by rw [hH2]; simp only [h.mod, h.mul]
  have fH3 : φ H3 = φ H * (φ H * φ H) := by rw [hH3]; simp only [h.mod, h.mul, fH2]
  have fUH : φ UH = φ x1 * φ z2 ^ 2 * (φ H * φ H) := by rw [hUH]; simp only [h.mod, h.mul, fH2, fU1]
  have fnx : φ nx = φ (X ((i + j) % n)) * (φ H * φ z1 * φ z2) ^ 2 := by
    rw [hnx]; simp only [h.mod, h.mul, h.sub, h.pow, h.lit, fH3, fUH]
    exact add_x _ _ _ _ _ _ _ _ _ _ _ ex1 ey1 ex2 ey2 d1 _ _ fH fS
  have fny : φ ny = φ (Y ((i + j) % n)) * (φ H * φ z1 * φ z2) ^ 3 := by
    rw [hny]; simp only [h.mod, h.mul, h.sub, fH3, fUH, fnx, fS1]
    exact add_y _ _ _ _ _ _ _ _ _ _ _ _ ex1 ey1 ex2 ey2 d2 _ _ fH fS
  have fnz : φ nz = φ H * φ z1 * φ z2 := by rw [hnz]; simp only [h.mod, h.mul]
  have hHne : H % p ≠ 0 := by
    rw [h.ne] at hUne ⊢
    rw [fH]; simpa only [h.mul, h.sub, h.pow] using hUne
  refine ⟨by rw [hnx]; exact fmod_rng hp0, by rw [hny]; exact fmod_rng hp0, by rw [hnz]; exact fmod_rng hp0, ?_, ?_, ?_⟩
  · rw [hnz, fmod_mod hp0]; exact c.mul_ne (c.mul_ne hHne hz1) hz2
  · rw [h.eqv, h.mul, h.pow, fnx, fnz]
  · rw [h.eqv, h.mul, h.pow, fny, fnz]

/-- back to the plain coordinates -/
theorem rep_back (c : Crv p n a b gx gy X Y) {i x y z v : Int} (hi : 0 < i) (hi' : i < n) (r : Rep p X Y i x y z) (hv : (z * v) % p = 1) :
    (x * v ^ Int.toNat 2).fmod p = X i ∧ (y * v ^ Int.toNat 3).fmod p = Y i := by
  have hp0 : 0 < p := by have := c.p_lo; omega
  obtain ⟨_, _, _, _, ex, ey⟩ := r
  have q := c.rng i hi hi'
  obtain ⟨R, _, φ, h⟩ := HomP.exists (p := p) (by have := c.p_lo; omega)
  rw [h.eqv] at ex ey
  simp only [h.mul, h.pow] at ex ey
  have hv' : φ z * φ v = 1 := by
    have e : (z * v - 1) % p = 0 := by
      rw [← Int.emod_eq_emod_iff_emod_sub_eq_zero, hv]
      exact (emod_small (by omega) (by have := c.p_lo; omega)).symm
    have := h.eqv.mp e
    rwa [h.mul, show φ 1 = 1 from h.lit 1] at this
  constructor
  · refine eq_of_mod (fmod_rng hp0).1 (fmod_rng hp0).2 q.1 q.2.1 ?_
    rw [h.eqv, h.mod, h.mul, h.pow, ex, show Int.toNat 2 = 2 from rfl]
    grind
  · refine eq_of_mod (fmod_rng hp0).1 (fmod_rng hp0).2 (by omega) q.2.2.2 ?_
    rw [h.eqv, h.mod, h.mul, h.pow, ey, show Int.toNat 3 = 3 from rfl]
    grind
theorem rep_one (c : Crv p n a b gx gy X Y) {i : Int} (hi : 0 < i) (hi' : i < n) : Rep p X Y i (X i) (Y i) 1 := by
  have q := c.rng i hi hi'
  have := c.p_lo
  refine ⟨⟨q.1, q.2.1⟩, ⟨by omega, q.2.2.2⟩, ⟨by omega, by omega⟩, by rw [emod_small (by omega) (by omega)]; omega, ?_, ?_⟩
  · rw [Int.one_pow, Int.mul_one, Int.sub_self]; exact Int.zero_emod p
  · rw [Int.one_pow, Int.mul_one, Int.sub_self]; exact Int.zero_emod p
end

end
section
section
variable {p n a b gx gy : Int} {X Y : Int → Int}
theorem Crv.idxM (c : Crv p n a b gx gy X Y) {i m : Int} (hi : 0 < i) (hi' : i < n) (hm : m % n ≠ 0) : 0 < (i * m) % n ∧ (i * m) % n < n := by
  have h1 : (i * m) % n ≠ 0 := c.nmul_ne (by rw [emod_small (by omega) hi']; omega) hm
  have h2 := Int.emod_nonneg (i * m) (by omega : n ≠ 0)
  have h3 := Int.emod_lt_of_pos (i * m) (by omega : 0 < n)
  omega
theorem fdiv_two (m : Int) : m.fdiv 2 = m / 2 := Int.fdiv_eq_ediv_of_nonneg m (by omega)
theorem fmod_two (m : Int) : m.fmod 2 = m % 2 := Int.fmod_eq_emod_of_nonneg m (by omega)
theorem jm_half (c : Crv p n a b gx gy X Y) {i m : Int} {e : Nat} (hi : 0 < i) (hi' : i < n) (hm : 1 < m) (hmn : m < n) (hme : m < 2 ^ (e + 1)) :
    0 < m.fdiv 2 ∧ m.fdiv 2 < 2 ^ e ∧ m.fdiv 2 < n ∧ 0 < (i * m.fdiv 2) % n ∧ (i * m.fdiv 2) % n < n := by
  rw [fdiv_two]
  have h : (2 : Int) ^ (e + 1) = 2 * 2 ^ e := by rw [Int.pow_succ]; omega
  have q := c.idxM hi hi' (m := m / 2) (by rw [emod_small (by omega) (by omega)]; omega)
  exact ⟨by omega, by omega, by omega, q.1, q.2⟩
theorem jm_even (c : Crv p n a b gx gy X Y) {i m : Int} (he : m.fmod 2 = 0) : (2 * ((i * m.fdiv 2) % n)) % n = (i * m) % n := by
  have hn := c.n_lo
  rw [fmod_two] at he
  rw [fdiv_two, Int.mul_emod, Int.emod_emod_of_dvd _ (Int.dvd_refl n), ← Int.mul_emod]
  have e : 2 * (i * (m / 2)) = i * m := by
    have : m = 2 * (m / 2) := by omega
    conv => rhs; rw [this]
    rw [Int.mul_left_comm]
  rw [e]
theorem jm_odd (c : Crv p n a b gx gy X Y) {i m : Int} (hi : 0 < i) (hi' : i < n) (hm : 1 < m) (hmn : m < n) (ho : m.fmod 2 = 1) :
    0 < (2 * ((i * m.fdiv 2) % n)) % n ∧ (2 * ((i * m.fdiv 2) % n)) % n < n ∧ (2 * ((i * m.fdiv 2) % n)) % n ≠ i ∧ (2 * ((i * m.fdiv 2) % n)) % n + i ≠ n ∧ ((2 * ((i * m.fdiv 2) % n)) % n + i) % n = (i * m) % n := by
  have hn := c.n_lo
  rw [fmod_two] at ho
  have e : 2 * (i * (m / 2)) = i * (m - 1) := by
    have : m - 1 = 2 * (m / 2) := by omega
    rw [this, Int.mul_left_comm]
  have eJ : (2 * ((i * m.fdiv 2) % n)) % n = (i * (m - 1)) % n := by
    rw [fdiv_two, Int.mul_emod, Int.emod_emod_of_dvd _ (Int.dvd_refl n), ← Int.mul_emod, e]
  rw [eJ]
  have q := c.idxM hi hi' (m := m - 1) (by rw [emod_small (by omega) (by omega)]; omega)
  have q2 := c.idxM hi hi' (m := m - 2) (by rw [emod_small (by omega) (by omega)]; omega)
  have q3 := c.idxM hi hi' (m := m) (by rw [emod_small (by omega) (by omega)]; omega)
  have eS : ((i * (m - 1)) % n + i) % n = (i * m) % n := by
    rw [Int.emod_add_emod]
    congr 1
    rw [Int.mul_sub]; omega
  refine ⟨q.1, q.2, ?_, ?_, eS⟩
  · intro h
    have : (i * (m - 2)) % n = 0 := by
      have e2 : i * (m - 2) = i * (m - 1) - i := by rw [Int.mul_sub, Int.mul_sub]; omega
      rw [e2, ← Int.emod_sub_emod, h, Int.sub_self, Int.zero_emod]
    omega
  · intro h
    rw [h, Int.emod_self] at eS
    omega
/-- what the code's multiply comes to -/
theorem mul_zero_iff (c : Crv p n a b gx gy X Y) {i m : Int} (hi : 0 < i) (hi' : i < n) : (i * m) % n = 0 ↔ m % n = 0 := by
  constructor
  · intro h
    by_cases hm : m % n = 0
    · exact hm
    · have := c.idxM hi hi' hm; omega
  · intro h
    rw [Int.mul_emod, h, Int.mul_zero, Int.zero_emod]
theorem over_n (c : Crv p n a b gx gy X Y) {i m : Int} (hm : n ≤ m) (hm2 : m < 2 * n) : 0 ≤ m.fmod n ∧ m.fmod n < n ∧ m.fmod n = m - n ∧ (m.fmod n) % n = m % n ∧ (i * m.fmod n) % n = (i * m) % n := by
  have hn := c.n_lo
  have e : m.fmod n = m % n := fmod_e (by omega)
  have e1 : m % n = m - n := by
    have : m = (m - n) + n := by omega
    rw [this, Int.add_emod_right, emod_small (by omega) (by omega)]; omega
  refine ⟨by omega, by omega, by omega, ?_, ?_⟩
  · rw [e, Int.emod_emod_of_dvd _ (Int.dvd_refl n)]
  · rw [e, Int.mul_emod, Int.emod_emod_of_dvd _ (Int.dvd_refl n), ← Int.mul_emod]
end

end
section
open Lean.Grind
section
variable {R : Type} [CommRing R]
theorem sub0 {x y : R} (h : x = y) : x - y = 0 := by rw [h]; grind
theorem both1_id (x1 y1 x2 y2 a b xp xm h : R) :
  xp + xm = 2*((x1+x2)*(a+x1*x2)+2*b)*h + (-(xp+xm))*((x2-x1)^2*h - 1) + h*(((xp+x1+x2)*(x2-x1)^2 - (y2-y1)^2) + ((xm+x1+x2)*(x2-x1)^2 - (-y2-y1)^2) + 2*(y1^2 - (x1^3+a*x1+b)) + 2*(y2^2 - (x2^3+a*x2+b))) := by grind
theorem both1 (x1 y1 x2 y2 a b xp xm h : R) (e1 : y1^2 = x1^3+a*x1+b) (e2 : y2^2 = x2^3+a*x2+b) (hh : (x2-x1)^2*h = 1)
  (h1 : (xp+x1+x2)*(x2-x1)^2 = (y2-y1)^2) (h2 : (xm+x1+x2)*(x2-x1)^2 = (-y2-y1)^2) : xp + xm = 2*((x1+x2)*(a+x1*x2)+2*b)*h := by
  have := both1_id x1 y1 x2 y2 a b xp xm h
  rw [sub0 e1, sub0 e2, sub0 hh, sub0 h1, sub0 h2] at this
  rw [this]; grind
/-- the product: K·H² on both sides -/
theorem both2_id (x1 x2 u v a b : R) (hu : u = x1^3+a*x1+b) (hv : v = x2^3+a*x2+b) :
  (v-u)^2 - (x1+x2)*(x2-x1)^2*(2*u+2*v) + (x1+x2)^2*((x2-x1)^2*(x2-x1)^2) = ((x1*x2-a)^2 - 4*b*(x1+x2))*(x2-x1)^2 := by
  subst hu hv; grind
theorem both2_e (x1 x2 y1 y2 xp xm : R)
  (h1 : (xp+x1+x2)*(x2-x1)^2 = (y2-y1)^2) (h2 : (xm+x1+x2)*(x2-x1)^2 = (-y2-y1)^2) :
  (xp*(x2-x1)^2)*(xm*(x2-x1)^2) = (y2^2-y1^2)^2 - (x1+x2)*(x2-x1)^2*(2*y1^2+2*y2^2) + (x1+x2)^2*((x2-x1)^2*(x2-x1)^2) := by
  have a1 : xp*(x2-x1)^2 = (y2-y1)^2 - (x1+x2)*(x2-x1)^2 := by rw [← h1]; grind
  have a2 : xm*(x2-x1)^2 = (-y2-y1)^2 - (x1+x2)*(x2-x1)^2 := by rw [← h2]; grind
  rw [a1, a2]
  generalize (x2-x1)^2 = H
  generalize x1 + x2 = s
  grind
theorem rg1 (xp xm H h : R) : (xp*H)*(xm*H)*(h*h) = xp*xm*(H*h)*(H*h) := by grind
theorem rg2 (K H h : R) : K*H*(h*h) = K*h*(H*h) := by grind
theorem rg3 (u v w : R) : (v - u) ^ 2 * w = (u - v) * (u - v) * w := by grind
theorem rg4 (u : R) : u * 1 * 1 = u := by grind
theorem rg5 (u : R) : u * 1 = u := by grind
theorem both2 (x1 y1 x2 y2 a b xp xm h : R) (e1 : y1^2 = x1^3+a*x1+b) (e2 : y2^2 = x2^3+a*x2+b) (hh : (x2-x1)^2*h = 1)
  (h1 : (xp+x1+x2)*(x2-x1)^2 = (y2-y1)^2) (h2 : (xm+x1+x2)*(x2-x1)^2 = (-y2-y1)^2) : xp * xm = ((x1*x2-a)^2 - 4*b*(x1+x2))*h := by
  have q1 := both2_e x1 x2 y1 y2 xp xm h1 h2
  rw [both2_id x1 x2 (y1^2) (y2^2) a b e1 e2] at q1
  generalize (x2-x1)^2 = H at q1 hh
  generalize ((x1*x2-a)^2 - 4*b*(x1+x2)) = K at q1
  have : (xp*H)*(xm*H)*(h*h) = K*H*(h*h) := by rw [q1]
  rw [rg1, rg2, hh, rg4, rg5] at this
  exact this
end
section
variable {p n a b gx gy : Int} {X Y : Int → Int}
theorem Crv.addm (c : Crv p n a b gx gy X Y) {i j : Int} (hi : 0 < i) (hi' : i < n) (hj : 0 < j) (hj' : j < n) (hij : i ≠ j) (hn : i + j ≠ n) :
    ((X ((i+(n-j))%n) + X i + X j) * (X j - X i)^2 - (-Y j - Y i)^2) % p = 0 := by
  obtain ⟨_, q, _⟩ := c.add i (n - j) hi hi' (by omega) (by omega) (by omega) (by omega)
  obtain ⟨e1, e2⟩ := c.neg j hj hj'
  rw [e1, e2] at q
  obtain ⟨R, _, φ, h⟩ := HomP.exists (p := p) (by have := c.p_lo; omega)
  have hp : φ p = 0 := (h.zero p).mpr Int.emod_self
  rw [h.eqv] at q ⊢
  simp only [h.mul, h.pow, h.add, h.sub, h.neg, hp] at q ⊢
  rw [q]; grind
theorem hom_one {R : Type} [CommRing R] {φ : Int → R} (h : HomP p R φ) (hp : 2 ≤ p) {u v : Int} (e : (u * v) % p = 1) : φ u * φ v = 1 := by
  have e : (u * v - 1) % p = 0 := by
    rw [← Int.emod_eq_emod_iff_emod_sub_eq_zero, e]
    exact (emod_small (by omega) (by omega)).symm
  have := h.eqv.mp e
  rwa [h.mul, show φ 1 = 1 from h.lit 1] at this
theorem both_eq (c : Crv p n a b gx gy X Y) {i j x1 x2 part : Int} (hi : 0 < i) (hi' : i < n) (hj : 0 < j) (hj' : j < n) (hij : i ≠ j) (hn : i + j ≠ n) (h1 : x1 = X i) (h2 : x2 = X j)
    (hpart : part = fp ((x1 - x2) * (x1 - x2)) (p - 2) p) :
    (2 * ((x1 + x2) * (a + x1 * x2) + 2 * b) * part).fmod p = (X ((i+j)%n) + X ((i+(n-j))%n)).fmod p ∧
    (((x1 * x2 - a) ^ Int.toNat 2 - 4 * b * (x1 + x2)) * part).fmod p = (X ((i+j)%n) * X ((i+(n-j))%n)).fmod p := by
  subst h1 h2
  have hp0 : 0 < p := by have := c.p_lo; omega
  obtain ⟨hne, d1, _⟩ := c.add i j hi hi' hj hj' hij hn
  have d2 := c.addm hi hi' hj hj' hij hn
  have on1 := c.on i hi hi'
  have on2 := c.on j hj hj'
  have q1 := c.rng i hi hi'
  have q2 := c.rng j hj hj'
  have hs : (X i - X j) % p ≠ 0 := c.sub_ne q1.1 q1.2.1 q2.1 q2.2.1 hne
  have hf := c.fer _ (c.mul_ne hs hs)
  rw [← hpart] at hf
  obtain ⟨R, _, φ, h⟩ := HomP.exists (p := p) (by have := c.p_lo; omega)
  have hh := hom_one h (by have := c.p_lo; omega) hf
  rw [h.eqv] at d1 d2 on1 on2
  simp only [h.mul, h.pow, h.add, h.sub, h.neg, h.lit] at d1 d2 on1 on2 hh
  have hh' : (φ (X j) - φ (X i)) ^ 2 * φ part = 1 := by rw [rg3, CommSemiring.mul_comm]; exact hh
  constructor
  · refine eq_of_mod (fmod_rng hp0).1 (fmod_rng hp0).2 (fmod_rng hp0).1 (fmod_rng hp0).2 ?_
    rw [h.eqv]
    simp only [h.mod, h.mul, h.pow, h.add, h.sub, h.neg, h.lit]
    exact (both1 _ _ _ _ _ _ _ _ _ on1 on2 hh' d1 d2).symm
  · refine eq_of_mod (fmod_rng hp0).1 (fmod_rng hp0).2 (fmod_rng hp0).1 (fmod_rng hp0).2 ?_
    rw [h.eqv, show Int.toNat 2 = 2 from rfl]
    simp only [h.mod, h.mul, h.pow, h.add, h.sub, h.neg, h.lit]
    exact (both2 _ _ _ _ _ _ _ _ _ on1 on2 hh' d1 d2).symm
end

end
section
open Lean.Grind
def LRep (p n : Int) (X : Int → Int) (m u v : Int) : Prop :=
  (0 ≤ u ∧ u < p) ∧ (0 ≤ v ∧ v < p) ∧ ((m % n = 0 ∧ v = 0 ∧ u ≠ 0) ∨ (m % n ≠ 0 ∧ v ≠ 0 ∧ (u - X (m % n) * v) % p = 0))
section
variable {R : Type} [CommRing R]
theorem ld_a (x y a b x3 v : R) (h1 : (x3+2*x)*(4*y^2) = (3*x^2+a)^2) (h2 : y^2 = x^3+a*x+b) :
    ((x*v)*(x*v) - a*v*v)^2 - 8*b*(x*v)*v*v*v = x3 * (4*v*((x*v)*(x*v)*(x*v) + a*(x*v)*v*v + b*v*v*v)) := by
  rw [h2] at h1
  have e : ((x*v)*(x*v) - a*v*v)^2 - 8*b*(x*v)*v*v*v - x3 * (4*v*((x*v)*(x*v)*(x*v) + a*(x*v)*v*v + b*v*v*v)) = v^4 * ((3*x^2+a)^2 - (x3+2*x)*(4*(x^3+a*x+b))) := by clear h1 h2; grind
  rw [h1] at e
  grind
theorem ld_b (x y a b v : R) (h2 : y^2 = x^3+a*x+b) : 4*v*((x*v)*(x*v)*(x*v) + a*(x*v)*v*v + b*v*v*v) = 4*y^2*v^4 := by
  rw [h2]; clear h2; grind
theorem both0_id (x1 y1 x2 y2 a b xp xm : R) :
  (xp + xm)*(x2-x1)^2 = 2*((x1+x2)*(a+x1*x2)+2*b) + (((xp+x1+x2)*(x2-x1)^2 - (y2-y1)^2) + ((xm+x1+x2)*(x2-x1)^2 - (-y2-y1)^2) + 2*(y1^2 - (x1^3+a*x1+b)) + 2*(y2^2 - (x2^3+a*x2+b))) := by grind
theorem both0 (x1 y1 x2 y2 a b xp xm : R) (e1 : y1^2 = x1^3+a*x1+b) (e2 : y2^2 = x2^3+a*x2+b)
  (h1 : (xp+x1+x2)*(x2-x1)^2 = (y2-y1)^2) (h2 : (xm+x1+x2)*(x2-x1)^2 = (-y2-y1)^2) : (xp + xm)*(x2-x1)^2 = 2*((x1+x2)*(a+x1*x2)+2*b) := by
  have := both0_id x1 y1 x2 y2 a b xp xm
  rw [sub0 e1, sub0 e2, sub0 h1, sub0 h2] at this
  rw [this]; grind
theorem ls_cross (x1 x2 z w : R) : ((x1*z)*w - (x2*w)*z)^2 = (x2-x1)^2*(z*w)^2 := by grind
theorem ls_main (x1 x2 z w a b q : R) : 2*(((x1*z)*w + (x2*w)*z)*(a*z*w + (x1*z)*(x2*w)) + 2*b*z*z*w*w) - q = 2*((x1+x2)*(a+x1*x2)+2*b)*(z*w)^2 - q := by grind
theorem ls_fin (x1 x2 S xp xm t : R) (h : (xp + xm)*(x2-x1)^2 = S) : S*t - xm*((x2-x1)^2*t) = xp*((x2-x1)^2*t) := by rw [← h]; clear h; grind
theorem ls_inf (x z w a b y : R) (h : y^2 = x^3+a*x+b) (q : R) : 2*((x+x)*(a+x*x)+2*b)*(z*w)^2 - q*((x-x)^2*(z*w)^2) = 4*y^2*(z*w)^2 := by rw [h]; clear h; grind
theorem ls_low (u x2 w q a b : R) : 2*((u*w + (x2*w)*0)*(a*0*w + u*(x2*w)) + 2*b*0*0*w*w) - q*((u*w - (x2*w)*0)^2) = (2*x2 - q)*((u*w - (x2*w)*0)^2) := by grind
theorem ls_high (u x1 z q a b : R) : 2*(((x1*z)*0 + u*z)*(a*z*0 + (x1*z)*u) + 2*b*z*z*0*0) - q*(((x1*z)*0 - u*z)^2) = (2*x1 - q)*(((x1*z)*0 - u*z)^2) := by grind
theorem ls_lowc (u x2 w : R) : (u*w - (x2*w)*0)^2 = (u*w)^2 := by grind
theorem ls_highc (u x1 z : R) : ((x1*z)*0 - u*z)^2 = (u*z)^2 := by grind
end
section
variable {p n a b gx gy : Int} {X Y : Int → Int}
theorem LRep.low (c : Crv p n a b gx gy X Y) {k : Int} (hk : 0 < k) (hk' : k < n) : LRep p n X (k * 0) 1 0 := by
  have := c.p_lo
  exact ⟨⟨by omega, by omega⟩, ⟨by omega, by omega⟩, .inl ⟨by rw [Int.mul_zero]; exact Int.zero_emod n, rfl, by omega⟩⟩
theorem LRep.high (c : Crv p n a b gx gy X Y) {k : Int} (hk : 0 < k) (hk' : k < n) : LRep p n X (k * (0 + 1)) (X k) 1 := by
  have := c.p_lo
  have q := c.rng k hk hk'
  have e : k * (0 + 1) = k := by omega
  rw [e]
  refine ⟨⟨q.1, q.2.1⟩, ⟨by omega, by omega⟩, .inr ⟨by rw [emod_small (by omega) hk']; omega, by omega, ?_⟩⟩
  rw [emod_small (by omega) hk', Int.mul_one, Int.sub_self]; exact Int.zero_emod p
theorem emod_mul2 (m n : Int) : (2 * m) % n = (2 * (m % n)) % n := by
  rw [Int.mul_emod 2 (m % n), Int.emod_emod_of_dvd _ (Int.dvd_refl n), ← Int.mul_emod]
theorem fne {x p : Int} (hp : 0 < p) (h : x % p ≠ 0) : x.fmod p ≠ 0 := by rw [fmod_e hp]; exact h
theorem fze {x p : Int} (hp : 0 < p) (h : x % p = 0) : x.fmod p = 0 := by rw [fmod_e hp]; exact h
theorem Crv.ne_mod (c : Crv p n a b gx gy X Y) {u : Int} (h0 : 0 ≤ u) (h1 : u < p) (h : u ≠ 0) : u % p ≠ 0 := by rw [emod_small h0 h1]; exact h
theorem Crv.nidx (c : Crv p n a b gx gy X Y) {m : Int} (h : m % n ≠ 0) : 0 < m % n ∧ m % n < n := by
  have hn := c.n_lo
  have h2 := Int.emod_nonneg m (by omega : n ≠ 0)
  have h3 := Int.emod_lt_of_pos m (by omega : 0 < n)
  omega
theorem Crv.four_ne (c : Crv p n a b gx gy X Y) : (4 : Int) % p ≠ 0 := by have := c.p_lo; exact c.small_ne (by omega) (by omega)

theorem ldbl (c : Crv p n a b gx gy X Y) {m u v : Int} (r : LRep p n X m u v) :
    LRep p n X (2 * m) (((u * u - a * v * v) ^ Int.toNat 2 - 8 * b * u * v * v * v).fmod p) ((4 * v * (u * u * u + a * u * v * v + b * v * v * v)).fmod p) := by
  have hp0 : 0 < p := by have := c.p_lo; omega
  have hn0 := c.n_lo
  rw [show Int.toNat 2 = 2 from rfl]
  obtain ⟨hu, hv, h⟩ := r
  refine ⟨fmod_rng hp0, fmod_rng hp0, ?_⟩
  rcases h with ⟨hm, hv0, hu0⟩ | ⟨hm, hv0, e⟩
  · left
    subst hv0
    refine ⟨?_, ?_, ?_⟩
    · rw [emod_mul2, hm]; exact Int.zero_emod n
    · simp
    · apply fne hp0
      have := c.pow_ne (c.ne_mod hu.1 hu.2 hu0) 4
      have e : (u * u - a * 0 * 0) ^ 2 - 8 * b * u * 0 * 0 * 0 = u ^ 4 := by grind
      rw [e]; exact this
  · right
    obtain ⟨i0, i1⟩ := c.nidx hm
    have q := c.rng _ i0 i1
    obtain ⟨d1, _⟩ := c.dbl _ i0 i1
    have on := c.on _ i0 i1
    obtain ⟨j0, j1⟩ := c.idx2 i0 i1
    rw [← emod_mul2] at d1 j0 j1
    obtain ⟨R, _, φ, h⟩ := HomP.exists (p := p) (by have := c.p_lo; omega)
    rw [h.eqv] at d1 on e
    simp only [h.mul, h.pow, h.add, h.sub, h.lit] at d1 on e
    have hv' := c.ne_mod hv.1 hv.2 hv0
    have hy' := c.ne_mod (by omega) q.2.2.2 (by omega : Y (m % n) ≠ 0)
    refine ⟨by omega, ?_, ?_⟩
    · apply fne hp0
      have hh : (4 * (Y (m % n)) ^ 2 * v ^ 4) % p ≠ 0 := c.mul_ne (c.mul_ne c.four_ne (c.pow_ne hy' 2)) (c.pow_ne hv' 4)
      rw [h.ne] at hh ⊢
      simp only [h.mul, h.pow, h.add, h.sub, h.lit] at hh ⊢
      rw [e, ld_b _ _ _ _ _ on]; exact hh
    · rw [h.eqv]
      simp only [h.mod, h.mul, h.pow, h.add, h.sub, h.lit]
      rw [e]
      exact ld_a _ _ _ _ _ _ d1 on

theorem lsum (c : Crv p n a b gx gy X Y) {m1 m2 k u v u' v' t : Int} (hk : 0 < k) (hk' : k < n) (hm : m2 = m1 + k) (ht : t = X k) (r : LRep p n X m1 u v) (r' : LRep p n X m2 u' v') :
    LRep p n X (m1 + m2) ((2 * ((u * v' + u' * v) * (a * v * v' + u * u') + 2 * b * v * v * v' * v') - t * (u * v' - u' * v) ^ Int.toNat 2).fmod p) (((u * v' - u' * v) ^ Int.toNat 2).fmod p) := by
  have hp0 : 0 < p := by have := c.p_lo; omega
  have hn0 := c.n_lo
  have qk := c.rng k hk hk'
  rw [show Int.toNat 2 = 2 from rfl]
  obtain ⟨hu, hv, h1⟩ := r
  obtain ⟨hu', hv', h2⟩ := r'
  have hmm : m2 % n = (m1 % n + k) % n := by rw [hm, Int.emod_add_emod]
  have hss : (m1 + m2) % n = (m1 % n + m2 % n) % n := Int.add_emod _ _ _
  refine ⟨fmod_rng hp0, fmod_rng hp0, ?_⟩
  obtain ⟨R, _, φ, h⟩ := HomP.exists (p := p) (by have := c.p_lo; omega)
  rcases h1 with ⟨z1, v1, u1⟩ | ⟨z1, v1, e1⟩ <;> rcases h2 with ⟨z2, v2, u2⟩ | ⟨z2, v2, e2⟩
  · exfalso
    rw [z1, z2, Int.zero_add, emod_small (by omega) hk'] at hmm; omega
  · -- the lower is the point at infinity
    right
    have hk2 : m2 % n = k := by rw [hmm, z1, Int.zero_add, emod_small (by omega) hk']
    have hs : (m1 + m2) % n = k := by rw [hss, z1, Int.zero_add, hk2, emod_small (by omega) hk']
    rw [hk2] at e2
    rw [hs]
    subst v1
    rw [h.eqv] at e2
    simp only [h.mul] at e2
    have h0 : φ 0 = 0 := h.lit 0
    refine ⟨by omega, ?_, ?_⟩
    · apply fne hp0
      have hh : ((u * v') ^ 2) % p ≠ 0 := c.pow_ne (c.mul_ne (c.ne_mod hu.1 hu.2 u1) (c.ne_mod hv'.1 hv'.2 v2)) 2
      rw [h.ne] at hh ⊢
      simp only [h.mul, h.pow, h.sub, h0] at hh ⊢
      rw [e2, ls_lowc]; exact hh
    · rw [h.eqv, ht]
      simp only [h.mod, h.mul, h.pow, h.add, h.sub, h.lit, h0]
      rw [e2, ls_low]
      congr 1
      generalize φ (X k) = q
      grind
  · -- the upper one is
    right
    have hk2 : m1 % n = n - k := by
      have := Int.emod_nonneg m1 (by omega : n ≠ 0)
      have := Int.emod_lt_of_pos m1 (by omega : 0 < n)
      rw [z2] at hmm
      by_cases hl : m1 % n + k < n
      · rw [emod_small (by omega) hl] at hmm; omega
      · have e : m1 % n + k = (m1 % n + k - n) + n := by omega
        rw [e, Int.add_emod_right, emod_small (by omega) (by omega)] at hmm
        omega
    have hs : (m1 + m2) % n = n - k := by rw [hss, z2, Int.add_zero, hk2, emod_small (by omega) (by omega)]
    obtain ⟨n1, n2⟩ := c.neg k hk hk'
    rw [hk2, n1] at e1
    rw [hs, n1]
    subst v2
    rw [h.eqv] at e1
    simp only [h.mul] at e1
    have h0 : φ 0 = 0 := h.lit 0
    refine ⟨by omega, ?_, ?_⟩
    · apply fne hp0
      have hh : ((u' * v) ^ 2) % p ≠ 0 := c.pow_ne (c.mul_ne (c.ne_mod hu'.1 hu'.2 u2) (c.ne_mod hv.1 hv.2 v1)) 2
      rw [h.ne] at hh ⊢
      simp only [h.mul, h.pow, h.sub, h0] at hh ⊢
      rw [e1, ls_highc]; exact hh
    · rw [h.eqv, ht]
      simp only [h.mod, h.mul, h.pow, h.add, h.sub, h.lit, h0]
      rw [e1, ls_high]
      congr 1
      generalize φ (X k) = q
      grind
  · obtain ⟨i0, i1⟩ := c.nidx z1
    obtain ⟨j0, j1⟩ := c.nidx z2
    have qi := c.rng _ i0 i1
    have qj := c.rng _ j0 j1
    have on1 := c.on _ i0 i1
    have on2 := c.on _ j0 j1
    have hv1 := c.ne_mod hv.1 hv.2 v1
    have hv2 := c.ne_mod hv'.1 hv'.2 v2
    rw [h.eqv] at e1 e2
    simp only [h.mul] at e1 e2
    by_cases hs : m1 % n + m2 % n = n
    · left
      have hJ : m2 % n = n - m1 % n := by omega
      obtain ⟨n1, n2⟩ := c.neg _ i0 i1
      rw [← hJ] at n1 n2
      rw [n1] at e2
      rw [h.eqv] at on1
      simp only [h.mul, h.pow, h.add] at on1
      refine ⟨by rw [hss, hs, Int.emod_self], ?_, ?_⟩
      · apply fze hp0
        rw [← h.zero]
        simp only [h.mul, h.pow, h.sub]
        rw [e1, e2, ls_cross]
        generalize φ (X (m1 % n)) = q
        grind
      · apply fne hp0
        have hy' := c.ne_mod (by omega) qi.2.2.2 (by omega : Y (m1 % n) ≠ 0)
        have hh : (4 * (Y (m1 % n)) ^ 2 * (v * v') ^ 2) % p ≠ 0 := c.mul_ne (c.mul_ne c.four_ne (c.pow_ne hy' 2)) (c.pow_ne (c.mul_ne hv1 hv2) 2)
        rw [h.ne] at hh ⊢
        simp only [h.mul, h.pow, h.add, h.sub, h.lit] at hh ⊢
        rw [e1, e2, ls_cross, ls_main, ls_inf _ _ _ _ _ _ on1]
        exact hh
    · right
      have hij : m1 % n ≠ m2 % n := by
        intro e
        rw [← e] at hmm
        by_cases hl : m1 % n + k < n
        · rw [emod_small (by omega) hl] at hmm; omega
        · have e : m1 % n + k = (m1 % n + k - n) + n := by omega
          rw [e, Int.add_emod_right, emod_small (x := m1 % n + k - n) (by omega) (by omega)] at hmm
          omega
      obtain ⟨hne, d1, _⟩ := c.add _ _ i0 i1 j0 j1 hij hs
      have d2 := c.addm i0 i1 j0 j1 hij hs
      have hxm : (m1 % n + (n - m2 % n)) % n = n - k := by
        by_cases hl : m1 % n + k < n
        · rw [emod_small (by omega) hl] at hmm
          rw [hmm, emod_small (by omega) (by omega)]; omega
        · have e : m1 % n + k = (m1 % n + k - n) + n := by omega
          rw [e, Int.add_emod_right, emod_small (x := m1 % n + k - n) (by omega) (by omega)] at hmm
          have e3 : m1 % n + (n - m2 % n) = (n - k) + n := by omega
          rw [e3, Int.add_emod_right, emod_small (by omega) (by omega)]
      rw [hxm, (c.neg k hk hk').1] at d2
      rw [← hss] at d1
      obtain ⟨s0, s1⟩ := c.idxA i0 i1 j0 j1 hs
      rw [← hss] at s0 s1
      rw [h.eqv] at d1 d2 on1 on2
      simp only [h.mul, h.pow, h.add, h.sub, h.neg, h.lit] at d1 d2 on1 on2
      refine ⟨by omega, ?_, ?_⟩
      · apply fne hp0
        have hs' : (X (m2 % n) - X (m1 % n)) % p ≠ 0 := c.sub_ne qj.1 qj.2.1 qi.1 qi.2.1 (Ne.symm hne)
        have hh : ((X (m2 % n) - X (m1 % n)) ^ 2 * (v * v') ^ 2) % p ≠ 0 := c.mul_ne (c.pow_ne hs' 2) (c.pow_ne (c.mul_ne hv1 hv2) 2)
        rw [h.ne] at hh ⊢
        simp only [h.mul, h.pow, h.sub] at hh ⊢
        rw [e1, e2, ls_cross]
        exact hh
      · rw [h.eqv, ht]
        simp only [h.mod, h.mul, h.pow, h.add, h.sub, h.lit]
        rw [e1, e2, ls_cross, ls_main]
        exact ls_fin _ _ _ _ _ _ (both0 _ _ _ _ _ _ _ _ on1 on2 d1 d2)
end
section
variable {p n a b gx gy : Int} {X Y : Int → Int}
theorem lfin (c : Crv p n a b gx gy X Y) {m u v : Int} (r : LRep p n X m u v) (hv : v ≠ 0) : m % n ≠ 0 ∧ (u * fp v (p - 2) p).fmod p = X (m % n) := by
  have hp0 : 0 < p := by have := c.p_lo; omega
  obtain ⟨hu, hv', h1⟩ := r
  rcases h1 with ⟨_, h0, _⟩ | ⟨hm, _, e⟩
  · exact absurd h0 hv
  · refine ⟨hm, ?_⟩
    obtain ⟨i0, i1⟩ := c.nidx hm
    have q := c.rng _ i0 i1
    have hf := c.fer v (c.ne_mod hv'.1 hv'.2 hv)
    obtain ⟨R, _, φ, h⟩ := HomP.exists (p := p) (by have := c.p_lo; omega)
    have hh := hom_one h (by have := c.p_lo; omega) hf
    refine eq_of_mod (fmod_rng hp0).1 (fmod_rng hp0).2 q.1 q.2.1 ?_
    rw [h.eqv] at e ⊢
    simp only [h.mod, h.mul] at e ⊢
    rw [e]
    have : ∀ x v f : R, x * v * f = x * (f * v) := by intro x v f; grind
    rw [this, hh]; grind
theorem lzero {m u : Int} (r : LRep p n X m u 0) : m % n = 0 := by
  obtain ⟨_, _, h1⟩ := r
  rcases h1 with ⟨h, _, _⟩ | ⟨_, h, _⟩
  · exact h
  · exact absurd rfl h
end
def WInv (m cnt : Int) (ds : List Int) : Prop := ds.foldl (fun a d => 2 * a + d) cnt = m ∧ (∀ d ∈ ds, d = 0 ∨ d = 1) ∧ ds.length ≤ 8 ∧ 0 ≤ cnt ∧ cnt < 2 ^ (8 - ds.length)
theorem winv_start {m : Int} (h0 : 0 ≤ m) (h1 : m < 256) : WInv m m [] := ⟨rfl, by simp, by simp, h0, by simpa using h1⟩
theorem winv_step {m cnt : Int} {ds : List Int} (h : WInv m cnt ds) (hc : 0 < cnt) : WInv m (cnt.fdiv 2) (cnt.fmod 2 :: ds) := by
  obtain ⟨h1, h2, h3, h4, h5⟩ := h
  rw [fdiv_two, fmod_two]
  have hl : ds.length < 8 := by
    rcases Nat.lt_or_ge ds.length 8 with h | h
    · exact h
    · have : 8 - ds.length = 0 := by omega
      rw [this, Int.pow_zero] at h5; omega
  refine ⟨?_, ?_, by simp; omega, by omega, ?_⟩
  · rw [List.foldl_cons]
    have e : 2 * (cnt / 2) + cnt % 2 = cnt := by omega
    rw [e]; exact h1
  · intro d hd
    rcases List.mem_cons.mp hd with rfl | hd
    · omega
    · exact h2 d hd
  · have e : 8 - ds.length = (8 - (cnt % 2 :: ds).length) + 1 := by simp; omega
    rw [e, Int.pow_succ] at h5
    omega
def binv (ds : List Int) : Int := ds.foldl (fun a d => 2 * a + d) 0
theorem winv_end {m cnt : Int} {ds : List Int} (h : WInv m cnt ds) (hc : ¬ 0 < cnt) : binv ds = m ∧ (∀ d ∈ ds, d = 0 ∨ d = 1) ∧ ds.length ≤ 8 := by
  obtain ⟨h1, h2, h3, h4, _⟩ := h
  have : cnt = 0 := by omega
  subst this
  exact ⟨h1, h2, h3⟩
theorem binv_snoc (l : List Int) (d : Int) : binv (l ++ [d]) = 2 * binv l + d := by unfold binv; rw [List.foldl_append]; rfl

end
section
def allB (n : Nat) (f : Nat → Bool) : Bool := Nat.rec true (fun k ih => and (f k) ih) n
theorem allB_iff {n : Nat} {f : Nat → Bool} (h : allB n f = true) : ∀ i, i < n → f i = true := by
  induction n with
  | zero => intro i hi; omega
  | succ n ih =>
    have h' : (f n && allB n f) = true := h
    rw [Bool.and_eq_true] at h'
    intro i hi
    rcases (by omega : i = n ∨ i < n) with rfl | h1
    · exact h'.1
    · exact ih h'.2 i h1
def tab (T i : Nat) : Nat := (T >>> (8 * i)) % 256
def tabI (T : Nat) (i : Int) : Int := (tab T i.toNat : Nat)
def chkP (p n a b TX TY : Nat) (i' : Nat) : Bool :=
  let i := i' + 1
  let x := tab TX i
  let y := tab TY i
  let j := (2 * i) % n
  let m := 3 * (x * x) + a
  Nat.blt x p && (Nat.blt 0 y && (Nat.blt y p && (Nat.beq ((y * y) % p) ((x * x * x + a * x + b) % p) && (Nat.beq (tab TX (n - i)) x && (Nat.beq (tab TY (n - i) + y) p &&
  (Nat.beq (((tab TX j + 2 * x) * (4 * (y * y))) % p) ((m * m) % p) && (Nat.beq (((tab TY j + y) * (2 * y) + m * tab TX j) % p) ((m * x) % p) && Nat.beq (Nat.gcd i n) 1)))))))
def chkQ (p n TX TY : Nat) (x1 y1 i x2 y2 j : Nat) : Bool :=
  Nat.beq (i + j) n || 
  (let k := (i + j) % n
   let d := x2 + p - x1
   let e := y2 + p - y1
   let x3 := tab TX k
   !(Nat.beq x1 x2) && (Nat.beq (((x3 + x1 + x2) * (d * d)) % p) ((e * e) % p) && Nat.beq (((tab TY k + y1) * d) % p) ((e * (x1 + p - x3)) % p)))
def chkAdd (p n TX TY : Nat) (j' : Nat) : Bool :=
  let j := j' + 1
  let x2 := tab TX j
  let y2 := tab TY j
  allB j' fun i' => chkQ p n TX TY (tab TX (i' + 1)) (tab TY (i' + 1)) (i' + 1) x2 y2 j
def chkF (p : Nat) (u : Nat) : Bool := Nat.beq (Nat.gcd (u + 1) p) 1 && Nat.beq ((PySem.Builtin.powMod (u + 1) (p - 2) p * (u + 1)) % p) 1

theorem cast_mod {x y p : Nat} (h : x % p = y % p) : ((x : Int) - (y : Int)) % (p : Int) = 0 := by
  have : (x : Int) % (p : Int) = (y : Int) % (p : Int) := by exact_mod_cast h
  exact Int.emod_eq_emod_iff_emod_sub_eq_zero.mp this
open Lean.Grind in
theorem crv_of {p n a b gx gy TX TY : Nat} (h0 : (11 ≤ p ∧ p ≤ 127) ∧ (13 ≤ n ∧ n ≤ 127) ∧ a ≤ 6 ∧ 0 < b ∧ b ≤ 7) (hg : tab TX 1 = gx ∧ tab TY 1 = gy)
    (h1 : allB (n - 1) (chkP p n a b TX TY) = true) (h2 : allB (n - 1) (chkAdd p n TX TY) = true) (h3 : allB (p - 1) (chkF p) = true) : Crv p n a b gx gy (tabI TX) (tabI TY) := by
  obtain ⟨⟨p1, p2⟩, ⟨n1, n2⟩, a1, b1, b2⟩ := h0
  have hP : ∀ i : Nat, 0 < i → i < n → chkP p n a b TX TY (i - 1) = true := fun i hi hi' => allB_iff h1 (i - 1) (by omega)
  have hF : ∀ u : Nat, 0 < u → u < p → chkF p (u - 1) = true := fun u hu hu' => allB_iff h3 (u - 1) (by omega)
  have hQ : ∀ i j : Nat, 0 < i → i < j → j < n → chkQ p n TX TY (tab TX i) (tab TY i) i (tab TX j) (tab TY j) j = true := by
    intro i j hi hij hj
    have q1 := allB_iff h2 (j - 1) (by omega)
    unfold chkAdd at q1
    have q2 := allB_iff q1 (i - 1) (by omega)
    have e1 : i - 1 + 1 = i := by omega
    have e2 : j - 1 + 1 = j := by omega
    simpa only [e1, e2] using q2
  have toN : ∀ i : Int, 0 < i → i < n → ∃ k : Nat, i = k ∧ 0 < k ∧ k < n := fun i hi hi' => ⟨i.toNat, by omega, by omega, by omega⟩
  have tabN : ∀ (T k : Nat), tabI T (k : Int) = (tab T k : Nat) := fun T k => by unfold tabI; rw [Int.toNat_natCast]
  have hPk : ∀ k : Nat, 0 < k → k < n → tab TX k < p ∧ 0 < tab TY k ∧ tab TY k < p ∧ (tab TY k * tab TY k) % p = (tab TX k * tab TX k * tab TX k + a * tab TX k + b) % p ∧ tab TX (n - k) = tab TX k ∧ tab TY (n - k) + tab TY k = p ∧
      ((tab TX ((2 * k) % n) + 2 * tab TX k) * (4 * (tab TY k * tab TY k))) % p = ((3 * (tab TX k * tab TX k) + a) * (3 * (tab TX k * tab TX k) + a)) % p ∧
      ((tab TY ((2 * k) % n) + tab TY k) * (2 * tab TY k) + (3 * (tab TX k * tab TX k) + a) * tab TX ((2 * k) % n)) % p = ((3 * (tab TX k * tab TX k) + a) * tab TX k) % p ∧ Nat.gcd k n = 1 := by
    intro k hk hk'
    have q := hP k hk hk'
    have e1 : k - 1 + 1 = k := by omega
    unfold chkP at q
    simp only [e1, Bool.and_eq_true, Nat.blt_eq, Nat.beq_eq] at q
    obtain ⟨q1, q2, q3, q4, q5, q6, q7, q8, q9⟩ := q
    exact ⟨q1, q2, q3, q4, q5, q6, q7, q8, q9⟩
  have two : ∀ k : Nat, (2 * (k : Int)) % (n : Int) = ((2 * k) % n : Nat) := fun k => by push_cast; rfl
  obtain ⟨R, _, φ, h⟩ := HomP.exists (p := (p : Int)) (by omega)
  have nc : ∀ x y : Nat, x % p = y % p → φ (x : Int) = φ (y : Int) := fun x y e => h.eqv.mp (cast_mod e)
  refine { p_lo := by omega, p_hi := by omega, n_lo := by omega, n_hi := by omega, a_lo := by omega, a_hi := by omega, b_lo := by omega, b_hi := by omega, oneX := ?_, oneY := ?_, rng := ?_, on := ?_, dbl := ?_, add := ?_, neg := ?_, pr := ?_, npr := ?_, fer := ?_ }
  · exact (tabN TX 1).trans (by rw [hg.1])
  · exact (tabN TY 1).trans (by rw [hg.2])
  · intro i hi hi'
    obtain ⟨k, rfl, hk, hk'⟩ := toN i hi hi'
    obtain ⟨q1, q2, q3, _⟩ := hPk k hk hk'
    rw [tabN, tabN]; omega
  · intro i hi hi'
    obtain ⟨k, rfl, hk, hk'⟩ := toN i hi hi'
    obtain ⟨_, _, _, q4, _⟩ := hPk k hk hk'
    rw [tabN, tabN, h.eqv]
    have := nc _ _ q4
    push_cast at this
    simp only [h.mul, h.add, h.pow] at this ⊢
    grind
  · intro i hi hi'
    obtain ⟨k, rfl, hk, hk'⟩ := toN i hi hi'
    obtain ⟨_, _, _, _, _, _, q7, q8, _⟩ := hPk k hk hk'
    rw [two, tabN, tabN, tabN, tabN, h.eqv, h.eqv]
    have r7 := nc _ _ q7
    have r8 := nc _ _ q8
    push_cast at r7 r8
    simp only [h.mul, h.add, h.sub, h.pow, h.lit] at r7 r8 ⊢
    constructor
    · clear r8; grind
    · clear r7; grind
  · intro i j hi hi' hj hj' hij hn
    obtain ⟨k, rfl, hk, hk'⟩ := toN i hi hi'
    obtain ⟨l, rfl, hl, hl'⟩ := toN j hj hj'
    have es : ((k : Int) + l) % (n : Int) = ((k + l) % n : Nat) := by push_cast; rfl
    rw [es, tabN, tabN, tabN, tabN, tabN, tabN, h.eqv, h.eqv]
    obtain ⟨a1, a2, a3, _⟩ := hPk k hk hk'
    obtain ⟨c1, c2, c3, _⟩ := hPk l hl hl'
    have hkl : (k + l) % n < n := Nat.mod_lt _ (by omega)
    have hkl0 : 0 < (k + l) % n := by
      rcases Nat.lt_or_ge (k + l) n with q | q
      · rw [Nat.mod_eq_of_lt q]; omega
      · have e : k + l = (k + l - n) + n := by omega
        rw [e, Nat.add_mod_right, Nat.mod_eq_of_lt (by omega)]; omega
    obtain ⟨d1, d2, d3, _⟩ := hPk _ hkl0 hkl
    have hp : φ (p : Int) = 0 := (h.zero _).mpr Int.emod_self
    have main : ∀ k l : Nat, tab TX k < p → tab TY k < p → tab TX l < p → tab TY l < p → tab TX ((k + l) % n) < p → k + l ≠ n → chkQ p n TX TY (tab TX k) (tab TY k) k (tab TX l) (tab TY l) l = true →
        tab TX k ≠ tab TX l ∧ (φ (tab TX ((k + l) % n) : Int) + φ (tab TX k : Int) + φ (tab TX l : Int)) * (φ (tab TX l : Int) - φ (tab TX k : Int)) ^ 2 = (φ (tab TY l : Int) - φ (tab TY k : Int)) ^ 2 ∧
        (φ (tab TY ((k + l) % n) : Int) + φ (tab TY k : Int)) * (φ (tab TX l : Int) - φ (tab TX k : Int)) = (φ (tab TY l : Int) - φ (tab TY k : Int)) * (φ (tab TX k : Int) - φ (tab TX ((k + l) % n) : Int)) := by
      intro k l a1 a3 c1 c3 d1 hkn q
      unfold chkQ at q
      simp only [Bool.or_eq_true, Bool.and_eq_true, Nat.beq_eq, Bool.not_eq_true'] at q
      rcases q with q | ⟨q1, q2, q3⟩
      · exact absurd q hkn
      have hne : tab TX k ≠ tab TX l := by
        intro e
        rw [e] at q1
        rw [Nat.beq_refl] at q1; cases q1
      have r2 := nc _ _ q2
      have r3 := nc _ _ q3
      rw [Int.natCast_mul, Int.natCast_mul, Int.natCast_mul, Int.natCast_sub (by omega), Int.natCast_sub (by omega)] at r2
      rw [Int.natCast_mul, Int.natCast_mul, Int.natCast_sub (by omega), Int.natCast_sub (by omega), Int.natCast_sub (by omega)] at r3
      push_cast at r2 r3
      simp only [h.mul, h.add, h.sub, hp] at r2 r3
      refine ⟨hne, ?_, ?_⟩
      · clear r3; grind
      · clear r2; grind
    simp only [h.mul, h.add, h.sub, h.pow]
    rcases Nat.lt_or_ge k l with hlt | hge
    · obtain ⟨m1, m2, m3⟩ := main k l a1 a3 c1 c3 d1 (by omega) (hQ k l hk hlt hl')
      exact ⟨by omega, m2, m3⟩
    · have hlt : l < k := by omega
      have ec : (k + l) % n = (l + k) % n := by rw [Nat.add_comm]
      rw [ec] at d1 ⊢
      obtain ⟨m1, m2, m3⟩ := main l k c1 c3 a1 a3 d1 (by omega) (hQ l k hl hlt hk')
      refine ⟨by omega, ?_, ?_⟩
      · clear m3; grind
      · grind
  · intro i hi hi'
    obtain ⟨k, rfl, hk, hk'⟩ := toN i hi hi'
    obtain ⟨_, _, _, _, q5, q6, _⟩ := hPk k hk hk'
    have e : (n : Int) - (k : Int) = ((n - k : Nat) : Int) := by omega
    rw [e, tabN, tabN, tabN, tabN, q5]
    exact ⟨rfl, by omega⟩
  · intro u hu
    have e := gcd_emod' u p
    rw [← e]
    have q0 := Int.emod_nonneg u (by omega : (p : Int) ≠ 0)
    have q1 := Int.emod_lt_of_pos u (by omega : 0 < (p : Int))
    obtain ⟨k, hk⟩ : ∃ k : Nat, u % (p : Int) = k := ⟨(u % (p : Int)).toNat, by omega⟩
    rw [hk] at hu q1 ⊢
    have q := hF k (by omega) (by omega)
    unfold chkF at q
    simp only [Bool.and_eq_true, Nat.beq_eq] at q
    have e1 : k - 1 + 1 = k := by omega
    rw [e1] at q
    exact q.1
  · intro u hu
    have e := gcd_emod' u n
    rw [← e]
    have q0 := Int.emod_nonneg u (by omega : (n : Int) ≠ 0)
    have q1 := Int.emod_lt_of_pos u (by omega : 0 < (n : Int))
    obtain ⟨k, hk⟩ : ∃ k : Nat, u % (n : Int) = k := ⟨(u % (n : Int)).toNat, by omega⟩
    rw [hk] at hu q1 ⊢
    obtain ⟨_, _, _, _, _, _, _, _, q9⟩ := hPk k (by omega) (by omega)
    exact q9
  · intro u hu
    have q0 := Int.emod_nonneg u (by omega : (p : Int) ≠ 0)
    have q1 := Int.emod_lt_of_pos u (by omega : 0 < (p : Int))
    obtain ⟨k, hk⟩ : ∃ k : Nat, u % (p : Int) = k := ⟨(u % (p : Int)).toNat, by omega⟩
    have q := hF k (by omega) (by omega)
    unfold chkF at q
    simp only [Bool.and_eq_true, Nat.beq_eq] at q
    have e1 : k - 1 + 1 = k := by omega
    rw [e1] at q
    unfold fp
    rw [Int.mul_emod, hk, Int.toNat_natCast]
    have e2 : ((p : Int) - 2).natAbs = p - 2 := by omega
    rw [e2, Int.natAbs_natCast]
    have e3 : ((PySem.Builtin.powMod k (p - 2) p : Nat) : Int) % (p : Int) * (k : Int) % (p : Int) = 1 := by
      rw [Int.mul_emod, Int.emod_emod_of_dvd _ (Int.dvd_refl _), ← Int.mul_emod]
      exact_mod_cast q.2
    exact e3
def tx0 : Nat := 160013468763703755306411819520
def ty0 : Nat := 555219743953014414193971495936
theorem crv0 : Crv 11 13 1 6 2 4 (tabI tx0) (tabI ty0) := crv_of (p := 11) (n := 13) (a := 1) (b := 6) (gx := 2) (gy := 4) (by decide) (by decide +kernel) (by decide +kernel) (by decide +kernel) (by decide +kernel)
def tx1 : Nat := 353595558520933851710405266075435008256
def ty1 : Nat := 3406847841967460043454537364991612813568
theorem crv1 : Crv 11 17 6 5 1 1 (tabI tx1) (tabI ty1) := crv_of (p := 11) (n := 17) (a := 6) (b := 5) (gx := 1) (gy := 1) (by decide) (by decide +kernel) (by decide +kernel) (by decide +kernel) (by decide +kernel)
def tx2 : Nat := 322490676511997249882604831744
def ty2 : Nat := 243258920388238506426621825024
theorem crv2 : Crv 19 13 0 2 4 16 (tabI tx2) (tabI ty2) := crv_of (p := 19) (n := 13) (a := 0) (b := 2) (gx := 4) (gy := 16) (by decide) (by decide +kernel) (by decide +kernel) (by decide +kernel) (by decide +kernel)
def tx3 : Nat := 83574283947829223252072202496
def ty3 : Nat := 162172643500481852097367052544
theorem crv3 : Crv 19 13 0 3 1 17 (tabI tx3) (tabI ty3) := crv_of (p := 19) (n := 13) (a := 0) (b := 3) (gx := 1) (gy := 17) (by decide) (by decide +kernel) (by decide +kernel) (by decide +kernel) (by decide +kernel)
def tx4 : Nat := 148780242096875719791607970265742269132429468281088950937519841773415136452397527341877778548880572672
def ty4 : Nat := 4071035372508654156070045095528378396889536016602885682541919101004799375323691108016981639641940230656
theorem crv4 : Crv 31 43 0 3 1 2 (tabI tx4) (tabI ty4) := crv_of (p := 31) (n := 43) (a := 0) (b := 3) (gx := 1) (gy := 2) (by decide) (by decide +kernel) (by decide +kernel) (by decide +kernel) (by decide +kernel)
def tx5 : Nat := 3582952168659050507131994892416198260977224716828842377781344186212483584
def ty5 : Nat := 21251045061255848822774586415856841314446860257499257183847805065971900160
theorem crv5 : Crv 43 31 0 7 2 31 (tabI tx5) (tabI ty5) := crv_of (p := 43) (n := 31) (a := 0) (b := 7) (gx := 2) (gy := 31) (by decide) (by decide +kernel) (by decide +kernel) (by decide +kernel) (by decide +kernel)
def tx6 : Nat := 1020099362333308335954899761300162158246131163652959972639621666415879559320384240943616
def ty6 : Nat := 2488824542262613444368753424935930339177597822317576087002816331890362284243650899224064
theorem crv6 : Crv 43 37 6 5 2 38 (tabI tx6) (tabI ty6) := crv_of (p := 43) (n := 37) (a := 6) (b := 5) (gx := 2) (gy := 38) (by decide) (by decide +kernel) (by decide +kernel) (by decide +kernel) (by decide +kernel)
def tx7 : Nat := 153441621505027241518442180158329438870890651191749326832987972160444516051521225968449764866589202559140224118640712800659996255752472879793495345424471517820413171982524750518282616046080
def ty7 : Nat := 3149100370911241548741697382086232496108238260835525124584432475831339359806742626004516081376108139360277721005472502760112217969174390915101430605790457596702331645915939100193226599372288
theorem crv7 : Crv 67 79 0 7 2 22 (tabI tx7) (tabI ty7) := crv_of (p := 67) (n := 79) (a := 0) (b := 7) (gx := 2) (gy := 22) (by decide) (by decide +kernel) (by decide +kernel) (by decide +kernel) (by decide +kernel)
def tx8 : Nat := 507315637795032870207459079399801800323938080442101313062748455109081729397848732683093964409757435525390521178808544147921060316472076879574321303474839190699359997220684288
def ty8 : Nat := 2983438476464575471636633413955475123317540123015611871218131542337283168536432421770507693189967477013963534656567286181390842743930539182840451174404707524141607409396430592
theorem crv8 : Crv 67 73 0 2 2 55 (tabI tx8) (tabI ty8) := crv_of (p := 67) (n := 73) (a := 0) (b := 2) (gx := 2) (gy := 55) (by decide) (by decide +kernel) (by decide +kernel) (by decide +kernel) (by decide +kernel)
def tx9 : Nat := 1084841722397814253115289022494016702489930432169126170096540972328855617927902479340224944914106845376285689089562631481185937136888869338012358427051093131520
def ty9 : Nat := 53838131484800245356832369859201303865701515325103658048385184405002190936337006454564099142007092562167751763759151035382468637101563041253956147366463982408192
theorem crv9 : Crv 79 67 0 7 1 18 (tabI tx9) (tabI ty9) := crv_of (p := 79) (n := 67) (a := 0) (b := 7) (gx := 1) (gy := 18) (by decide) (by decide +kernel) (by decide +kernel) (by decide +kernel) (by decide +kernel)
def tx10 : Nat := 1814861419514303161259138645976931776105022333805701763787527749957766100738208007607690711606158682543575551749004711144707470261092768097893844929498734470302064786536930504793401490368464312015153539864826254071819311722579820800
def ty10 : Nat := 119987246580577217363570090931865076694043908583675786850156368883978498049839078504454731873726499581554813321513510049932448815870814831043808130569719429160402385574382981742861508564608357444115453414579811905748718475288336794112
theorem crv10 : Crv 79 97 0 3 1 2 (tabI tx10) (tabI ty10) := crv_of (p := 79) (n := 97) (a := 0) (b := 3) (gx := 1) (gy := 2) (by decide) (by decide +kernel) (by decide +kernel) (by decide +kernel) (by decide +kernel)
def tx11 : Nat := 3110401704298055909436082264844187507153575772853121729982820604724842475222926235083498854455353120708162458504804384307071141631277253948087719611463976802764883677184565577318738960508440276552869927117666881375091029877567469635171708558253875003146039254678786522233667482866187979876432982038413568
def ty11 : Nat := 261699210989329546657696786939912193204345214904857271707166940784009992216195990334879488068994348282086584394296768201842071695351203720059554181024479750215531952461006872877195209074239916998258516392139453125137574937512643147084686101545298358421960165786780542406463456203194333095905405959774150656
theorem crv11 : Crv 127 127 0 7 1 32 (tabI tx11) (tabI ty11) := crv_of (p := 127) (n := 127) (a := 0) (b := 7) (gx := 1) (gy := 32) (by decide) (by decide +kernel) (by decide +kernel) (by decide +kernel) (by decide +kernel)
def tx12 : Nat := 3495346437274717104468533893015780769244570454360347868564642866802210628082517824823090708514712918307303680492802845634809906698055473362193402304716828743132696697933340949004526830864398977346616056633375578895908823312259393802882264427699608343399506343475703379114819163344400469705628942569177344
def ty12 : Nat := 343118755325943841024944265816786412268530892135982651851141727617794478254934436650988430229657261527643365604425117778105497865817949294309726234226997240934360762754739018197019340083395145800632394498059487764940718124755003675987045938148340659199009065229338153143358308954702678696362082088486765056
theorem crv12 : Crv 127 127 0 3 1 2 (tabI tx12) (tabI ty12) := crv_of (p := 127) (n := 127) (a := 0) (b := 3) (gx := 1) (gy := 2) (by decide) (by decide +kernel) (by decide +kernel) (by decide +kernel) (by decide +kernel)

end
section
open Lean.Grind
section
variable {R : Type} [CommRing R]
/-- the homogeneous sum: x of it over z of it -/
theorem oadd_x (x1 y1 x2 y2 x3 z1 z2 : R) (h1 : (x3+x1+x2)*(x2-x1)^2 = (y2-y1)^2) :
    ((x2*z2)*z1 - (x1*z1)*z2) * ((((y2*z2)*z1 - (y1*z1)*z2)*((y2*z2)*z1 - (y1*z1)*z2)*(z1*z2) - ((x2*z2)*z1 - (x1*z1)*z2)*(((x2*z2)*z1 - (x1*z1)*z2)*((x2*z2)*z1 - (x1*z1)*z2))) - 2*((((x2*z2)*z1 - (x1*z1)*z2)*((x2*z2)*z1 - (x1*z1)*z2))*((x1*z1)*z2))) =
    x3 * ((((x2*z2)*z1 - (x1*z1)*z2)*(((x2*z2)*z1 - (x1*z1)*z2)*((x2*z2)*z1 - (x1*z1)*z2)))*(z1*z2)) := by
  have id : ((x2*z2)*z1 - (x1*z1)*z2) * ((((y2*z2)*z1 - (y1*z1)*z2)*((y2*z2)*z1 - (y1*z1)*z2)*(z1*z2) - ((x2*z2)*z1 - (x1*z1)*z2)*(((x2*z2)*z1 - (x1*z1)*z2)*((x2*z2)*z1 - (x1*z1)*z2))) - 2*((((x2*z2)*z1 - (x1*z1)*z2)*((x2*z2)*z1 - (x1*z1)*z2))*((x1*z1)*z2))) - x3 * ((((x2*z2)*z1 - (x1*z1)*z2)*(((x2*z2)*z1 - (x1*z1)*z2)*((x2*z2)*z1 - (x1*z1)*z2)))*(z1*z2)) = (x2-x1)*(z1*z2)^4*((y2-y1)^2 - (x3+x1+x2)*(x2-x1)^2) := by clear h1; grind
  rw [h1] at id
  have q : ∀ u v w f : R, u - v = w * (f - f) → u = v := by intro u v w f h; clear id h1; grind
  exact q _ _ _ _ id
end
section
variable {p n a b gx gy : Int} {X Y : Int → Int}
theorem oadd_ne (c : Crv p n a b gx gy X Y) {i j x1 z1 x2 z2 : Int} (hi : 0 < i) (hi' : i < n) (hj : 0 < j) (hj' : j < n) (hij : i ≠ j) (hn : i + j ≠ n)
    (h1 : (x1 - X i * z1) % p = 0) (h2 : (x2 - X j * z2) % p = 0) (hz1 : z1 % p ≠ 0) (hz2 : z2 % p ≠ 0) : (x2 * z1 - x1 * z2) % p ≠ 0 := by
  have hp0 : 0 < p := by have := c.p_lo; omega
  have hne := (c.add i j hi hi' hj hj' hij hn).1
  have q1 := c.rng i hi hi'
  have q2 := c.rng j hj hj'
  have hs : (X j - X i) % p ≠ 0 := c.sub_ne q2.1 q2.2.1 q1.1 q1.2.1 (Ne.symm hne)
  have hm : ((X j - X i) * (z1 * z2)) % p ≠ 0 := c.mul_ne hs (c.mul_ne hz1 hz2)
  obtain ⟨R, _, φ, h⟩ := HomP.exists (p := p) (by have := c.p_lo; omega)
  rw [h.eqv] at h1 h2
  rw [h.ne] at hm ⊢
  simp only [h.mul, h.sub] at h1 h2 hm ⊢
  intro hh
  apply hm
  rw [h1, h2] at hh
  grind
theorem oadd_fin (c : Crv p n a b gx gy X Y) {i j x1 y1 z1 x2 y2 z2 U1 U2 V1 V2 U V Vs Vs2 Vc W T1 T2 T3 T4 A nx nz : Int} (hi : 0 < i) (hi' : i < n) (hj : 0 < j) (hj' : j < n) (hij : i ≠ j) (hn : i + j ≠ n)
    (hx1 : (x1 - X i * z1) % p = 0) (hy1 : (y1 - Y i * z1) % p = 0) (hx2 : (x2 - X j * z2) % p = 0) (hy2 : (y2 - Y j * z2) % p = 0) (hz1 : z1 % p ≠ 0) (hz2 : z2 % p ≠ 0)
    (eX : nx = (V * A).fmod p) (eZ : nz = (Vc * W).fmod p) (eA : A = (T3 - T4).fmod p) (e3 : T3 = (T2 - Vc).fmod p) (e4 : T4 = (Vs2 * 2).fmod p) (e2 : T2 = (T1 * W).fmod p) (e1 : T1 = (U * U).fmod p)
    (eVc : Vc = (V * Vs).fmod p) (eVs2 : Vs2 = (Vs * V2).fmod p) (eVs : Vs = (V * V).fmod p) (eW : W = (z1 * z2).fmod p) (eU : U = (U1 - U2).fmod p) (eV : V = (V1 - V2).fmod p)
    (eU1 : U1 = (y2 * z1).fmod p) (eU2 : U2 = (y1 * z2).fmod p) (eV1 : V1 = (x2 * z1).fmod p) (eV2 : V2 = (x1 * z2).fmod p) :
    (0 ≤ nx ∧ nx < p) ∧ (0 ≤ nz ∧ nz < p) ∧ nz % p ≠ 0 ∧ (nx - X ((i + j) % n) * nz) % p = 0 := by
  have hp0 : 0 < p := by have := c.p_lo; omega
  have hv := oadd_ne c hi hi' hj hj' hij hn hx1 hx2 hz1 hz2
  obtain ⟨_, d1, _⟩ := c.add i j hi hi' hj hj' hij hn
  have hzz : ((x2 * z1 - x1 * z2) * ((x2 * z1 - x1 * z2) * (x2 * z1 - x1 * z2)) * (z1 * z2)) % p ≠ 0 := c.mul_ne (c.mul_ne hv (c.mul_ne hv hv)) (c.mul_ne hz1 hz2)
  refine ⟨by rw [eX]; exact fmod_rng hp0, by rw [eZ]; exact fmod_rng hp0, ?_, ?_⟩
  · obtain ⟨R, _, φ, h⟩ := HomP.exists (p := p) (by have := c.p_lo; omega)
    rw [h.ne] at hzz ⊢
    subst eZ eVc eVs eW eV eV1 eV2
    simp only [h.mod, h.mul, h.sub] at hzz ⊢
    exact hzz
  · obtain ⟨R, _, φ, h⟩ := HomP.exists (p := p) (by have := c.p_lo; omega)
    rw [h.eqv] at hx1 hy1 hx2 hy2 d1
    rw [h.eqv]
    subst eX eZ eA e3 e4 e2 e1 eVc eVs2 eVs eW eU eV eU1 eU2 eV1 eV2
    simp only [h.mod, h.mul, h.sub, h.add, h.pow, h.lit] at hx1 hy1 hx2 hy2 d1 ⊢
    rw [hx1, hy1, hx2, hy2, ← oadd_x _ _ _ _ _ _ _ d1]
    have cm : ∀ u : R, u * 2 = 2 * u := by intro u; clear d1 hx1 hy1 hx2 hy2 hzz; grind
    rw [cm]
theorem onorm_fin (c : Crv p n a b gx gy X Y) {k x z e v : Int} (hk : 0 < k) (hk' : k < n) (hx : (x - X k * z) % p = 0) (he : (z * e) % p = 1) (hv : v = (x * e).fmod p) : v = X k := by
  have hp0 : 0 < p := by have := c.p_lo; omega
  have q := c.rng k hk hk'
  subst hv
  obtain ⟨R, _, φ, h⟩ := HomP.exists (p := p) (by have := c.p_lo; omega)
  have hh := hom_one h (by have := c.p_lo; omega) he
  rw [h.eqv] at hx
  refine eq_of_mod (fmod_rng hp0).1 (fmod_rng hp0).2 q.1 q.2.1 ?_
  rw [h.eqv]
  simp only [h.mod, h.mul] at hx ⊢
  rw [hx]
  have : ∀ x v f : R, x * v * f = x * (v * f) := by intro x v f; clear hx hh; grind
  rw [this, hh]; clear hx hh; grind
theorem gcd_of_ne (c : Crv p n a b gx gy X Y) {z : Int} (hz : z % p ≠ 0) : Int.gcd z p = 1 := c.pr _ hz
end

end
end Mine
open PySem PySem.W PyProof.Rows PySem.Calls PySem.Spec
namespace Mine
section
set_option maxHeartbeats 8000000 in
open_top hd for PySem.Challenge.rw_bw0040_01

end
section

abbrev Led := List (Addr × Obj)

def Con (w : World) (mean : ExcName → Option Value) (mg mb : Str → Option Value) (f : Addr) (sz : Nat) (news : Led) (vs : List Value) (Out : Value → Led → Prop) : Prop :=
  ∀ (dp un : Nat) (gd : Option (List Code)) (cn : Str) (cs : Scope) (a : Addr) (ccd : Value) (cl : List (Str × Addr)) (outer : List Env) (A₀ : Around) (base h₀ : Heap) (L : Addr) (m : Str → Option Value) (s : Shared) (Q E : Value → Shared → Prop),
    Below A₀ base outer h₀ → Fr h₀ L s.heap m → (hd.heap_39 w.params).In h₀ → News h₀ L s.heap news →
    Top hd.view_39 (looseW hd.view_39 [Str.ofString "add_secp256k1", Str.ofString "double_bn128_curve", Str.ofString "add_bn128_curve", Str.ofString "neg_bn128_curve", Str.ofString "FQ", Str.ofString "FQ_field_elements", Str.ofString "FQ_optimized_field_elements", Str.ofString "double_optimized_curve", Str.ofString "add_optimized_curve", Str.ofString "neg_optimized_curve"]) mean mg mb h₀ →
    cs.kind = .function → dp + sz < recursionLimit → un + 8 * sz < cLine →
    (∀ r tl h' tk', Fr h₀ L h' m → News h₀ L h' (tl ++ news) → Out r tl → Q r { s with heap := h', toks := tk' }) →
    wpAny (model PySem.Challenge.rw_bw0040_01.row.prog w) (ktrTop dp un gd cn cs L a ccd cl outer) (call (.ref f) vs) Q E s

abbrev tupO (l : List Value) (k : Nat) : Obj := { cls := .type "tuple", data := .seq l.toArray k }

theorem news_sub {h₀ h : Heap} {L : Addr} {n1 n2 : Led} (N : News h₀ L h n1) (hs : ∀ p ∈ n2, p ∈ n1) : News h₀ L h n2 := fun p hp => N p (hs p hp)

-- one int back
def OInt (P : Int → Prop) (r : Value) (tl : Led) : Prop := tl = [] ∧ ∃ v t, r = .int v t ∧ P v

theorem end_int {h₀ : Heap} {L : Addr} {m : Str → Option Value} {s : Shared} {Q : Value → Shared → Prop} {news : Led} {P : Int → Prop} (hret : ∀ r tl h' tk', Fr h₀ L h' m → News h₀ L h' (tl ++ news) → OInt P r tl → Q r { s with heap := h', toks := tk' })
    {v : Int} {t : Tok} {h' : Heap} {tk' : Nat} {n1 : Led} (F : Fr h₀ L h' m) (N : News h₀ L h' n1) (hs : ∀ p ∈ news, p ∈ n1) (hP : P v) : Q (.int v t) { s with heap := h', toks := tk' } :=
  hret _ [] _ _ F (news_sub N hs) ⟨rfl, v, t, rfl, hP⟩

def Bd (k : Nat) (x : Int) : Prop := -(2 ^ k) ≤ x ∧ x ≤ 2 ^ k
theorem Bd.lit {x : Int} (h : -(2 ^ 8) ≤ x ∧ x ≤ 2 ^ 8) : Bd 8 x := h
theorem two_le_two {i j : Nat} (h : i ≤ j) : (2 : Int) ^ i ≤ 2 ^ j := by
  have := Nat.pow_le_pow_right (n := 2) (by omega) h
  exact_mod_cast this
theorem two_pos (i : Nat) : (0 : Int) < 2 ^ i := Int.pow_pos (by omega)
theorem Bd.mono {i j : Nat} {x : Int} (h : Bd i x) (hij : i ≤ j) : Bd j x := by
  have := two_le_two hij; unfold Bd at *; omega
theorem Bd.add {i j : Nat} {x y : Int} (hx : Bd i x) (hy : Bd j y) : Bd (max i j + 1) (x + y) := by
  have h1 := two_le_two (Nat.le_max_left i j); have h2 := two_le_two (Nat.le_max_right i j)
  unfold Bd at *; rw [Int.pow_succ]; omega
theorem Bd.sub {i j : Nat} {x y : Int} (hx : Bd i x) (hy : Bd j y) : Bd (max i j + 1) (x - y) := by
  have h1 := two_le_two (Nat.le_max_left i j); have h2 := two_le_two (Nat.le_max_right i j)
  unfold Bd at *; rw [Int.pow_succ]; omega
theorem Bd.neg {i : Nat} {x : Int} (hx : Bd i x) : Bd i (-x) := by unfold Bd at *; omega
theorem bd_abs {i : Nat} {x : Int} : Bd i x ↔ x.natAbs ≤ 2 ^ i := by
  have : ((2 ^ i : Nat) : Int) = (2 : Int) ^ i := by exact_mod_cast rfl
  unfold Bd; omega
theorem Bd.mul {i j : Nat} {x y : Int} (hx : Bd i x) (hy : Bd j y) : Bd (i + j) (x * y) := by
  rw [bd_abs] at *
  rw [Int.natAbs_mul, Nat.pow_add]
  exact Nat.mul_le_mul hx hy
theorem Bd.pow {i : Nat} {x : Int} (hx : Bd i x) (n : Nat) : Bd (i * n) (x ^ n) := by
  rw [bd_abs] at *
  rw [Int.natAbs_pow, Nat.pow_mul]
  exact Nat.pow_le_pow_left hx n
theorem Bd.fmod {i : Nat} {x p : Int} (hp : Bd i p) (h0 : 0 < p) : Bd i (x.fmod p) := by
  have e : x.fmod p = x % p := Int.fmod_eq_emod_of_nonneg x (by omega)
  have h1 := Int.emod_nonneg x (by omega : p ≠ 0)
  have h2 := Int.emod_lt_of_pos x h0
  unfold Bd at *; omega
theorem bd_bits {i : Nat} {x : Int} (h : Bd i x) (hi : i ≤ 1000) : Builtin.Int.intBits x ≤ 2 ^ 20 := by
  rw [bd_abs] at h
  unfold Builtin.Int.intBits
  split
  · omega
  · have h0 : x.natAbs ≠ 0 := by rename_i q; simp at q; omega
    have : x.natAbs.log2 < i + 1 := (Nat.log2_lt h0).mpr (by rw [Nat.pow_succ]; have := Nat.pow_pos (n := i) (show 0 < 2 by omega); omega)
    omega
theorem bd_mulok {i j : Nat} {x y : Int} (hx : Bd i x) (hy : Bd j y) (hi : i ≤ 1000) (hj : j ≤ 1000) : IntMulOk x y := IntMulOk.of_bits (bd_bits hx hi) (bd_bits hy hj)
theorem bd_lt64 {i : Nat} {x : Int} (hx : Bd i x) (hi : i ≤ 60) : x.natAbs < 2 ^ 64 := by
  rw [bd_abs] at hx
  exact Nat.lt_of_le_of_lt (Nat.le_trans hx (Nat.pow_le_pow_right (by omega) hi)) (by decide)
def OTup3 (P : Int → Int → Int → Prop) (r : Value) (tl : Led) : Prop := ∃ D t1 t2 t3 c x y z, r = .ref D ∧ tl = [(D, tupO [.int x t1, .int y t2, .int z t3] c)] ∧ P x y z
theorem end_tup3 {h₀ : Heap} {L : Addr} {m : Str → Option Value} {s : Shared} {Q : Value → Shared → Prop} {news : Led} {P : Int → Int → Int → Prop} (hret : ∀ r tl h' tk', Fr h₀ L h' m → News h₀ L h' (tl ++ news) → OTup3 P r tl → Q r { s with heap := h', toks := tk' })
    {D : Addr} {t1 t2 t3 : Tok} {c : Nat} {x y z : Int} {h' : Heap} {tk' : Nat} {n1 : Led} (F : Fr h₀ L h' m) (N : News h₀ L h' n1) (hD : (D, tupO [.int x t1, .int y t2, .int z t3] c) ∈ n1) (hs : ∀ p ∈ news, p ∈ n1) (hP : P x y z) : Q (.ref D) { s with heap := h', toks := tk' } :=
  hret _ [(D, tupO [.int x t1, .int y t2, .int z t3] c)] _ _ F (news_sub N (by intro p hp; rcases List.mem_cons.mp hp with rfl | hp; exact hD; exact hs p hp)) ⟨D, t1, t2, t3, c, x, y, z, rfl, rfl, hP⟩
def OTup2 (P : Int → Int → Prop) (r : Value) (tl : Led) : Prop := ∃ D t1 t2 c x y, r = .ref D ∧ tl = [(D, tupO [.int x t1, .int y t2] c)] ∧ P x y
theorem end_tup2 {h₀ : Heap} {L : Addr} {m : Str → Option Value} {s : Shared} {Q : Value → Shared → Prop} {news : Led} {P : Int → Int → Prop} (hret : ∀ r tl h' tk', Fr h₀ L h' m → News h₀ L h' (tl ++ news) → OTup2 P r tl → Q r { s with heap := h', toks := tk' })
    {D : Addr} {t1 t2 : Tok} {c : Nat} {x y : Int} {h' : Heap} {tk' : Nat} {n1 : Led} (F : Fr h₀ L h' m) (N : News h₀ L h' n1) (hD : (D, tupO [.int x t1, .int y t2] c) ∈ n1) (hs : ∀ p ∈ news, p ∈ n1) (hP : P x y) : Q (.ref D) { s with heap := h', toks := tk' } :=
  hret _ [(D, tupO [.int x t1, .int y t2] c)] _ _ F (news_sub N (by intro p hp; rcases List.mem_cons.mp hp with rfl | hp; exact hD; exact hs p hp)) ⟨D, t1, t2, c, x, y, rfl, rfl, hP⟩
theorem bd7 {x : Int} (h0 : 0 ≤ x) (h1 : x ≤ 128) : Bd 7 x := by unfold Bd; omega
theorem con_use {w : World} {mean : ExcName → Option Value} {mg mb : Str → Option Value} {f : Addr} {sz : Nat} {news : Led} {vs : List Value} {Out : Value → Led → Prop}
    {dp un : Nat} {gd : Option (List Code)} {cn : Str} {cs : Scope} {a : Addr} {ccd : Value} {cl : List (Str × Addr)} {outer : List Env} {A₀ : Around} {base h₀ : Heap} {L : Addr} {m : Str → Option Value} {s : Shared} {Q E : Value → Shared → Prop}
    (C : Con w mean mg mb f sz news vs Out) (B : Below A₀ base outer h₀) (F : Fr h₀ L s.heap m) (X : (hd.heap_39 w.params).In h₀) (N : News h₀ L s.heap news)
    (T : Top hd.view_39 (looseW hd.view_39 [Str.ofString "add_secp256k1", Str.ofString "double_bn128_curve", Str.ofString "add_bn128_curve", Str.ofString "neg_bn128_curve", Str.ofString "FQ", Str.ofString "FQ_field_elements", Str.ofString "FQ_optimized_field_elements", Str.ofString "double_optimized_curve", Str.ofString "add_optimized_curve", Str.ofString "neg_optimized_curve"]) mean mg mb h₀)
    (hk : cs.kind = .function) (hdp : dp + sz < recursionLimit) (hun : un + 8 * sz < cLine)
    (ret : ∀ r tl h' tk', Fr h₀ L h' m → News h₀ L h' (tl ++ news) → Out r tl → Q r { s with heap := h', toks := tk' }) :
    wpAny (model PySem.Challenge.rw_bw0040_01.row.prog w) (ktrTop dp un gd cn cs L a ccd cl outer) (call (.ref f) vs) Q E s :=
  C _ _ _ _ _ _ _ _ _ _ _ _ _ _ _ _ _ B F X N T hk hdp hun ret
theorem con_mono {w : World} {mean : ExcName → Option Value} {mg mb : Str → Option Value} {f : Addr} {sz sz' : Nat} {news : Led} {vs : List Value} {Out Out' : Value → Led → Prop}
    (C : Con w mean mg mb f sz news vs Out) (hsz : sz ≤ sz') (ho : ∀ r tl, Out r tl → Out' r tl) : Con w mean mg mb f sz' news vs Out' := by
  intro dp un gd cn cs a ccd cl outer A₀ base h₀ L m s Q E B F X N T hk hd hu hret
  exact C _ _ _ _ _ _ _ _ _ _ _ _ _ _ _ _ _ B F X N T hk (by omega) (by omega) (fun r tl h' tk' F' N' o => hret r tl h' tk' F' N' (ho r tl o))
theorem tup_item {prog : Program} {w : World} {A : Around} {E : Value → Shared → Prop} {s : Shared} {h₀ : Heap} {L t : Addr} {news : Led} {value slice : PySem.Expr} {l : List Value} {n : Nat} {k : Int} {u : Tok} {j : Nat} {x : Value} {Q : Value → Shared → Prop}
    (N : News h₀ L s.heap news) (hm : (t, tupO l n) ∈ news) (hlo : -(2 ^ 63) ≤ k) (hhi : k < 2 ^ 63) (hj : seqIndex? k l.length = some j) (hx : l[j]? = some x) (h : Q x s)
    (hs : subscripted slice false (.ref t) (.int k u) = operate [.ref t, .int k u] (getItem (.ref t) (.int k u))) :
    wpAny (model prog w) A (subscriptTail value slice (.ref t) (.int k u)) Q E s := item_tupleT (N.isTup hm) hlo hhi hj hx h hs

end
local macro_rules | `(tactic| walk_at "call ref") => `(tactic| (k_here; (with_reducible show wpAny _ _ (call (Value.ref _) _) _ _ _); k_dflt (refine wpAny_call ?_; (refine' code_def ?k1 ?k2 ?k3 ?k4 ?k5 ?kA ?kF ?kK ?k6 ?k7 ?k8 ?k9 ?kB ?_ ?c2 ?c3 ?c4 ?c5; (case kA => exact rfl); (case kF => exact rfl); (case kK => first | exact rfl | assumption); (case k1 => k_asm); (case k2 => k_asm); (case k3 => k_asm); (case k4 => k_asm); (case k5 => k_asm); (case k6 => k_is); (case k7 => k_is); (case k8 => ktr_room); (case k9 => exact BindsTo.of_eq rfl); (case c5 => decide); (case kB => exact locs rfl); (case c2 => exact rfl); (case c3 => exact rfl); (case c4 => exact rfl); k_whole; intro g' L' h' FG' F' N' B' X' T'; (try dsimp only); (try k_lift B'); (try k_fold)))))
local macro_rules | `(tactic| mul_fits) => `(tactic| ((with_reducible show IntMulOk _ _); exact bd_mulok (by mul_fits) (by mul_fits) (by decide) (by decide)))
local macro_rules | `(tactic| mul_fits) => `(tactic| ((with_reducible show Bd _ _); first
  | with_reducible assumption
  | ((with_reducible show Bd _ (Int.fmod _ _)); with_reducible exact Bd.fmod (by mul_fits) (by assumption))
  | ((with_reducible show Bd _ (_ * _ : Int)); with_reducible exact Bd.mul (by mul_fits) (by mul_fits))
  | ((with_reducible show Bd _ (_ + _ : Int)); with_reducible exact Bd.add (by mul_fits) (by mul_fits))
  | ((with_reducible show Bd _ (_ - _ : Int)); with_reducible exact Bd.sub (by mul_fits) (by mul_fits))
  | ((with_reducible show Bd _ (- _ : Int)); with_reducible exact Bd.neg (by mul_fits))
  | ((with_reducible show Bd _ (_ ^ _ : Int)); with_reducible exact Bd.pow (by mul_fits) _)
  | exact Bd.lit (by decide)))
local macro_rules | `(tactic| walk_at "binaryOp Pow int int") => `(tactic| (k_here; (with_reducible refine pow_int_small (by decide) (by decide) (bd_lt64 (by mul_fits) (by decide)) ?_)))
local macro_rules | `(tactic| cell_end $hret:term $q:term $s:term) => `(tactic| first
  | (refine' end_int (Q := $q) (s := $s) $hret ?yf ?yn ?ys ?yp; (case yf => k_asm); (case yn => k_asm); (case ys => kcj_all))
  | (refine' end_tup2 (Q := $q) (s := $s) $hret ?yf ?yn ?yd ?ys ?yp; (case yf => k_asm); (case yn => k_asm); (case yd => k_mem); (case ys => kcj_all))
  | (refine' end_tup3 (Q := $q) (s := $s) $hret ?yf ?yn ?yd ?ys ?yp; (case yf => k_asm); (case yn => k_asm); (case yd => k_mem); (case ys => kcj_all)))
local macro_rules | `(tactic| cell_ask $t:term) => `(tactic| (refine' con_use $t ?k1 ?k2 ?k3 ?k4 ?k5 ?k6 ?kd ?ku ?kR; (case k1 => k_asm); (case k2 => k_asm); (case k3 => k_asm); (case k4 => k_asm); (case k5 => k_asm); (case k6 => first | exact rfl | assumption); (case kd => ktr_room); (case ku => ktr_units)))
local macro_rules | `(tactic| k_mem) => `(tactic| ((fail_if_success (refine List.Mem.tail _ ?_)); assumption))
local macro_rules | `(tactic| k_room) => `(tactic| ktr_room)
local macro_rules | `(tactic| k_units) => `(tactic| ktr_units)
local macro_rules | `(tactic| kcj_all) => `(tactic| (intro pq hq; (repeat (with_reducible refine List.mem_cons_of_mem _ ?_)); first | with_reducible exact hq | with_reducible exact List.mem_append_left _ hq | with_reducible exact List.mem_append_right _ hq))
local macro_rules | `(tactic| walk_at "subscriptTail Name Constant ref int") => `(tactic| (k_here; (with_reducible show wpAny _ _ (subscriptTail _ _ (Value.ref _) (Value.int _ _)) _ _ _); k_dflt (refine' tup_item ?n ?m ?a ?b ?c ?d ?_ ?s; (case n => k_asm); (case m => k_mem); (case a => decide); (case b => decide); (case c => rfl); (case d => rfl); (case s => with_unfolding_all rfl); k_whole)))
local macro_rules | `(tactic| walk_at "eval Name") => `(tactic| (k_here; (with_reducible rename Fr _ _ _ _ => kF); k_dflt (refine' name_B kF ?k1 ?k2 ?k3 ?k4 ?k5 ?_ ?k6 ?k7 ?k8; (case k7 => kernel_rfl!); (case k6 => exact rfl); (case k8 => decide +kernel); (case k1 => k_asm); (case k2 => k_asm); (case k3 => k_is); (case k4 => boot_by_name); (case k5 => decide); k_whole)))
local macro_rules | `(tactic| walk_at "eval Name") => `(tactic| (k_here; (with_reducible rename Fr _ _ _ _ => kF); k_dflt (refine' name_K kF ?k1 ?k2 ?k3 ?_ ?k6 ?k7 ?k8; (case k7 => kernel_rfl!); (case k6 => exact rfl); (case k8 => decide +kernel); (case k1 => k_asm); (case k2 => k_asm); (case k3 => k_is); k_whole)))
local macro_rules | `(tactic| walk_at "eval Name") => `(tactic| (k_here; k_dflt (refine' ld ?k1 ?k2 ?_ ?k6 ?k7 ?k8; (case k7 => kernel_rfl!); (case k6 => exact rfl); (case k8 => decide +kernel); (case k1 => k_asm); (case k2 => exact rfl); k_whole)))
section
theorem entry_pow : entryFor table "pow" = some Builtin.«pow» := entryFor_of_fast (by kernel_rfl)
theorem kind_pow : builtinKind "pow" = none := by decide +kernel
theorem plain_pow : plainId "pow" = true := by decide +kernel
theorem args_pow3 (a b c : Value) : argsOk "pow" ⟨[a, b, c], []⟩ := by unfold argsOk; kernel_rfl
theorem args_int_pow3 (a b c : Value) : argsOk "int.__pow__" ⟨[a, b, c], []⟩ := by unfold argsOk; kernel_rfl
section
variable {prog : Program} {w : World} {A : Around} {E : Value → Shared → Prop} {s : Shared} {a n p : Int} {t u v : Tok} {Q : Value → Shared → Prop}
theorem call_int_pow3 (hn : 0 ≤ n) (hp : 2 ≤ p) (h : Q (.int ((Builtin.powMod (a % p).toNat n.natAbs p.natAbs : Nat) : Int) s.toks) { s with toks := s.toks + 1 }) :
    wpAny (model prog w) A (call (.builtin "int.__pow__") [.int a t, .int n u, .int p v]) Q E s := by
  refine wpAny_call_entry slot_int_pow (typeIs_int s a t) entry_int_pow ?_ (args_int_pow3 _ _ _)
  obtain ⟨q, rfl⟩ : ∃ q : Nat, p = q := ⟨p.toNat, by omega⟩
  show wpAny _ _ (if ((q : Int) == 0) = true then _ else _) _ _ s
  rw [if_neg (by simp; omega)]
  show wpAny _ _ (if ((q : Int).natAbs == 1) = true then _ else _) _ _ s
  rw [if_neg (by simp; omega)]
  show wpAny _ _ (if n < 0 then _ else retInt (if (decide ((q : Int) < 0) && ((Builtin.powMod (a % ((q : Int).natAbs : Int)).toNat n.natAbs (q : Int).natAbs : Nat) : Int) != 0) = true then _ else ((Builtin.powMod (a % ((q : Int).natAbs : Int)).toNat n.natAbs (q : Int).natAbs : Nat) : Int))) _ _ s
  rw [if_neg (by omega)]
  have hd : decide ((q : Int) < 0) = false := by simp
  rw [hd, Bool.false_and, if_neg Bool.false_ne_true]
  have e : ((q : Int).natAbs : Int) = q := by omega
  rw [e]
  repeat (first | refine wpAny_pure ?_ | refine wpAny_mkInt ?_ | refine wpAny_rule ?_ | refine wpAny_bind ?_)
  exact ⟨_, rfl, h⟩
theorem call_pow3 (hn : 0 ≤ n) (hp : 2 ≤ p) (h : ∀ k, Q (.int ((Builtin.powMod (a % p).toNat n.natAbs p.natAbs : Nat) : Int) k) { s with toks := k + 1 }) :
    wpAny (model prog w) A (call (.builtin "pow") [.int a t, .int n u, .int p v]) Q E s := by
  refine call_function_entry kind_pow plain_pow entry_pow (args_pow3 _ _ _) ?_
  unfold Builtin.«pow»
  refine wpAny_bind ?_
  have e : Builtin.Builtins.bindParams "pow" ["base", "exp", "mod"] 2 ⟨[.int a t, .int n u, .int p v], []⟩ = pure [some (.int a t), some (.int n u), some (.int p v)] := by kernel_rfl
  rw [e]
  refine wpAny_pure ?_
  refine wpAny_bind (wpAny_rule ?_)
  refine wpAny_bind (wpAny_typeOf (typeIs_int _ _ _) ?_)
  have el : typeLookup (.type "int") (Str.ofString "__pow__") = pure (some (.builtin "int.__pow__")) := slot_int_pow.lookup
  refine wpAny_bind ?_
  rw [el]
  refine wpAny_pure ?_
  refine wpAny_bind ?_
  refine wpAny_callSpecial?_slot (typeIs_int _ _ _) (name := Str.ofString "__pow__") slot_int_pow ?_
  refine call_int_pow3 hn hp ?_
  refine wpAny_pure ?_
  exact ⟨_, rfl, h _⟩
end
theorem powMod_lt (b e m : Nat) (hm : 2 ≤ m) : Builtin.powMod b e m < m := by
  unfold Builtin.powMod
  have key : ∀ (l : List Nat) (x : Nat), x < m → l.foldl (fun p i => if e.testBit i then p * p % m * b % m else p * p % m) x < m := by
    intro l
    induction l with
    | nil => intro x hx; exact hx
    | cons i r ih =>
      intro x _
      rw [List.foldl_cons]
      apply ih
      split <;> exact Nat.mod_lt _ (by omega)
  exact key _ _ (Nat.mod_lt _ (by omega))
theorem fp_rng {u e p : Int} (hp : 2 ≤ p) : 0 ≤ fp u e p ∧ fp u e p < p := by
  have := powMod_lt (u % p).toNat e.natAbs p.natAbs (by omega)
  unfold fp; omega
theorem Bd.fp {i : Nat} {u e p : Int} (h : Bd i p) (hp : 2 ≤ p) : Bd i (fp u e p) := by
  have := fp_rng (u := u) (e := e) hp
  unfold Bd at *; have := two_pos i; omega
section
variable {prog : Program} {w : World} {A : Around} {E : Value → Shared → Prop} {s : Shared} {a n p : Int} {t u v : Tok} {Q : Value → Shared → Prop}
theorem call_pow4 (hn : 0 ≤ n) (hp : 2 ≤ p) (h : ∀ k, Q (.int (fp a n p) k) { s with toks := k + 1 }) :
    wpAny (model prog w) A (call (.builtin "pow") [.int a t, .int n u, .int p v]) Q E s := call_pow3 hn hp h
end

end
local macro_rules | `(tactic| mul_fits) => `(tactic| ((with_reducible show Bd _ (fp _ _ _)); with_reducible exact Bd.fp (by mul_fits) (by assumption)))
local macro_rules | `(tactic| walk_at "call builtin:pow") => `(tactic| (k_here; (refine call_pow4 (by assumption) (by assumption) ?_); intro k9; (try dsimp only)))
section
section
variable {prog : Program} {w : World} {A : Around} {E : Value → Shared → Prop} {Q : Flow → Shared → Prop} {s : Shared} {env : Env} {h₀ : Heap} {L : Addr}
def LadEnd (h₀ : Heap) (L : Addr) (s : Shared) (base : Led) (m₀ : Str → Option Value) (P : Int → List Int → Prop) (cnt : Int) (s₂ : Shared) : Prop :=
  ∃ (cnt' : Int) (t' : Tok) (ds' : List Int) (vals' : List Value) (l' : Addr) (cap' : Nat) (h' : Heap) (tk : Nat) (m' : Str → Option Value) (news' : Led), s₂ = { s with heap := h', toks := tk } ∧ Fr h₀ L h' m' ∧ News h₀ L h' news' ∧ (l', PySem.W.listOf vals'.toArray cap') ∈ news' ∧ (∀ p ∈ base, p ∈ news') ∧ IntsAre vals' ds' ∧
    m' (Str.ofString "count") = some (.int cnt' t') ∧ m' (Str.ofString "digits") = some (.ref l') ∧ (∀ z, z ≠ Str.ofString "count" → z ≠ Str.ofString "digits" → m' z = m₀ z) ∧ P cnt' ds' ∧ cnt'.toNat < cnt.toNat
def LadPost (h₀ : Heap) (L : Addr) (s : Shared) (base : Led) (m₀ : Str → Option Value) (P : Int → List Int → Prop) (Q : Flow → Shared → Prop) (cnt : Int) (f : Flow) (s₂ : Shared) : Prop :=
  match f with
  | .ret v => Q (.ret v) s₂
  | .brk => Q .next s₂
  | _ => LadEnd h₀ L s base m₀ P cnt s₂
theorem lad_while {test : Expr} {body : List Stmt} {pos : Pos} {m₀ : Str → Option Value} {base : Led} {D0 l0 : Addr} {o0 : Obj} {cnt0 : Int} {t0 : Tok} (P : Int → List Int → Prop)
    (F : Fr h₀ L s.heap m₀) (N : News h₀ L s.heap ((D0, o0) :: (l0, PySem.W.listOf #[] 0) :: base)) (hc : m₀ (Str.ofString "count") = some (.int cnt0 t0)) (hd : m₀ (Str.ofString "digits") = some (.ref l0)) (hp : P cnt0 [])
    (turn : ∀ cnt t ds vals l cap h tk, IntsAre vals ds → P cnt ds → Fr h₀ L h (fun z => if z = Str.ofString "count" then some (.int cnt t) else if z = Str.ofString "digits" then some (.ref l) else m₀ z) → News h₀ L h ((l, PySem.W.listOf vals.toArray cap) :: base) →
      wpAny (model prog w) A (isTrue test env (eval test env)) (fun b s₂ => if b = true then wpAny (model prog w) A (execs body env) (LadPost h₀ L s base m₀ P Q cnt) E s₂ else Q .next s₂) E { s with heap := h, toks := tk })
    (hE : PassesOwn (model prog w) A env E := by passes_own) :
    wpAny (model prog w) A (exec (.While test body [] pos) env) Q E s := by
  refine While_inv2 (fun k m nx => ∃ cnt t ds vals l cap, k = cnt.toNat ∧ nx = (l, PySem.W.listOf vals.toArray cap) :: base ∧ IntsAre vals ds ∧ m (Str.ofString "count") = some (.int cnt t) ∧ m (Str.ofString "digits") = some (.ref l) ∧ (∀ z, z ≠ Str.ofString "count" → z ≠ Str.ofString "digits" → m z = m₀ z) ∧ P cnt ds) F (news_sub N (n2 := (l0, PySem.W.listOf #[] 0) :: base) (fun p hp => List.mem_cons_of_mem _ hp)) ⟨cnt0, t0, [], [], l0, 0, rfl, rfl, IntsAre.nil, hc, hd, fun _ _ _ => rfl, hp⟩ ?_ hE
  rintro k m₁ nx h tk F₁ N₁ ⟨cnt, t, ds, vals, l, cap, rfl, rfl, hI, h1, h2, h3, hp'⟩
  have em : (fun z => if z = Str.ofString "count" then some (.int cnt t) else if z = Str.ofString "digits" then some (.ref l) else m₀ z) = m₁ := by
    funext z
    by_cases hz : z = Str.ofString "count"
    · rw [if_pos hz, hz, h1]
    · rw [if_neg hz]
      by_cases hz2 : z = Str.ofString "digits"
      · rw [if_pos hz2, hz2, h2]
      · rw [if_neg hz2, h3 z hz hz2]
  refine wpAny_mono (turn cnt t ds vals l cap h tk hI hp' (by rw [em]; exact F₁) N₁) (fun b s₂ q => ?_) fun _ _ x => x
  cases b with
  | false => simpa using q
  | true =>
    simp only [if_true] at q ⊢
    refine wpAny_mono q (fun f s₃ q => ?_) fun _ _ x => x
    cases f with
    | ret v => exact q
    | brk => exact q
    | next =>
      obtain ⟨cnt', t', ds', vals', l', cap', h', tk', m', news', rfl, F', N', hl, hb, hI', a1, a2, a3, a4, a5⟩ := q
      exact ⟨h', tk', m', (l', PySem.W.listOf vals'.toArray cap') :: base, cnt'.toNat, rfl, F', news_sub N' (by intro p hp; rcases List.mem_cons.mp hp with rfl | hp; exact hl; exact hb p hp), a5, cnt', t', ds', vals', l', cap', rfl, rfl, hI', a1, a2, a3, a4⟩
    | cont =>
      obtain ⟨cnt', t', ds', vals', l', cap', h', tk', m', news', rfl, F', N', hl, hb, hI', a1, a2, a3, a4, a5⟩ := q
      exact ⟨h', tk', m', (l', PySem.W.listOf vals'.toArray cap') :: base, cnt'.toNat, rfl, F', news_sub N' (by intro p hp; rcases List.mem_cons.mp hp with rfl | hp; exact hl; exact hb p hp), a5, cnt', t', ds', vals', l', cap', rfl, rfl, hI', a1, a2, a3, a4⟩

abbrev tup2O (u v : Int) (t1 t2 : Tok) (c : Nat) : Obj := tupO [.int u t1, .int v t2] c
def ForEnd (h₀ : Heap) (L : Addr) (s : Shared) (l : Addr) (vs : List Value) (nn : Nat) (base own : Led) (m₀ : Str → Option Value) (R : List Int → Int → Int → Int → Int → Prop) (pre : List Int) (s₂ : Shared) : Prop :=
  ∃ (DL DH : Addr) (u v u' v' : Int) (t1 t2 t3 t4 : Tok) (c1 c2 : Nat) (h' : Heap) (tk : Nat) (m' : Str → Option Value) (news' : Led), s₂ = { s with heap := h', toks := tk } ∧ Fr h₀ L h' m' ∧ News h₀ L h' news' ∧ (DL, tup2O u v t1 t2 c1) ∈ news' ∧ (DH, tup2O u' v' t3 t4 c2) ∈ news' ∧ (∀ p ∈ own, p ∈ news') ∧ (l, PySem.W.listOf vs.toArray nn) ∈ news' ∧ (∀ p ∈ base, p ∈ news') ∧
    (∀ p ∈ own, p.1 < DL) ∧ (∀ p ∈ own, p.1 < DH) ∧ m' (Str.ofString "low") = some (.ref DL) ∧ m' (Str.ofString "high") = some (.ref DH) ∧ (∀ z, z ≠ Str.ofString "digit" → z ≠ Str.ofString "low" → z ≠ Str.ofString "high" → z ≠ Str.ofString "both" → m' z = m₀ z) ∧ R pre u v u' v'
def ForPost (h₀ : Heap) (L : Addr) (s : Shared) (l : Addr) (vs : List Value) (nn : Nat) (base own : Led) (m₀ : Str → Option Value) (R : List Int → Int → Int → Int → Int → Prop) (pre : List Int) (Q : Flow → Shared → Prop) (f : Flow) (s₂ : Shared) : Prop :=
  match f with
  | .ret v => Q (.ret v) s₂
  | .brk => Q .next s₂
  | _ => ForEnd h₀ L s l vs nn base own m₀ R pre s₂
theorem lad_map {m m₀ : Str → Option Value} {x : Str} {vx : Value} {DL DH : Addr} (h1 : m (Str.ofString "low") = some (.ref DL)) (h2 : m (Str.ofString "high") = some (.ref DH))
    (h3 : ∀ z, z ≠ x → z ≠ Str.ofString "low" → z ≠ Str.ofString "high" → z ≠ Str.ofString "both" → m z = m₀ z) :
    (fun y => if y = x then some vx else m y) = fun z => if z = x then some vx else if z = Str.ofString "low" then some (.ref DL) else if z = Str.ofString "high" then some (.ref DH) else if z = Str.ofString "both" then m z else m₀ z := by
  funext z
  by_cases hx : z = x
  · rw [if_pos hx, if_pos hx]
  · rw [if_neg hx, if_neg hx]
    by_cases ha : z = Str.ofString "low"
    · rw [if_pos ha, ha, h1]
    · rw [if_neg ha]
      by_cases hb : z = Str.ofString "high"
      · rw [if_pos hb, hb, h2]
      · rw [if_neg hb]
        by_cases hc : z = Str.ofString "both"
        · rw [if_pos hc]
        · rw [if_neg hc, h3 z hx ha hb hc]
set_option maxHeartbeats 4000000 in
theorem lad_for {body : List Stmt} {l : Addr} {vs : List Value} {ds : List Int} {nn : Nat} {m₀ : Str → Option Value} {news base : Led} {DL DH : Addr} {u v u' v' : Int} {t1 t2 t3 t4 : Tok} {c1 c2 : Nat} (R : List Int → Int → Int → Int → Int → Prop)
    (hh : A.handled = none) (hi : IntsAre vs ds) (F : Fr h₀ env.locals s.heap m₀) (N : News h₀ env.locals s.heap news) (hl : (l, PySem.W.listOf vs.toArray nn) ∈ news)
    (hlo : m₀ (Str.ofString "low") = some (.ref DL)) (hhi : m₀ (Str.ofString "high") = some (.ref DH)) (hL : (DL, tup2O u v t1 t2 c1) ∈ news) (hH : (DH, tup2O u' v' t3 t4 c2) ∈ news) (hb : ∀ p ∈ base, p ∈ news) (hR : R [] u v u' v')
    (turn : ∀ pre post d t u v u' v' DL DH t1 t2 t3 t4 c1 c2 (ub : Str → Option Value) h tk own, ds = pre ++ d :: post → d ∈ ds → R pre u v u' v' →
      Fr h₀ env.locals h (fun z => if z = Str.ofString "digit" then some (.int d t) else if z = Str.ofString "low" then some (.ref DL) else if z = Str.ofString "high" then some (.ref DH) else if z = Str.ofString "both" then ub z else m₀ z) →
      News h₀ env.locals h ((DL, tup2O u v t1 t2 c1) :: (DH, tup2O u' v' t3 t4 c2) :: (l, PySem.W.listOf vs.toArray nn) :: (base ++ own)) →
      wpAny (model prog w) A (execs body env) (ForPost h₀ env.locals { s with heap := h, toks := tk } l vs nn base own m₀ R (pre ++ [d]) Q) E { s with heap := h, toks := tk })
    (done : ∀ u v u' v' DL DH t1 t2 t3 t4 c1 c2 (ub : Str → Option Value) h tk, R ds u v u' v' →
      Fr h₀ env.locals h (fun z => if z = Str.ofString "digit" then ub z else if z = Str.ofString "low" then some (.ref DL) else if z = Str.ofString "high" then some (.ref DH) else if z = Str.ofString "both" then ub z else m₀ z) →
      News h₀ env.locals h ((DL, tup2O u v t1 t2 c1) :: (DH, tup2O u' v' t3 t4 c2) :: base) → Q .next { s with heap := h, toks := tk }) :
    wpAny (model prog w) A (pyIter (.ref l)) (fun it s₂ => LoopAtV prog w A h₀ env (Str.ofString "digit") body Q E it s₂) E s := by
  have hlen : vs.length = ds.length := hi.length
  refine kdl_iter (fun i m nx => ∃ (DL DH : Addr) (u v u' v' : Int) (t1 t2 t3 t4 : Tok) (c1 c2 : Nat), (DL, tup2O u v t1 t2 c1) ∈ nx ∧ (DH, tup2O u' v' t3 t4 c2) ∈ nx ∧ (∀ p ∈ base, p ∈ nx) ∧ m (Str.ofString "low") = some (.ref DL) ∧ m (Str.ofString "high") = some (.ref DH) ∧ (∀ z, z ≠ Str.ofString "digit" → z ≠ Str.ofString "low" → z ≠ Str.ofString "high" → z ≠ Str.ofString "both" → m z = m₀ z) ∧ R (ds.take i) u v u' v') hh hl F N ⟨DL, DH, u, v, u', v', t1, t2, t3, t4, c1, c2, hL, hH, hb, hlo, hhi, fun _ _ _ _ _ => rfl, by simpa using hR⟩ ?_ ?_
  · rintro i vd m₁ nx h tk own hget hoff hl₁ ⟨DL, DH, u, v, u', v', t1, t2, t3, t4, c1, c2, a1, a2, a3, a4, a5, a6, a7⟩ F₁ N₁
    have hlt : i < ds.length := by
      rcases Nat.lt_or_ge i vs.length with q | q
      · omega
      · rw [List.getElem?_eq_none q] at hget; cases hget
    obtain ⟨t, hx⟩ := hi.get i ds[i] (List.getElem?_eq_getElem hlt)
    have hv : vd = .int ds[i] t := by rw [hx] at hget; exact (Option.some.inj hget).symm
    subst hv
    have hn : ds[i]? = some ds[i] := List.getElem?_eq_getElem hlt
    have hs : ds.take (i + 1) = ds.take i ++ [ds[i]] := by rw [List.take_add_one, hn]; rfl
    have e : ds = ds.take i ++ ds[i] :: ds.drop (i + 1) := by
      have ht := List.take_append_drop (i + 1) ds
      rw [hs, List.append_assoc] at ht
      exact ht.symm
    rw [lad_map a4 a5 a6] at F₁
    refine wpAny_mono (turn _ _ ds[i] t u v u' v' DL DH t1 t2 t3 t4 c1 c2 m₁ h tk own e (List.getElem_mem hlt) a7 F₁ (news_sub N₁ ?_)) (fun f s₂ q => ?_) fun _ _ x => x
    · intro p hp
      rcases List.mem_cons.mp hp with rfl | hp
      · exact List.mem_append.mpr (.inl a1)
      rcases List.mem_cons.mp hp with rfl | hp
      · exact List.mem_append.mpr (.inl a2)
      rcases List.mem_cons.mp hp with rfl | hp
      · exact List.mem_append.mpr (.inl hl₁)
      rcases List.mem_append.mp hp with hp | hp
      · exact List.mem_append.mpr (.inl (a3 p hp))
      · exact List.mem_append.mpr (.inr hp)
    have fin : ForEnd h₀ env.locals { s with heap := h, toks := tk } l vs nn base own m₀ R (ds.take i ++ [ds[i]]) s₂ → InvEndG h₀ env.locals (fun m' nx => (l, PySem.W.listOf vs.toArray nn) ∈ nx ∧ ∃ (DL DH : Addr) (u v u' v' : Int) (t1 t2 t3 t4 : Tok) (c1 c2 : Nat), (DL, tup2O u v t1 t2 c1) ∈ nx ∧ (DH, tup2O u' v' t3 t4 c2) ∈ nx ∧ (∀ p ∈ base, p ∈ nx) ∧ m' (Str.ofString "low") = some (.ref DL) ∧ m' (Str.ofString "high") = some (.ref DH) ∧ (∀ z, z ≠ Str.ofString "digit" → z ≠ Str.ofString "low" → z ≠ Str.ofString "high" → z ≠ Str.ofString "both" → m' z = m₀ z) ∧ R (ds.take (i + 1)) u v u' v') own { s with heap := h, toks := tk } s₂ := by
      rintro ⟨DL', DH', w1, w2, w3, w4, t1', t2', t3', t4', d1, d2, h', tk', m', news', rfl, F', N', b1, b2, b3, b4, b5, b6, b7, b8, b9, b10, b11⟩
      refine ⟨h', tk', m', news', (DL', tup2O w1 w2 t1' t2' d1) :: (DH', tup2O w3 w4 t3' t4' d2) :: (l, PySem.W.listOf vs.toArray nn) :: base, rfl, F', N', ?_, b3, ?_, ?_, DL', DH', w1, w2, w3, w4, t1', t2', t3', t4', d1, d2, List.mem_cons_self, List.mem_cons_of_mem _ List.mem_cons_self, ?_, b8, b9, b10, by rw [hs]; exact b11⟩
      · intro p hp
        rcases List.mem_cons.mp hp with rfl | hp
        · exact b1
        rcases List.mem_cons.mp hp with rfl | hp
        · exact b2
        rcases List.mem_cons.mp hp with rfl | hp
        · exact b4
        · exact b5 p hp
      · intro p hp b hb'
        obtain ⟨q, hq, rfl⟩ := List.mem_map.mp hb'
        rcases List.mem_cons.mp hq with rfl | hq
        · exact Nat.ne_of_lt (b6 p hp)
        rcases List.mem_cons.mp hq with rfl | hq
        · exact Nat.ne_of_lt (b7 p hp)
        rcases List.mem_cons.mp hq with rfl | hq
        · exact hoff p hp _ (List.mem_map.mpr ⟨_, hl₁, rfl⟩)
        · exact hoff p hp _ (List.mem_map.mpr ⟨_, a3 q hq, rfl⟩)
      · exact List.mem_cons_of_mem _ (List.mem_cons_of_mem _ List.mem_cons_self)
      · intro p hp
        exact List.mem_cons_of_mem _ (List.mem_cons_of_mem _ (List.mem_cons_of_mem _ hp))
    cases f with
    | ret v => exact q
    | brk => exact q
    | next => exact fin q
    | cont => exact fin q
  · rintro m₁ nx h tk ⟨DL, DH, u, v, u', v', t1, t2, t3, t4, c1, c2, a1, a2, a3, a4, a5, a6, a7⟩ F₁ N₁
    rw [hlen, List.take_length] at a7
    refine done u v u' v' DL DH t1 t2 t3 t4 c1 c2 m₁ h tk a7 ?_ (news_sub N₁ ?_)
    · have em : (fun z => if z = Str.ofString "digit" then m₁ z else if z = Str.ofString "low" then some (.ref DL) else if z = Str.ofString "high" then some (.ref DH) else if z = Str.ofString "both" then m₁ z else m₀ z) = m₁ := by
        funext z
        by_cases hx : z = Str.ofString "digit"
        · rw [if_pos hx]
        · rw [if_neg hx]
          by_cases ha : z = Str.ofString "low"
          · rw [if_pos ha, ha, a4]
          · rw [if_neg ha]
            by_cases hb : z = Str.ofString "high"
            · rw [if_pos hb, hb, a5]
            · rw [if_neg hb]
              by_cases hc : z = Str.ofString "both"
              · rw [if_pos hc]
              · rw [if_neg hc, a6 z hx ha hb hc]
      rw [em]; exact F₁
    · intro p hp
      rcases List.mem_cons.mp hp with rfl | hp
      · exact a1
      rcases List.mem_cons.mp hp with rfl | hp
      · exact a2
      · exact a3 p hp
end
section
variable {Q : Flow → Shared → Prop} {s : Shared} {h₀ : Heap} {L : Addr}
theorem lad_end {base news' : Led} {m₀ m' : Str → Option Value} {P : Int → List Int → Prop} {cnt cnt' : Int} {t' : Tok} {ds' : List Int} {vals' : List Value} {l' : Addr} {cap' : Nat} {h' : Heap} {tk : Nat}
    (F : Fr h₀ L h' m') (N : News h₀ L h' news') (h1 : m' (Str.ofString "count") = some (.int cnt' t')) (h2 : m' (Str.ofString "digits") = some (.ref l')) (hl : (l', PySem.W.listOf vals'.toArray cap') ∈ news') (hb : ∀ p ∈ base, p ∈ news') (hI : IntsAre vals' ds')
    (hz : ∀ z, z ≠ Str.ofString "count" → z ≠ Str.ofString "digits" → m' z = m₀ z) (hp : P cnt' ds') (hm : cnt'.toNat < cnt.toNat) : LadEnd h₀ L s base m₀ P cnt { s with heap := h', toks := tk } :=
  ⟨cnt', t', ds', vals', l', cap', h', tk, m', news', rfl, F, N, hl, hb, hI, h1, h2, hz, hp, hm⟩
theorem for_end {l : Addr} {vs : List Value} {nn : Nat} {base own news' : Led} {m₀ m' : Str → Option Value} {R : List Int → Int → Int → Int → Int → Prop} {pre : List Int} {DL DH : Addr} {u v u' v' : Int} {t1 t2 t3 t4 : Tok} {c1 c2 : Nat} {h' : Heap} {tk : Nat}
    (F : Fr h₀ L h' m') (N : News h₀ L h' news') (h1 : m' (Str.ofString "low") = some (.ref DL)) (h2 : m' (Str.ofString "high") = some (.ref DH)) (hL : (DL, tup2O u v t1 t2 c1) ∈ news') (hH : (DH, tup2O u' v' t3 t4 c2) ∈ news') (ho : ∀ p ∈ own, p ∈ news') (hl : (l, PySem.W.listOf vs.toArray nn) ∈ news') (hb : ∀ p ∈ base, p ∈ news')
    (a1 : ∀ p ∈ own, p.1 < DL) (a2 : ∀ p ∈ own, p.1 < DH) (hz : ∀ z, z ≠ Str.ofString "digit" → z ≠ Str.ofString "low" → z ≠ Str.ofString "high" → z ≠ Str.ofString "both" → m' z = m₀ z) (hR : R pre u v u' v') :
    ForEnd h₀ L s l vs nn base own m₀ R pre { s with heap := h', toks := tk } :=
  ⟨DL, DH, u, v, u', v', t1, t2, t3, t4, c1, c2, h', tk, m', news', rfl, F, N, hL, hH, ho, hl, hb, a1, a2, h1, h2, hz, hR⟩
theorem own_lt {D : Addr} {base own : Led} (h : AllLt D (base ++ own)) : ∀ p ∈ own, p.1 < D := fun p hp => ktn_ltOf h p (List.mem_append.mpr (.inr hp))
end
section
variable {prog : Program} {w : World} {A : Around} {E : Value → Shared → Prop} {Q : Flow → Shared → Prop} {s : Shared} {h₀ : Heap} {name : Str} {scope : Scope} {L a : Addr} {cd : Value}
theorem lad_forS {body : List Stmt} {px pn pos : Pos} {l : Addr} {vs : List Value} {ds : List Int} {nn : Nat} {m₀ : Str → Option Value} {news base : Led} {DL DH : Addr} {u v u' v' : Int} {t1 t2 t3 t4 : Tok} {c1 c2 : Nat} (R : List Int → Int → Int → Int → Int → Prop)
    (F : Fr h₀ L s.heap m₀) (N : News h₀ L s.heap news) (hh : A.handled = none) (hi : IntsAre vs ds) (hd : m₀ (Str.ofString "digits") = some (.ref l)) (hlo : m₀ (Str.ofString "low") = some (.ref DL)) (hhi : m₀ (Str.ofString "high") = some (.ref DH))
    (hl : (l, PySem.W.listOf vs.toArray nn) ∈ news) (hL : (DL, tup2O u v t1 t2 c1) ∈ news) (hH : (DH, tup2O u' v' t3 t4 c2) ∈ news) (hb : ∀ p ∈ base, p ∈ news) (hR : R [] u v u' v')
    (turn : ∀ pre post d t u v u' v' DL DH t1 t2 t3 t4 c1 c2 (ub : Str → Option Value) h tk own, ds = pre ++ d :: post → d ∈ ds → R pre u v u' v' →
      Fr h₀ L h (fun z => if z = Str.ofString "digit" then some (.int d t) else if z = Str.ofString "low" then some (.ref DL) else if z = Str.ofString "high" then some (.ref DH) else if z = Str.ofString "both" then ub z else m₀ z) →
      News h₀ L h ((DL, tup2O u v t1 t2 c1) :: (DH, tup2O u' v' t3 t4 c2) :: (l, PySem.W.listOf vs.toArray nn) :: (base ++ own)) →
      wpAny (model prog w) A (execs body (envOf name scope L a cd)) (ForPost h₀ L { s with heap := h, toks := tk } l vs nn base own m₀ R (pre ++ [d]) Q) E { s with heap := h, toks := tk })
    (done : ∀ u v u' v' DL DH t1 t2 t3 t4 c1 c2 (ub : Str → Option Value) h tk, R ds u v u' v' →
      Fr h₀ L h (fun z => if z = Str.ofString "digit" then ub z else if z = Str.ofString "low" then some (.ref DL) else if z = Str.ofString "high" then some (.ref DH) else if z = Str.ofString "both" then ub z else m₀ z) →
      News h₀ L h ((DL, tup2O u v t1 t2 c1) :: (DH, tup2O u' v' t3 t4 c2) :: base) → Q .next { s with heap := h, toks := tk })
    (hk : scope.kind = .function := by rfl) (hkd : (envOf name scope L a cd).kindOf (Str.ofString "digits") = some .local := by rfl) (hkx : (envOf name scope L a cd).kindOf (Str.ofString "digit") = some .local := by rfl)
    (hE : PassesOwn (model prog w) A (envOf name scope L a cd) E := by passes_own) :
    wpAny (model prog w) A (exec (.For (.Name (Str.ofString "digit") px) (.Name (Str.ofString "digits") pn) body [] pos) (envOf name scope L a cd)) Q E s := by
  refine For_invV h₀ hkx ?_ ?_ (by intro _; rfl) hE
  · show (scope.kind == .class || (scope.kind == .module && L != mainGlobals)) = false
    rw [hk]; rfl
  · refine ld F hd ?_ hk hkd (by decide)
    exact lad_for (env := envOf name scope L a cd) R hh hi F N hl hlo hhi hL hH hb hR turn done
end

end
local macro_rules | `(tactic| walk_at "LadPost") => `(tactic| (dsimp only [LadPost]))
local macro_rules | `(tactic| walk_at "ForPost") => `(tactic| (dsimp only [ForPost]))
section
set_option maxHeartbeats 2000000 in
theorem int_mul_declines {prog : Program} {w : World} {A : Around} {E : Value → Shared → Prop} {s : Shared} {a : Int} {t : Tok} {x : Addr} {ox : Obj} {Q : Option Value → Shared → Prop} (hx : s.heap.get? x = some ox) (hd : ox.data = .plain) (h : Q none s) :
    wpAny (model prog w) A (tryMethod (.int a t) (PySem.dunder "mul") (.ref x)) Q E s := by
  with_reducible refine wpAny_tryMethod_declines (typeIs_int s a t) slot_int_mul ?_
  refine wpAny_call_entry slot_int_mul (typeIs_int s a t) entry_int_mul ?_ (args_int_mul _ _)
  show wpAny _ _ (asInt? (.ref x) >>= _) _ _ s
  refine wpAny_bind ?_
  show wpAny _ _ (do match (← load x).data with | .prim (.int i _) => pure (some i) | _ => pure none) _ _ s
  refine wpAny_bind (wpAny_load hx ?_)
  rw [hd]
  refine wpAny_pure ?_
  refine wpAny_bind (wpAny_rule ?_)
  exact wpAny_pure ⟨_, rfl, rfl, h⟩
section
variable {prog : Program} {w : World} {A : Around} {E : Value → Shared → Prop} {s : Shared} {K : Frag} {x C L f : Addr} {h₀ : Heap} {m : Str → Option Value} {ox : Obj} {od : Option Obj} {f' : Addr}
set_option maxHeartbeats 2000000 in
theorem rmul_K {a : Int} {t : Tok} {Q : Value → Shared → Prop} (F : Fr h₀ L s.heap m) (X₀ : K.In h₀) (I : InstAt s.heap x ox C od) (hd : ox.data = .plain) (hc : selfFirst K C = true)
    (hs : findIn K (.ref C) (PySem.dunder "mul") = some (some (.ref f'))) (hr : findIn K (.ref C) (dunderR "mul") = some (some (.ref f))) (hf : isFn K (.ref f) = true) (hsub : subIn K (.ref C) (.type "int") = some false)
    (h : wpAny (model prog w) A (call (.ref f) [.ref x, .int a t]) (W.CmpBack Q) E s) : wpAny (model prog w) A (binaryOp .Mult (.int a t) (.ref x)) Q E s := by
  have X := X₀.keeps F.keep
  obtain ⟨cd, rest, hcd, hm⟩ := ksp_first hc
  have one := ksp_try X I hr hf h
  obtain ⟨hh, g, d, tt, os⟩ := s
  have L1 : Looks (model prog w) hh (typeOf (.ref x)) (.ref C) := I.type
  have L2 : Looks (model prog w) hh (typeOf (.int a t)) (.type "int") := Looks.of_pure rfl
  have L3 : Looks (model prog w) hh (fillsNumberSlot (.ref C) "mul") true := fills_K X hcd hm hs
  have L5 : Looks (model prog w) hh (isSubtype (.ref C) (.type "int")) false := looks_subIn X hsub
  have hpy : numberSlotInPython (.type "int") "mul" = pure false := rfl
  have hne : (Value.type "int" == Value.ref C) = false := Bool.eq_false_iff.mpr fun q => by cases beq_iff_eq.mp q
  show wpAny _ _ (holding [.int a t, .ref x] _) _ _ _
  refine wpAny_holding (wpAny_bind ?_)
  show wpAny _ _ (binaryOp1 "mul" (.int a t) (.ref x)) _ _ _
  unfold binaryOp1
  refine wpAny_bind (L2.at (wpAny_bind (L1.at (wpAny_bind (wpAny_of_eq fills_int_mul ?_)))))
  simp only [hne, Bool.false_eq_true, if_false]
  refine wpAny_bind (L3.at ?_)
  simp only [Bool.and_self, if_true]
  refine wpAny_bind (L5.at ?_)
  simp only [Bool.false_eq_true, if_false, pure_bind, Bool.not_false, Bool.and_self, if_true, hpy]
  refine wpAny_bind (int_mul_declines I.at_ hd ?_)
  refine wpAny_bind ?_
  refine wpAny_mono one (fun r s' hr' => ?_) fun _ _ e => e
  obtain ⟨v, rfl, hq⟩ := hr'
  refine wpAny_bind (wpAny_rule ?_)
  exact wpAny_pure (wpAny_pure hq)
end

abbrev fqDict (P : Params) (p v : Int) (t1 t2 t3 t4 : Tok) (k : Nat) : Obj := PySem.W.dictOf [⟨PyData.keyHash P (Str.ofString "field_modulus"), .str (Str.ofString "field_modulus") t1, .int p t2⟩, ⟨PyData.keyHash P (Str.ofString "n"), .str (Str.ofString "n") t3, .int v t4⟩] k
def OFq (C : Addr) (P : Params) (p : Int) (V : Int → Prop) (r : Value) (tl : Led) : Prop := ∃ x d v t1 t2 t3 t4 k, r = .ref x ∧ tl = [(x, PySem.W.instObj C d), (d, fqDict P p v t1 t2 t3 t4 k)] ∧ V v
theorem end_fq {C : Addr} {P : Params} {p : Int} {h₀ : Heap} {L : Addr} {m : Str → Option Value} {s : Shared} {Q : Value → Shared → Prop} {news : Led} {V : Int → Prop} (hret : ∀ r tl h' tk', Fr h₀ L h' m → News h₀ L h' (tl ++ news) → OFq C P p V r tl → Q r { s with heap := h', toks := tk' })
    {x d : Addr} {t1 t2 t3 t4 : Tok} {k : Nat} {v : Int} {h' : Heap} {tk' : Nat} {n1 : Led} (F : Fr h₀ L h' m) (N : News h₀ L h' n1) (hx : (x, PySem.W.instObj C d) ∈ n1) (hd : (d, fqDict P p v t1 t2 t3 t4 k) ∈ n1) (hs : ∀ p ∈ news, p ∈ n1) (hP : V v) : Q (.ref x) { s with heap := h', toks := tk' } :=
  hret _ [(x, PySem.W.instObj C d), (d, fqDict P p v t1 t2 t3 t4 k)] _ _ F (news_sub N (by
    intro p hp
    rcases List.mem_cons.mp hp with rfl | hp
    · exact hx
    rcases List.mem_cons.mp hp with rfl | hp
    · exact hd
    · exact hs p hp)) ⟨x, d, v, t1, t2, t3, t4, k, rfl, rfl, hP⟩
def OBool (b : Bool) (r : Value) (tl : Led) : Prop := tl = [] ∧ r = .bool b
theorem end_bool {h₀ : Heap} {L : Addr} {m : Str → Option Value} {s : Shared} {Q : Value → Shared → Prop} {news : Led} {b : Bool} (hret : ∀ r tl h' tk', Fr h₀ L h' m → News h₀ L h' (tl ++ news) → OBool b r tl → Q r { s with heap := h', toks := tk' })
    {c : Bool} {h' : Heap} {tk' : Nat} {n1 : Led} (F : Fr h₀ L h' m) (N : News h₀ L h' n1) (hs : ∀ p ∈ news, p ∈ n1) (hP : c = b) : Q (.bool c) { s with heap := h', toks := tk' } :=
  hret _ [] _ _ F (news_sub N hs) ⟨rfl, by rw [hP]⟩
theorem fmod_fmod {x p : Int} (h : 0 < p) : (x.fmod p).fmod p = x.fmod p := by
  have q := fmod_rng (x := x) h
  rw [fmod_e (x := x.fmod p) h]; exact emod_small q.1 q.2

end
local macro_rules | `(tactic| cell_end $hret:term $q:term $s:term) => `(tactic| first
  | (refine' end_fq (Q := $q) (s := $s) $hret ?yf ?yn ?yx ?yd ?ys ?yp; (case yf => k_asm); (case yn => k_asm); (case yx => k_mem); (case yd => k_mem); (case ys => kcj_all))
  | (refine' end_bool (Q := $q) (s := $s) $hret ?yf ?yn ?ys ?yp; (case yf => k_asm); (case yn => k_asm); (case ys => kcj_all)))
local macro_rules | `(tactic| walk_at "binaryOp Mult int ref") => `(tactic| (k_here; (with_reducible show wpAny _ _ (binaryOp Operator.Mult (Value.int _ _) (Value.ref _)) _ _ _); k_dflt (refine' rmul_K ?F ?X ?I ?hd ?hC ?hS ?hR ?hF ?hU ?_; (case F => k_asm); (case X => k_asm); (case I => k_inst); (case hd => exact rfl); (case hC => k_is); (case hS => k_is); (case hR => k_is); (case hF => k_is); (case hU => k_is); k_whole)))
local macro_rules | `(tactic| walk_at "binaryOp Div ref ref") => `(tactic| (k_here; (with_reducible show wpAny _ _ (binaryOp _ (Value.ref _) (Value.ref _)) _ _ _); k_dflt (refine' binop_K ?k1 ?k2 ?k3 ?k4 ?k5 ?k6 ?k7 ?_; (case k1 => k_asm); (case k2 => k_asm); (case k3 => k_inst); (case k4 => k_typeOf); (case k5 => k_is); (case k6 => k_is); (case k7 => k_is); k_whole)))
section
theorem gcd_fmod {a n : Int} (hn : 0 < n) (hg : Int.gcd a n = 1) : Int.gcd (a.fmod n) n = 1 := by
  rw [Int.fmod_eq_emod_of_nonneg a (by omega), gcd_emod']; exact hg
theorem fmod_ne0 {a n : Int} (hn : 2 ≤ n) (hg : Int.gcd a n = 1) : a.fmod n ≠ 0 := by
  intro e
  have := gcd_fmod (by omega) hg
  rw [e, Int.gcd_zero_left] at this; omega
theorem mul_fmod_one {a v n : Int} (hn : 2 ≤ n) (h : (a.fmod n * v) % n = 1) : (a * v) % n = 1 := by
  rw [Int.fmod_eq_emod_of_nonneg a (by omega), Int.mul_emod, Int.emod_emod_of_dvd _ (Int.dvd_refl n), ← Int.mul_emod] at h
  exact h
local macro_rules | `(tactic| mul_fits) => `(tactic| ((with_reducible show IntMulOk _ (Int.fdiv _ _)); exact PySem.IntMulOk.of_right (PySem.intBits_le_64 (fdiv_small (by omega) (by omega)).1 (Int.lt_of_le_of_lt (fdiv_small (by omega) (by omega)).2 (by omega)))))
set_option maxHeartbeats 8000000 in
theorem pfi_c {w : World} {mean : ExcName → Option Value} {mg mb : Str → Option Value} {news : Led} {a n : Int} {ta tn : Tok} (hn : 2 ≤ n) (hn2 : n < 128) (hg : Int.gcd a n = 1) :
    Con w mean mg mb 112 1 news [.int a ta, .int n tn] (OInt fun v => 0 ≤ v ∧ v < n ∧ (a * v) % n = 1) := by
  have hg' := gcd_fmod (by omega) hg
  have h0 := fmod_ne0 hn hg
  unfold Con
  k_fill
  intro dp un gd cn cs a' ccd cl outer A₀ base h₀ L m s Q E B F X N T hk hd hu hret
  refine wpAny_call ?_
  k_dflt ktr_enter
  k_with "exec While Compare cons nil" => k_while (fun (_ : List Int) lm low hm high => 0 ≤ low ∧ low < high ∧ high < 128 ∧ EInv (a.fmod n) n lm low hm high) (fun (_ : List Int) lm low hm high => low.toNat) "lm" "low" "hm" "high"
  k_with "measure" => exact emeas (by assumption) (by first | assumption | simp_all)
  k_with "state" => first | exact einv_start (by assumption) (by assumption) (by assumption) | exact einv_step (by assumption) (by assumption) (by assumption) (by first | assumption | simp_all) (by assumption)
  k_steps
  all_goals (first | (law_absurd; done) | cell_end hret Q s | w_report)
  obtain ⟨q1, q2, q3⟩ := einv_end (by assumption) (by assumption) (by assumption) (by assumption)
  exact ⟨q1, q2, mul_fmod_one hn q3⟩

end
local macro_rules | `(tactic| walk_at "call ref") => `(tactic| (k_here; (with_reducible show wpAny _ _ (call (Value.ref 112) _) _ _ _); k_dflt (cell_ask (pfi_c (by assumption) (by assumption) (by assumption)); intro r9 tl9 h9 tk9 F9 N9 o9; obtain ⟨e1, v9, t9, e2, q1, q2, q3⟩ := o9; subst e1 e2; (try simp only [List.nil_append] at N9); (have hvB := bd7 q1 (by omega)); (try dsimp only); (try k_fold))))
section
def ConS (w : World) (mean : ExcName → Option Value) (mg mb : Str → Option Value) (f : Addr) (sz : Nat) (news : Led) (l : Addr) (vs : List Value) (Out : Value → Led → Prop) : Prop :=
  ∀ (items : List Value) (ns : List Int) (dp un : Nat) (gd : Option (List Code)) (cn : Str) (cs : Scope) (a : Addr) (ccd : Value) (cl : List (Str × Addr)) (outer : List Env) (A₀ : Around) (base h₀ : Heap) (L : Addr) (m : Str → Option Value) (s : Shared) (Q E : Value → Shared → Prop),
    h₀.IsList l items.toArray → IntsAre items ns → ns.length ≤ 63 →
    Below A₀ base outer h₀ → Fr h₀ L s.heap m → (hd.heap_39 w.params).In h₀ → News h₀ L s.heap news →
    Top hd.view_39 (looseW hd.view_39 [Str.ofString "add_secp256k1", Str.ofString "double_bn128_curve", Str.ofString "add_bn128_curve", Str.ofString "neg_bn128_curve", Str.ofString "FQ", Str.ofString "FQ_field_elements", Str.ofString "FQ_optimized_field_elements", Str.ofString "double_optimized_curve", Str.ofString "add_optimized_curve", Str.ofString "neg_optimized_curve"]) mean mg mb h₀ →
    cs.kind = .function → dp + sz < recursionLimit → un + 8 * sz < cLine →
    (∀ r tl h' tk', Fr h₀ L h' m → News h₀ L h' (tl ++ news) → Out r tl → Q r { s with heap := h', toks := tk' }) →
    wpAny (model PySem.Challenge.rw_bw0040_01.row.prog w) (ktrTop dp un gd cn cs L a ccd cl outer) (call (.ref f) vs) Q E s
theorem at_mod (v : Int) : -1000000000 < v.fmod 1000003 ∧ v.fmod 1000003 < 1000000000 := by
  rw [Int.fmod_eq_emod_of_nonneg v (by omega)]; omega
set_option maxHeartbeats 8000000 in
theorem at_c {w : World} {mean : ExcName → Option Value} {mg mb : Str → Option Value} {news : Led} {l : Addr} {k : Int} {t : Tok} (h0 : 0 ≤ k) (h1 : k ≤ 100) :
    ConS w mean mg mb 463 2 news l [.ref l, .int k t] (OInt fun v => -1000000000 < v ∧ v < 1000000000) := by
  have hkB : Bd 7 k := bd7 h0 (by omega)
  unfold ConS
  k_fill
  intro items ns dp un gd cn cs a' ccd cl outer A₀ base h₀ L m' s Q E hL hI hlen B F XX N T hk hd hu hret
  refine wpAny_call ?_
  k_dflt ktr_enter
  have hL' := Fr.lst (m := m') (L := L) (h₀ := h₀) (by assumption) hL
  k_steps
  all_goals (first | (law_absurd; done) | cell_end hret Q s | w_report)
  all_goals first | (constructor <;> omega) | exact at_mod _

end
section
local macro_rules | `(tactic| mul_fits) => `(tactic| ((with_reducible show IntMulOk _ (Int.fdiv _ _)); exact PySem.IntMulOk.of_right (PySem.intBits_le_64 (fdiv_small (by omega) (by omega)).1 (Int.lt_of_le_of_lt (fdiv_small (by omega) (by omega)).2 (by omega)))))
set_option maxHeartbeats 8000000 in
theorem inv_c {w : World} {mean mg mb : _} {news : Led} {a n : Int} {ta tn : Tok} (hn : 2 ≤ n) (hn2 : n < 128) (hg : Int.gcd a n = 1) (h0 : a ≠ 0) :
    Con w mean mg mb 28 1 news [.int a ta, .int n tn] (OInt fun v => 0 ≤ v ∧ v < n ∧ (a * v) % n = 1) := by
  unfold Con
  k_fill
  intro dp un gd cn cs a' ccd cl outer A₀ base h₀ L m s Q E B F X N T hk hd hu hret
  refine wpAny_call ?_
  k_dflt ktr_enter
  k_with "exec While Compare cons nil" => k_while (fun (_ : List Int) lm low hm high => 0 ≤ low ∧ low < high ∧ high < 128 ∧ EInv a n lm low hm high) (fun (_ : List Int) lm low hm high => low.toNat) "lm" "low" "hm" "high"
  k_with "state" => first | exact einv_start (by assumption) (by assumption) (by assumption) | exact einv_step (by assumption) (by assumption) (by assumption) (by first | assumption | simp_all) (by assumption)
  k_with "measure" => exact emeas (by assumption) (by first | assumption | simp_all)
  k_steps
  all_goals (first | (law_absurd; done) | cell_end hret Q s | w_report)
  obtain ⟨q1, q2, q3⟩ := einv_end (by assumption) (by assumption) (by assumption) (by assumption)
  exact ⟨q1, q2, q3⟩

end
local macro_rules | `(tactic| walk_at "call ref") => `(tactic| (k_here; (with_reducible show wpAny _ _ (call (Value.ref 28) _) _ _ _); k_dflt (cell_ask (inv_c (by assumption) (by assumption) (by assumption) (by assumption)); intro r9 tl9 h9 tk9 F9 N9 o9; obtain ⟨e1, v9, t9, e2, q1, q2, q3⟩ := o9; subst e1 e2; (try simp only [List.nil_append] at N9); (have hvB := bd7 q1 (by omega)); (try dsimp only); (try k_fold))))
section
set_option maxHeartbeats 8000000 in
theorem dbl_c {w : World} {mean mg mb : _} {news : Led} {P C : Addr} {i x y z p n a b gx gy : Int} {X Y : Int → Int} {u1 u2 u3 v1 v2 v3 v4 v5 v6 : Tok} {k1 k2 : Nat}
    (hP : (P, tupO [.int x u1, .int y u2, .int z u3] k1) ∈ news) (hC : (C, tupO [.int p v1, .int n v2, .int a v3, .int b v4, .int gx v5, .int gy v6] k2) ∈ news)
    (c : Crv p n a b gx gy X Y) (hi : 0 < i) (hi' : i < n) (r : Rep p X Y i x y z) :
    Con w mean mg mb 42 1 news [.ref P, .ref C] (OTup3 fun x' y' z' => Rep p X Y ((2 * i) % n) x' y' z') := by
  have fin := rep_dbl c hi hi' r
  have hy0 : y ≠ 0 := r.y_ne c hi hi'
  have hp0 : 0 < p := by have := c.p_lo; omega
  have hpB : Bd 7 p := by have := c.p_hi; exact bd7 (by omega) (by omega)
  have haB : Bd 7 a := by have := c.a_hi; have := c.a_lo; exact bd7 (by omega) (by omega)
  have hxB : Bd 7 x := by have := c.p_hi; have := r.1; exact bd7 (by omega) (by omega)
  have hyB : Bd 7 y := by have := c.p_hi; have := r.2.1; exact bd7 (by omega) (by omega)
  have hzB : Bd 7 z := by have := c.p_hi; have := r.2.2.1; exact bd7 (by omega) (by omega)
  clear c r hi hi'
  unfold Con
  k_fill
  intro dp un gd cn cs a' ccd cl outer A₀ base h₀ L m s Q E B F X N T hk hd hu hret
  refine wpAny_call ?_
  k_dflt ktr_enter
  k_steps
  all_goals (first | (law_absurd; done) | cell_end hret Q s | w_report)
  exact fin

end
local macro_rules | `(tactic| walk_at "call ref") => `(tactic| (k_here; (with_reducible show wpAny _ _ (call (Value.ref 42) _) _ _ _); k_dflt (cell_ask (dbl_c ?h1 ?h2 ?h3 ?h4 ?h5 ?h6); (case h1 => k_mem); (case h2 => k_mem); (case h3 => assumption); (case h6 => assumption); (case h4 => assumption); (case h5 => assumption); intro r9 tl9 h9 tk9 F9 N9 o9; obtain ⟨D9, t1, t2, t3, c9, x9, y9, z9, e1, e2, q1⟩ := o9; subst e1 e2; (try simp only [List.nil_append, List.cons_append] at N9); (try dsimp only); (try k_fold))))
section
set_option maxHeartbeats 8000000 in
theorem add_c {w : World} {mean mg mb : _} {news : Led} {P P' C : Addr} {i j x y z x' y' z' p n a b gx gy : Int} {X Y : Int → Int} {u1 u2 u3 w1 w2 w3 v1 v2 v3 v4 v5 v6 : Tok} {k1 k2 k3 : Nat}
    (hP : (P, tupO [.int x u1, .int y u2, .int z u3] k1) ∈ news) (hP' : (P', tupO [.int x' w1, .int y' w2, .int z' w3] k3) ∈ news) (hC : (C, tupO [.int p v1, .int n v2, .int a v3, .int b v4, .int gx v5, .int gy v6] k2) ∈ news)
    (c : Crv p n a b gx gy X Y) (hi : 0 < i) (hi' : i < n) (hj : 0 < j) (hj' : j < n) (hij : i ≠ j) (hn : i + j ≠ n) (r : Rep p X Y i x y z) (r' : Rep p X Y j x' y' z') :
    Con w mean mg mb 49 1 news [.ref P, .ref P', .ref C] (OTup3 fun x' y' z' => Rep p X Y ((i + j) % n) x' y' z') := by
  have hp0 : 0 < p := by have := c.p_lo; omega
  have hy0 : y ≠ 0 := r.y_ne c hi hi'
  have hy0' : y' ≠ 0 := r'.y_ne c hj hj'
  have hU : (x * z' ^ Int.toNat 2).fmod p ≠ (x' * z ^ Int.toNat 2).fmod p := fmod_ne hp0 (U_ne c hi hi' hj hj' hij hn r r')
  have hpB : Bd 7 p := by have := c.p_hi; exact bd7 (by omega) (by omega)
  have hxB : Bd 7 x := by have := c.p_hi; have := r.1; exact bd7 (by omega) (by omega)
  have hyB : Bd 7 y := by have := c.p_hi; have := r.2.1; exact bd7 (by omega) (by omega)
  have hzB : Bd 7 z := by have := c.p_hi; have := r.2.2.1; exact bd7 (by omega) (by omega)
  have hxB' : Bd 7 x' := by have := c.p_hi; have := r'.1; exact bd7 (by omega) (by omega)
  have hyB' : Bd 7 y' := by have := c.p_hi; have := r'.2.1; exact bd7 (by omega) (by omega)
  have hzB' : Bd 7 z' := by have := c.p_hi; have := r'.2.2.1; exact bd7 (by omega) (by omega)
  have fin : ∀ {U1 U2 S1 S2 H S H2 H3 UH nx ny nz : Int}, _ := fun {U1 U2 S1 S2 H S H2 H3 UH nx ny nz : Int} => @rep_add p n a b gx gy X Y c i j x y z x' y' z' U1 U2 S1 S2 H S H2 H3 UH nx ny nz hi hi' hj hj' hij hn r r'
  clear c r r' hi hi' hj hj' hij hn
  unfold Con
  k_fill
  intro dp un gd cn cs a' ccd cl outer A₀ base h₀ L m s Q E B F X N T hk hd hu hret
  refine wpAny_call ?_
  k_dflt ktr_enter
  k_steps
  all_goals (first | (law_absurd; done) | cell_end hret Q s | w_report)
  exact fin rfl rfl rfl rfl rfl rfl rfl rfl rfl rfl rfl rfl

end
local macro_rules | `(tactic| walk_at "call ref") => `(tactic| (k_here; (with_reducible show wpAny _ _ (call (Value.ref 49) _) _ _ _); k_dflt (cell_ask (add_c ?h1 ?h2 ?h3 ?h4 ?h5 ?h6 ?h7 ?h8 ?h9 ?h10 ?h11 ?h12); (case h1 => k_mem); (case h2 => k_mem); (case h3 => k_mem); (case h4 => assumption); (case h11 => assumption); (case h12 => assumption); (case h5 => assumption); (case h6 => assumption); (case h7 => assumption); (case h8 => assumption); (case h9 => assumption); (case h10 => assumption); intro r9 tl9 h9 tk9 F9 N9 o9; obtain ⟨D9, t1, t2, t3, c9, x9, y9, z9, e1, e2, q1⟩ := o9; subst e1 e2; (try simp only [List.nil_append, List.cons_append] at N9); (try dsimp only); (try k_fold))))
section
set_option maxHeartbeats 8000000 in
theorem from_c {w : World} {mean mg mb : _} {news : Led} {P C : Addr} {i x y z p n a b gx gy : Int} {X Y : Int → Int} {u1 u2 u3 v1 v2 v3 v4 v5 v6 : Tok} {k1 k2 : Nat}
    (hP : (P, tupO [.int x u1, .int y u2, .int z u3] k1) ∈ news) (hC : (C, tupO [.int p v1, .int n v2, .int a v3, .int b v4, .int gx v5, .int gy v6] k2) ∈ news)
    (c : Crv p n a b gx gy X Y) (hi : 0 < i) (hi' : i < n) (r : Rep p X Y i x y z) :
    Con w mean mg mb 56 2 news [.ref P, .ref C] (OTup2 fun x' y' => x' = X i ∧ y' = Y i) := by
  have fin : ∀ {v : Int}, _ := fun {v : Int} => @rep_back p n a b gx gy X Y c i x y z v hi hi' r
  have hg : Int.gcd z p = 1 := c.pr _ r.2.2.2.1
  have hz0 : z ≠ 0 := by intro e; apply r.2.2.2.1; rw [e]; exact Int.zero_emod p
  have hp2 : 2 ≤ p := by have := c.p_lo; omega
  have hp128 : p < 128 := by have := c.p_hi; omega
  have hp0 : 0 < p := by have := c.p_lo; omega
  have hpB : Bd 7 p := by have := c.p_hi; exact bd7 (by omega) (by omega)
  have hxB : Bd 7 x := by have := c.p_hi; have := r.1; exact bd7 (by omega) (by omega)
  have hyB : Bd 7 y := by have := c.p_hi; have := r.2.1; exact bd7 (by omega) (by omega)
  clear c r hi hi'
  unfold Con
  k_fill
  intro dp un gd cn cs a' ccd cl outer A₀ base h₀ L m s Q E B F X N T hk hd hu hret
  refine wpAny_call ?_
  k_dflt ktr_enter
  k_steps
  all_goals (first | (law_absurd; done) | cell_end hret Q s | w_report)
  exact fin (by assumption)

end
local macro_rules | `(tactic| walk_at "call ref") => `(tactic| (k_here; (with_reducible show wpAny _ _ (call (Value.ref 56) _) _ _ _); k_dflt (cell_ask (from_c ?h1 ?h2 ?h3 ?h4 ?h5 ?h6); (case h1 => k_mem); (case h2 => k_mem); (case h3 => assumption); (case h6 => assumption); (case h4 => assumption); (case h5 => assumption); intro r9 tl9 h9 tk9 F9 N9 o9; obtain ⟨D9, t1, t2, c9, x9, y9, e1, e2, q1, q2⟩ := o9; subst e1 e2 q1 q2; (try simp only [List.nil_append, List.cons_append] at N9); (try dsimp only); (try k_fold))))
section
def JmT (w : World) (mean : ExcName → Option Value) (mg mb : Str → Option Value) (i p n a b gx gy : Int) (X Y : Int → Int) (e : Nat) : Prop :=
  ∀ (news : Led) (P C : Addr) (x y z m : Int) (u1 u2 u3 v1 v2 v3 v4 v5 v6 tm : Tok) (k1 k2 : Nat),
    (P, tupO [.int x u1, .int y u2, .int z u3] k1) ∈ news → (C, tupO [.int p v1, .int n v2, .int a v3, .int b v4, .int gx v5, .int gy v6] k2) ∈ news →
    Rep p X Y i x y z → 0 < m → m < 2 ^ e → m < n →
    Con w mean mg mb 63 (e + 1) news [.ref P, .int m tm, .ref C] (OTup3 fun x' y' z' => Rep p X Y ((i * m) % n) x' y' z')
theorem JmT.use {w : World} {mean : ExcName → Option Value} {mg mb : Str → Option Value} {i p n a b gx gy : Int} {X Y : Int → Int} {e : Nat} (J : JmT w mean mg mb i p n a b gx gy X Y e)
    {news : Led} {P C : Addr} {x y z m : Int} {u1 u2 u3 v1 v2 v3 v4 v5 v6 tm : Tok} {k1 k2 : Nat}
    (hP : (P, tupO [.int x u1, .int y u2, .int z u3] k1) ∈ news) (hC : (C, tupO [.int p v1, .int n v2, .int a v3, .int b v4, .int gx v5, .int gy v6] k2) ∈ news)
    (r : Rep p X Y i x y z) (h0 : 0 < m) (h1 : m < 2 ^ e) (h2 : m < n) :
    Con w mean mg mb 63 (e + 1) news [.ref P, .int m tm, .ref C] (OTup3 fun x' y' z' => Rep p X Y ((i * m) % n) x' y' z') := J _ _ _ _ _ _ _ _ _ _ _ _ _ _ _ _ _ _ _ hP hC r h0 h1 h2
local macro_rules | `(tactic| walk_at "call ref") => `(tactic| (k_here; (with_reducible show wpAny _ _ (call (Value.ref 63) _) _ _ _); k_dflt (cell_ask (JmT.use (by assumption) ?h1 ?h2 ?h3 ?h4 ?h5 ?h6); (case h1 => k_mem); (case h2 => k_mem); (case h3 => assumption); (case h4 => assumption); (case h5 => assumption); (case h6 => assumption); intro r9 tl9 h9 tk9 F9 N9 o9; obtain ⟨D9, t1, t2, t3, c9, x9, y9, z9, e1, e2, q1⟩ := o9; subst e1 e2; (try simp only [List.nil_append, List.cons_append] at N9); (try dsimp only); (try k_fold))))
set_option maxHeartbeats 8000000 in
theorem jm_c {w : World} {mean : ExcName → Option Value} {mg mb : Str → Option Value} {i p n a b gx gy : Int} {X Y : Int → Int} (c : Crv p n a b gx gy X Y) (hi : 0 < i) (hi' : i < n) (e : Nat) : JmT w mean mg mb i p n a b gx gy X Y e := by
  induction e with
  | zero => intro news P C x y z m u1 u2 u3 v1 v2 v3 v4 v5 v6 tm k1 k2 hP hC r h0 h1 h2; exfalso; rw [Int.pow_zero] at h1; omega
  | succ e ih =>
    intro news P C x y z m u1 u2 u3 v1 v2 v3 v4 v5 v6 tm k1 k2 hP hC r h0 h1 h2
    have hy0 : y ≠ 0 := r.y_ne c hi hi'
    rcases (by omega : m = 1 ∨ 1 < m) with hm1 | hm1
    · subst hm1
      have fin : Rep p X Y ((i * 1) % n) x y z := by rw [Int.mul_one, emod_small (by omega) hi']; exact r
      unfold Con
      k_fill
      intro dp un gd cn cs a' ccd cl outer A₀ base h₀ L m s Q E B F X N T hk hd hu hret
      refine wpAny_call ?_
      k_dflt ktr_enter
      k_steps
      all_goals (first | (law_absurd; done) | cell_end hret Q s | w_report)
      exact fin
    · obtain ⟨g1, g2, g3, g4, g5⟩ := jm_half c hi hi' hm1 h2 h1
      rcases (by rw [fmod_two]; omega : m.fmod 2 = 0 ∨ m.fmod 2 = 1) with hm2 | hm2
      · have fin := jm_even c (i := i) hm2
        unfold Con
        k_fill
        intro dp un gd cn cs a' ccd cl outer A₀ base h₀ L m s Q E B F X N T hk hd hu hret
        refine wpAny_call ?_
        k_dflt ktr_enter
        k_steps
        all_goals (first | (law_absurd; done) | cell_end hret Q s | w_report)
        rw [← fin]; assumption
      · obtain ⟨f1, f2, f3, f4, fin⟩ := jm_odd c hi hi' hm1 h2 hm2
        unfold Con
        k_fill
        intro dp un gd cn cs a' ccd cl outer A₀ base h₀ L m s Q E B F X N T hk hd hu hret
        refine wpAny_call ?_
        k_dflt ktr_enter
        k_steps
        all_goals (first | (law_absurd; done) | cell_end hret Q s | w_report)
        rw [← fin]; assumption

end
section
def JRes (p n i m : Int) (X Y : Int → Int) (x y z : Int) : Prop := (m % n = 0 ∧ x = 0 ∧ y = 0 ∧ z = 1) ∨ (m % n ≠ 0 ∧ Rep p X Y ((i * m) % n) x y z)
set_option maxHeartbeats 8000000 in
theorem jmB_c {w : World} {mean : ExcName → Option Value} {mg mb : Str → Option Value} {news : Led} {P C : Addr} {i x y z m p n a b gx gy : Int} {X Y : Int → Int} {u1 u2 u3 v1 v2 v3 v4 v5 v6 tm : Tok} {k1 k2 : Nat}
    (hP : (P, tupO [.int x u1, .int y u2, .int z u3] k1) ∈ news) (hC : (C, tupO [.int p v1, .int n v2, .int a v3, .int b v4, .int gx v5, .int gy v6] k2) ∈ news)
    (c : Crv p n a b gx gy X Y) (hi : 0 < i) (hi' : i < n) (r : Rep p X Y i x y z) (h0 : 0 ≤ m) (h1 : m < n) :
    Con w mean mg mb 63 8 news [.ref P, .int m tm, .ref C] (OTup3 (JRes p n i m X Y)) := by
  rcases (by omega : m = 0 ∨ 0 < m) with hm | hm
  · subst hm
    have fin : JRes p n i 0 X Y 0 0 1 := .inl ⟨Int.zero_emod n, rfl, rfl, rfl⟩
    have hy0 : y ≠ 0 := r.y_ne c hi hi'
    clear c r
    unfold Con
    k_fill
    intro dp un gd cn cs a' ccd cl outer A₀ base h₀ L m s Q E B F X N T hk hd hu hret
    refine wpAny_call ?_
    k_dflt ktr_enter
    k_steps
    all_goals (first | (law_absurd; done) | cell_end hret Q s | w_report)
    exact fin
  · have hm7 : m < 2 ^ 7 := by have := c.n_hi; omega
    refine con_mono (jm_c c hi hi' 7 _ _ _ _ _ _ _ _ _ _ _ _ _ _ _ _ _ _ _ hP hC r hm hm7 h1) (by omega) ?_
    rintro r tl ⟨D, t1, t2, t3, k, x', y', z', e1, e2, q⟩
    exact ⟨D, t1, t2, t3, k, x', y', z', e1, e2, .inr ⟨by rw [emod_small h0 h1]; omega, q⟩⟩
local macro_rules | `(tactic| walk_at "call ref") => `(tactic| (k_here; (with_reducible show wpAny _ _ (call (Value.ref 63) _) _ _ _); k_dflt (cell_ask (jmB_c ?h1 ?h2 ?h3 ?h4 ?h5 ?h6 ?h7 ?h8); (case h1 => k_mem); (case h2 => k_mem); (case h3 => assumption); (case h6 => assumption); (case h4 => assumption); (case h5 => assumption); (case h7 => assumption); (case h8 => assumption); intro r9 tl9 h9 tk9 F9 N9 o9; obtain ⟨D9, t1, t2, t3, c9, x9, y9, z9, e1, e2, q1⟩ := o9; subst e1 e2; (try simp only [List.nil_append, List.cons_append] at N9); (try dsimp only); (try k_fold))))
set_option maxHeartbeats 8000000 in
theorem jmA_c {w : World} {mean : ExcName → Option Value} {mg mb : Str → Option Value} {news : Led} {P C : Addr} {i x y z m p n a b gx gy : Int} {X Y : Int → Int} {u1 u2 u3 v1 v2 v3 v4 v5 v6 tm : Tok} {k1 k2 : Nat}
    (hP : (P, tupO [.int x u1, .int y u2, .int z u3] k1) ∈ news) (hC : (C, tupO [.int p v1, .int n v2, .int a v3, .int b v4, .int gx v5, .int gy v6] k2) ∈ news)
    (c : Crv p n a b gx gy X Y) (hi : 0 < i) (hi' : i < n) (r : Rep p X Y i x y z) (h0 : 0 ≤ m) (h1 : m < 2 * n) :
    Con w mean mg mb 63 9 news [.ref P, .int m tm, .ref C] (OTup3 (JRes p n i m X Y)) := by
  rcases (by omega : m < n ∨ n ≤ m) with hm | hm
  · exact con_mono (jmB_c hP hC c hi hi' r h0 hm) (by omega) (fun _ _ h => h)
  · have hn0 := c.n_lo
    obtain ⟨g1, g2, g3, g4, g5⟩ := over_n c (i := i) hm h1
    have hy0 : y ≠ 0 := r.y_ne c hi hi'
    have fin : ∀ {x' y' z' : Int}, JRes p n i (m.fmod n) X Y x' y' z' → JRes p n i m X Y x' y' z' := by
      intro x' y' z' h; unfold JRes at h ⊢; rw [g4, g5] at h; exact h
    unfold Con
    k_fill
    intro dp un gd cn cs a' ccd cl outer A₀ base h₀ L m s Q E B F X N T hk hd hu hret
    refine wpAny_call ?_
    k_dflt ktr_enter
    k_steps
    all_goals (first | (law_absurd; done) | cell_end hret Q s | w_report)
    exact fin (by assumption)
set_option maxHeartbeats 8000000 in
theorem frominf_c {w : World} {mean : ExcName → Option Value} {mg mb : Str → Option Value} {news : Led} {P C : Addr} {p n a b gx gy : Int} {X Y : Int → Int} {u1 u2 u3 v1 v2 v3 v4 v5 v6 : Tok} {k1 k2 : Nat}
    (hP : (P, tupO [.int 0 u1, .int 0 u2, .int 1 u3] k1) ∈ news) (hC : (C, tupO [.int p v1, .int n v2, .int a v3, .int b v4, .int gx v5, .int gy v6] k2) ∈ news)
    (c : Crv p n a b gx gy X Y) :
    Con w mean mg mb 56 2 news [.ref P, .ref C] (OTup2 fun x' y' => x' = 0 ∧ y' = 0) := by
  have hg : Int.gcd 1 p = 1 := Int.one_gcd
  have hz0 : (1 : Int) ≠ 0 := by omega
  have hp2 : 2 ≤ p := by have := c.p_lo; omega
  have hp128 : p < 128 := by have := c.p_hi; omega
  have hp0 : 0 < p := by have := c.p_lo; omega
  have hpB : Bd 7 p := by have := c.p_hi; exact bd7 (by omega) (by omega)
  clear c
  unfold Con
  k_fill
  intro dp un gd cn cs a' ccd cl outer A₀ base h₀ L m s Q E B F X N T hk hd hu hret
  refine wpAny_call ?_
  k_dflt ktr_enter
  k_steps
  all_goals (first | (law_absurd; done) | cell_end hret Q s | w_report)
  constructor <;> rw [Int.zero_mul, Int.zero_fmod]
theorem JRes.idx {p n a b gx gy : Int} {X Y : Int → Int} (c : Crv p n a b gx gy X Y) {i m x y z : Int} (_ : Rep p X Y ((i * m) % n) x y z) (hm : m % n ≠ 0) (hi : 0 < i) (hi' : i < n) : 0 < (i * m) % n ∧ (i * m) % n < n := c.idxM hi hi' hm

end
local macro_rules | `(tactic| walk_at "call ref") => `(tactic| (k_here; (with_reducible show wpAny _ _ (call (Value.ref 63) _) _ _ _); k_dflt (cell_ask (jmA_c ?h1 ?h2 ?h3 ?h4 ?h5 ?h6 ?h7 ?h8); (case h1 => k_mem); (case h2 => k_mem); (case h3 => assumption); (case h6 => assumption); (case h4 => assumption); (case h5 => assumption); (case h7 => assumption); (case h8 => assumption); intro r9 tl9 h9 tk9 F9 N9 o9; obtain ⟨D9, t1, t2, t3, c9, x9, y9, z9, e1, e2, q0⟩ := o9; subst e1 e2; (try simp only [List.nil_append, List.cons_append] at N9); (rcases q0 with ⟨q1, q2, q3, q4⟩ | ⟨q1, q2⟩); (case' inl => subst q2 q3 q4); (case' inr => have q3 := JRes.idx (by assumption) q2 q1 (by assumption) (by assumption); obtain ⟨q4, q5⟩ := q3); all_goals ((try dsimp only); (try k_fold)))))
local macro_rules | `(tactic| walk_at "call ref") => `(tactic| (k_here; (with_reducible show wpAny _ _ (call (Value.ref 56) _) _ _ _); k_dflt (cell_ask (frominf_c ?h1 ?h2 ?h3); (case h1 => k_mem); (case h2 => k_mem); (case h3 => assumption); intro r9 tl9 h9 tk9 F9 N9 o9; obtain ⟨D9, t1, t2, c9, x9, y9, e1, e2, q1, q2⟩ := o9; subst e1 e2 q1 q2; (try simp only [List.nil_append, List.cons_append] at N9); (try dsimp only); (try k_fold))))
section
def MRes (n i m : Int) (X Y : Int → Int) (x y : Int) : Prop := (m % n = 0 ∧ x = 0 ∧ y = 0) ∨ (m % n ≠ 0 ∧ x = X ((i * m) % n) ∧ y = Y ((i * m) % n))
set_option maxHeartbeats 8000000 in
theorem multiply_c {w : World} {mean : ExcName → Option Value} {mg mb : Str → Option Value} {news : Led} {P C : Addr} {i x y m p n a b gx gy : Int} {X Y : Int → Int} {u1 u2 v1 v2 v3 v4 v5 v6 tm : Tok} {k1 k2 : Nat}
    (hP : (P, tupO [.int x u1, .int y u2] k1) ∈ news) (hC : (C, tupO [.int p v1, .int n v2, .int a v3, .int b v4, .int gx v5, .int gy v6] k2) ∈ news)
    (c : Crv p n a b gx gy X Y) (hi : 0 < i) (hi' : i < n) (hx : x = X i) (hy : y = Y i) (h0 : 0 ≤ m) (h1 : m < 2 * n) :
    Con w mean mg mb 70 10 news [.ref P, .int m tm, .ref C] (OTup2 (MRes n i m X Y)) := by
  subst hx hy
  have r := rep_one c hi hi'
  unfold Con
  k_fill
  intro dp un gd cn cs a' ccd cl outer A₀ base h₀ L m' s Q E B F XX N T hk hd hu hret
  refine wpAny_call ?_
  k_dflt ktr_enter
  k_steps
  all_goals (first | (law_absurd; done) | cell_end hret Q s | w_report)
  all_goals (first | exact .inl ⟨by assumption, rfl, rfl⟩ | exact .inr ⟨by assumption, rfl, rfl⟩)

end
local macro_rules | `(tactic| walk_at "call ref") => `(tactic| (k_here; (with_reducible show wpAny _ _ (call (Value.ref 70) _) _ _ _); k_dflt (cell_ask (multiply_c ?h1 ?h2 ?h3 ?h4 ?h5 ?h6 ?h7 ?h8 ?h9); (case h1 => k_mem); (case h2 => k_mem); (case h3 => assumption); (case h6 => first | rfl | assumption); (case h7 => first | rfl | assumption); (case h4 => assumption); (case h5 => assumption); (case h8 => assumption); (case h9 => assumption); intro r9 tl9 h9 tk9 F9 N9 o9; obtain ⟨D9, t1, t2, c9, x9, y9, e1, e2, q0⟩ := o9; subst e1 e2; (try simp only [List.nil_append, List.cons_append] at N9); (try dsimp only); (try k_fold))))
section
def CrvX (p n a b gx gy : Int) : Prop := ∃ X Y, Crv p n a b gx gy X Y
def CurveIn (tl : Led) (v : Value) : Prop := ∃ D p n a b gx gy t1 t2 t3 t4 t5 t6 k, v = .ref D ∧ (D, tupO [.int p t1, .int n t2, .int a t3, .int b t4, .int gx t5, .int gy t6] k) ∈ tl ∧ CrvX p n a b gx gy
def OCurves (r : Value) (tl : Led) : Prop := ∃ (l : Addr) (vals : List Value) (k : Nat), r = .ref l ∧ (l, PySem.W.listOf vals.toArray k) ∈ tl ∧ vals.length = 13 ∧ ∀ (i : Nat) (v : Value), vals[i]? = some v → CurveIn tl v
theorem vals_all {P : Value → Prop} {l : List Value} (h : ∀ v ∈ l, P v) : ∀ (i : Nat) (v : Value), l[i]? = some v → P v := fun _ v e => h v (List.mem_of_getElem? e)
theorem curve_in {tl : Led} {D : Addr} {p n a b gx gy : Int} {t1 t2 t3 t4 t5 t6 : Tok} {k : Nat} {X Y : Int → Int} (h : (D, tupO [.int p t1, .int n t2, .int a t3, .int b t4, .int gx t5, .int gy t6] k) ∈ tl) (c : Crv p n a b gx gy X Y) : CurveIn tl (.ref D) :=
  ⟨D, p, n, a, b, gx, gy, t1, t2, t3, t4, t5, t6, k, rfl, h, X, Y, c⟩
set_option maxHeartbeats 8000000 in
theorem curves_c {w : World} {mean : ExcName → Option Value} {mg mb : Str → Option Value} {news : Led} : Con w mean mg mb 456 1 news [] OCurves := by
  unfold Con
  k_fill
  intro dp un gd cn cs a' ccd cl outer A₀ base h₀ L m' s Q E B F XX N T hk hd hu hret
  refine wpAny_call ?_
  k_dflt ktr_enter
  k_steps
  (rename Fr _ _ _ _ => lF); (rename News _ _ _ _ => lN)
  refine hret _ [_, _, _, _, _, _, _, _, _, _, _, _, _, _] _ _ lF lN ⟨_, _, _, rfl, List.mem_cons_self, rfl, vals_all ?_⟩
  simp only [List.forall_mem_cons, List.not_mem_nil, false_implies, implies_true, and_true]
  refine ⟨?_, ?_, ?_, ?_, ?_, ?_, ?_, ?_, ?_, ?_, ?_, ?_, ?_⟩
  · exact curve_in (by k_mem) crv0
  · exact curve_in (by k_mem) crv1
  · exact curve_in (by k_mem) crv2
  · exact curve_in (by k_mem) crv3
  · exact curve_in (by k_mem) crv4
  · exact curve_in (by k_mem) crv5
  · exact curve_in (by k_mem) crv6
  · exact curve_in (by k_mem) crv7
  · exact curve_in (by k_mem) crv8
  · exact curve_in (by k_mem) crv9
  · exact curve_in (by k_mem) crv10
  · exact curve_in (by k_mem) crv11
  · exact curve_in (by k_mem) crv12

end
section
set_option maxHeartbeats 8000000 in
theorem addsecp_c {w : World} {mean : ExcName → Option Value} {mg mb : Str → Option Value} {news : Led} {P P' C : Addr} {i j x y x' y' p n a b gx gy : Int} {X Y : Int → Int} {u1 u2 w1 w2 v1 v2 v3 v4 v5 v6 : Tok} {k1 k2 k3 : Nat}
    (hP : (P, tupO [.int x u1, .int y u2] k1) ∈ news) (hP' : (P', tupO [.int x' w1, .int y' w2] k3) ∈ news) (hC : (C, tupO [.int p v1, .int n v2, .int a v3, .int b v4, .int gx v5, .int gy v6] k2) ∈ news)
    (c : Crv p n a b gx gy X Y) (hi : 0 < i) (hi' : i < n) (hj : 0 < j) (hj' : j < n) (hij : i ≠ j) (hn : i + j ≠ n) (hx : x = X i) (hy : y = Y i) (hx' : x' = X j) (hy' : y' = Y j) :
    Con w mean mg mb 77 4 news [.ref P, .ref P', .ref C] (OTup2 fun x' y' => x' = X ((i + j) % n) ∧ y' = Y ((i + j) % n)) := by
  subst hx hy hx' hy'
  have r := rep_one c hi hi'
  have r' := rep_one c hj hj'
  obtain ⟨g1, g2⟩ := c.idxA hi hi' hj hj' hn
  unfold Con
  k_fill
  intro dp un gd cn cs a' ccd cl outer A₀ base h₀ L m' s Q E B F XX N T hk hd hu hret
  refine wpAny_call ?_
  k_dflt ktr_enter
  k_steps
  all_goals (first | (law_absurd; done) | cell_end hret Q s | w_report)
  exact ⟨rfl, rfl⟩

end
local macro_rules | `(tactic| walk_at "call ref") => `(tactic| (k_here; (with_reducible show wpAny _ _ (call (Value.ref 77) _) _ _ _); k_dflt (cell_ask (addsecp_c ?h1 ?h2 ?h3 ?h4 ?h5 ?h6 ?h7 ?h8 ?h9 ?h10 ?h11 ?h12 ?h13 ?h14); (case h1 => k_mem); (case h2 => k_mem); (case h3 => k_mem); (case h4 => assumption); (case h11 => first | rfl | assumption); (case h12 => first | rfl | assumption); (case h13 => first | rfl | assumption); (case h14 => first | rfl | assumption); (case h5 => assumption); (case h6 => assumption); (case h7 => assumption); (case h8 => assumption); (case h9 => assumption); (case h10 => assumption); intro r9 tl9 h9 tk9 F9 N9 o9; obtain ⟨D9, t1, t2, c9, x9, y9, e1, e2, q1, q2⟩ := o9; subst e1 e2 q1 q2; (try simp only [List.nil_append, List.cons_append] at N9); (try dsimp only); (try k_fold))))
section
def LDA (u v a b : Int) : Int := (u * u - a * v * v) ^ Int.toNat 2 - 8 * b * u * v * v * v
def LDB (u v a b : Int) : Int := 4 * v * (u * u * u + a * u * v * v + b * v * v * v)
def LSB (u v u' v' : Int) : Int := (u * v' - u' * v) ^ Int.toNat 2
def LSA (u v u' v' a b t : Int) : Int := 2 * ((u * v' + u' * v) * (a * v * v' + u * u') + 2 * b * v * v * v' * v') - t * (u * v' - u' * v) ^ Int.toNat 2
set_option maxHeartbeats 8000000 in
theorem ldbl_c {w : World} {mean : ExcName → Option Value} {mg mb : Str → Option Value} {news : Led} {P : Addr} {u v a b : Int} {u1 u2 v1 v2 : Tok} {k1 : Nat}
    (hP : (P, tupO [.int u u1, .int v u2] k1) ∈ news) (hu : Bd 7 u) (hv : Bd 7 v) (ha : Bd 7 a) (hb : Bd 7 b) :
    Con w mean mg mb 470 1 news [.ref P, .int a v1, .int b v2] (OTup2 fun s t => s = LDA u v a b ∧ t = LDB u v a b) := by
  unfold Con
  k_fill
  intro dp un gd cn cs a' ccd cl outer A₀ base h₀ L m' s Q E B F XX N T hk hd hu hret
  refine wpAny_call ?_
  k_dflt ktr_enter
  k_steps
  all_goals (first | (law_absurd; done) | cell_end hret Q s | w_report)
  exact ⟨rfl, rfl⟩
set_option maxHeartbeats 8000000 in
theorem lsum_c {w : World} {mean : ExcName → Option Value} {mg mb : Str → Option Value} {news : Led} {P P' : Addr} {u v u' v' a b t : Int} {u1 u2 w1 w2 v1 v2 v3 : Tok} {k1 k2 : Nat}
    (hP : (P, tupO [.int u u1, .int v u2] k1) ∈ news) (hP' : (P', tupO [.int u' w1, .int v' w2] k2) ∈ news) (hu : Bd 7 u) (hv : Bd 7 v) (hu' : Bd 7 u') (hv' : Bd 7 v') (ha : Bd 7 a) (hb : Bd 7 b) (ht : Bd 7 t) :
    Con w mean mg mb 477 1 news [.ref P, .ref P', .int a v1, .int b v2, .int t v3] (OTup2 fun x y => x = LSA u v u' v' a b t ∧ y = LSB u v u' v') := by
  unfold Con
  k_fill
  intro dp un gd cn cs a' ccd cl outer A₀ base h₀ L m' s Q E B F XX N T hk hd hu hret
  refine wpAny_call ?_
  k_dflt ktr_enter
  k_steps
  all_goals (first | (law_absurd; done) | cell_end hret Q s | w_report)
  exact ⟨rfl, rfl⟩

end
local macro_rules | `(tactic| walk_at "call ref") => `(tactic| (k_here; (with_reducible show wpAny _ _ (call (Value.ref 470) _) _ _ _); k_dflt (cell_ask (ldbl_c ?h1 ?h2 ?h3 ?h4 ?h5); (case h1 => k_mem); (case h2 => assumption); (case h3 => assumption); (case h4 => assumption); (case h5 => assumption); intro r9 tl9 h9 tk9 F9 N9 o9; obtain ⟨D9, t1, t2, c9, x9, y9, e1, e2, q1, q2⟩ := o9; subst e1 e2 q1 q2; (try simp only [List.nil_append, List.cons_append] at N9); (try dsimp only); (try k_fold))))
local macro_rules | `(tactic| walk_at "call ref") => `(tactic| (k_here; (with_reducible show wpAny _ _ (call (Value.ref 477) _) _ _ _); k_dflt (cell_ask (lsum_c ?h1 ?h2 ?h3 ?h4 ?h5 ?h6 ?h7 ?h8 ?h9); (case h1 => k_mem); (case h2 => k_mem); (case h3 => assumption); (case h4 => assumption); (case h5 => assumption); (case h6 => assumption); (case h7 => assumption); (case h8 => assumption); (case h9 => assumption); intro r9 tl9 h9 tk9 F9 N9 o9; obtain ⟨D9, t1, t2, c9, x9, y9, e1, e2, q1, q2⟩ := o9; subst e1 e2 q1 q2; (try simp only [List.nil_append, List.cons_append] at N9); (try dsimp only); (try k_fold))))
section
def RInv (p n : Int) (X : Int → Int) (k : Int) (pre : List Int) (u v u' v' : Int) : Prop := LRep p n X (k * binv pre) u v ∧ LRep p n X (k * (binv pre + 1)) u' v'
theorem RInv.bd {p n k : Int} {X : Int → Int} {pre : List Int} {u v u' v' : Int} (r : RInv p n X k pre u v u' v') (hp : p < 128) : Bd 7 u ∧ Bd 7 v ∧ Bd 7 u' ∧ Bd 7 v' := by
  obtain ⟨⟨h1, h2, _⟩, ⟨h3, h4, _⟩⟩ := r
  exact ⟨bd7 h1.1 (by omega), bd7 h2.1 (by omega), bd7 h3.1 (by omega), bd7 h4.1 (by omega)⟩
theorem rinv0 {p n a b gx gy k x : Int} {X Y : Int → Int} {pre : List Int} {u v u' v' : Int} (c : Crv p n a b gx gy X Y) (hi : 0 < k) (hi' : k < n) (hx : x = X k) (r : RInv p n X k pre u v u' v') :
    RInv p n X k (pre ++ [0]) ((LDA u v a b).fmod p) ((LDB u v a b).fmod p) ((LSA u v u' v' a b x).fmod p) ((LSB u v u' v').fmod p) := by
  obtain ⟨r1, r2⟩ := r
  have q1 := ldbl c r1
  have q2 := lsum c hi hi' (by rw [Int.mul_add]; omega) hx r1 r2
  have e1 : k * binv (pre ++ [0]) = 2 * (k * binv pre) := by rw [binv_snoc, Int.add_zero, Int.mul_left_comm]
  have e2 : k * (binv (pre ++ [0]) + 1) = k * binv pre + k * (binv pre + 1) := by rw [Int.mul_add, e1, Int.mul_add]; omega
  unfold RInv
  rw [e1, e2]
  exact ⟨q1, q2⟩
theorem rinv1 {p n a b gx gy k x : Int} {X Y : Int → Int} {pre : List Int} {u v u' v' : Int} (c : Crv p n a b gx gy X Y) (hi : 0 < k) (hi' : k < n) (hx : x = X k) (r : RInv p n X k pre u v u' v') :
    RInv p n X k (pre ++ [1]) ((LSA u v u' v' a b x).fmod p) ((LSB u v u' v').fmod p) ((LDA u' v' a b).fmod p) ((LDB u' v' a b).fmod p) := by
  obtain ⟨r1, r2⟩ := r
  have q1 := ldbl c r2
  have q2 := lsum c hi hi' (by rw [Int.mul_add]; omega) hx r1 r2
  have e1 : k * binv (pre ++ [1]) = k * binv pre + k * (binv pre + 1) := by rw [binv_snoc, Int.mul_add, Int.mul_add, Int.mul_left_comm]; omega
  have e2 : k * (binv (pre ++ [1]) + 1) = 2 * (k * (binv pre + 1)) := by rw [Int.mul_add, e1, Int.mul_add]; omega
  unfold RInv
  rw [e1, e2]
  exact ⟨q2, q1⟩
theorem own_lt6 {D : Addr} {base own : Led} {a b c d e f : Prop} (h : a ∧ b ∧ c ∧ d ∧ e ∧ f ∧ AllLt D (base ++ own)) : ∀ p ∈ own, p.1 < D := own_lt h.2.2.2.2.2.2
theorem own_lt7 {D : Addr} {base own : Led} {a b c d e f g : Prop} (h : a ∧ b ∧ c ∧ d ∧ e ∧ f ∧ g ∧ AllLt D (base ++ own)) : ∀ p ∈ own, p.1 < D := own_lt h.2.2.2.2.2.2.2
def OOpt (n m k : Int) (X : Int → Int) (r : Value) (tl : Led) : Prop := tl = [] ∧ ((m % n = 0 ∧ r = .none) ∨ (m % n ≠ 0 ∧ ∃ t, r = .int (X ((k * m) % n)) t))
theorem end_none {h₀ : Heap} {L : Addr} {mp : Str → Option Value} {s : Shared} {Q : Value → Shared → Prop} {news : Led} {n m k : Int} {X : Int → Int} (hret : ∀ r tl h' tk', Fr h₀ L h' mp → News h₀ L h' (tl ++ news) → OOpt n m k X r tl → Q r { s with heap := h', toks := tk' })
    {h' : Heap} {tk' : Nat} {n1 : Led} (F : Fr h₀ L h' mp) (N : News h₀ L h' n1) (hs : ∀ p ∈ news, p ∈ n1) (hP : m % n = 0) : Q .none { s with heap := h', toks := tk' } :=
  hret _ [] _ _ F (news_sub N hs) ⟨rfl, .inl ⟨hP, rfl⟩⟩
theorem end_some {h₀ : Heap} {L : Addr} {mp : Str → Option Value} {s : Shared} {Q : Value → Shared → Prop} {news : Led} {n m k : Int} {X : Int → Int} (hret : ∀ r tl h' tk', Fr h₀ L h' mp → News h₀ L h' (tl ++ news) → OOpt n m k X r tl → Q r { s with heap := h', toks := tk' })
    {v : Int} {t : Tok} {h' : Heap} {tk' : Nat} {n1 : Led} (F : Fr h₀ L h' mp) (N : News h₀ L h' n1) (hs : ∀ p ∈ news, p ∈ n1) (hP : m % n ≠ 0 ∧ v = X ((k * m) % n)) : Q (.int v t) { s with heap := h', toks := tk' } :=
  hret _ [] _ _ F (news_sub N hs) ⟨rfl, .inr ⟨hP.1, t, by rw [hP.2]⟩⟩
theorem fin_none {p n a b gx gy k m u v u' v' : Int} {X Y : Int → Int} {ds : List Int} (hb : binv ds = m) (r : RInv p n X k ds u v u' v') (hv : v = 0) (c : Crv p n a b gx gy X Y) (hi : 0 < k) (hi' : k < n) : m % n = 0 := by
  subst hv hb
  exact (mul_zero_iff c hi hi').mp (lzero r.1)
theorem fin_some {p n a b gx gy k m u v u' v' : Int} {X Y : Int → Int} {ds : List Int} (hb : binv ds = m) (r : RInv p n X k ds u v u' v') (hv : v ≠ 0) (c : Crv p n a b gx gy X Y) (hi : 0 < k) (hi' : k < n) : m % n ≠ 0 ∧ (u * fp v (p - 2) p).fmod p = X ((k * m) % n) := by
  subst hb
  obtain ⟨q1, q2⟩ := lfin c r.1 hv
  exact ⟨fun h => q1 ((mul_zero_iff c hi hi').mpr h), q2⟩
local macro_rules | `(tactic| walk_at "ForEnd") => `(tactic| ((rename Fr _ _ _ _ => lF); (rename News _ _ _ _ => lN); (refine for_end lF lN rfl rfl (by k_mem) (by k_mem) (by kcj_all) (by k_mem) (by kcj_all) (own_lt6 (by assumption)) (own_lt7 (by assumption)) ?kz ?kr); (case kz => (intro z hz1 hz2 hz3 hz4; simp only [if_neg hz1, if_neg hz2, if_neg hz3, if_neg hz4])); (case kr => first | exact rinv0 (by assumption) (by assumption) (by assumption) (by assumption) (by assumption) | exact rinv1 (by assumption) (by assumption) (by assumption) (by assumption) (by assumption))))
local macro_rules | `(tactic| cell_end $hret:term $q:term $s:term) => `(tactic| first
  | (refine' end_none (Q := $q) (s := $s) $hret ?yf ?yn ?ys ?yp; (case yf => k_asm); (case yn => k_asm); (case ys => kcj_all); (case yp => exact fin_none (by assumption) (by assumption) (by assumption) (by assumption) (by assumption) (by assumption)))
  | (refine' end_some (Q := $q) (s := $s) $hret ?yf ?yn ?ys ?yp; (case yf => k_asm); (case yn => k_asm); (case ys => kcj_all); (case yp => exact fin_some (by assumption) (by assumption) (by assumption) (by assumption) (by assumption) (by assumption))))
local macro_rules | `(tactic| walk_at "exec While Compare cons nil") => `(tactic| (k_here; (rename Fr _ _ _ _ => lF); (rename News _ _ _ _ => lN); (refine lad_while (WInv _) lF lN rfl rfl (by assumption) ?_); clear lF lN; intro cnt9 t9 ds9 vals9 l9 cap9 h9 tk9 hI9 hW9 hF9 hN9; (have hlen9 : ds9.length ≤ 8 := hW9.2.2.1); (try dsimp only); (try k_fold)))
local macro_rules | `(tactic| walk_at "exec For Name Name cons nil") => `(tactic| (k_here; (rename Fr _ _ _ _ => lF); (rename News _ _ _ _ => lN); (have hE9 := winv_end (by assumption) (by assumption)); obtain ⟨hb9, hd9, hl9⟩ := hE9; (with_unfolding_all refine' lad_forS (RInv _ _ _ _) lF lN rfl ?kA ?kB ?kC ?kD ?kE ?kF ?kG ?kb ?kH ?kt ?kd); (case kA => assumption); (case kB => exact rfl); (case kC => exact rfl); (case kD => exact rfl); (case kE => k_mem); (case kF => k_mem); (case kG => k_mem); (case kH => assumption); (case kb => exact fun q hq => List.mem_cons_of_mem _ (List.mem_cons_of_mem _ (List.mem_cons_of_mem _ (List.mem_cons_of_mem _ hq)))); (case' kt => (clear lF lN; intro pre9 post9 d9 t9 u9 v9 u9' v9' DL9 DH9 t1 t2 t3 t4 c1 c2 ub9 h9 tk9 own9 e9 hm9 hR9 F9 N9; obtain ⟨hB1, hB2, hB3, hB4⟩ := RInv.bd hR9 (by assumption); (rcases hd9 _ hm9 with hd0 | hd0) <;> (subst hd0; (try dsimp only); (try k_fold)))); (case' kd => (clear lF lN; intro u9 v9 u9' v9' DL9 DH9 t1 t2 t3 t4 c1 c2 ub9 h9 tk9 hR9 F9 N9; obtain ⟨hB1, hB2, hB3, hB4⟩ := RInv.bd hR9 (by assumption); (try dsimp only); (try k_fold)))))
local macro_rules | `(tactic| walk_at "LadEnd") => `(tactic| ((rename Fr _ _ _ _ => lF); (rename News _ _ _ _ => lN); (refine lad_end lF lN rfl rfl (by k_mem) (by kcj_all) (by assumption) ?kz ?kw ?km); (case kz => (intro z hz1 hz2; simp only [if_neg hz1, if_neg hz2])); (case kw => exact winv_step (by assumption) (by assumption)); (case km => (rw [fdiv_two]; omega))))
set_option maxHeartbeats 8000000 in
theorem ladder_c {w : World} {mean : ExcName → Option Value} {mg mb : Str → Option Value} {news : Led} {C : Addr} {k x m p n a b gx gy : Int} {X Y : Int → Int} {u1 u2 v1 v2 v3 v4 v5 v6 : Tok} {k2 : Nat}
    (hC : (C, tupO [.int p v1, .int n v2, .int a v3, .int b v4, .int gx v5, .int gy v6] k2) ∈ news)
    (c : Crv p n a b gx gy X Y) (hi : 0 < k) (hi' : k < n) (hx : x = X k) (h0 : 0 ≤ m) (h1 : m < 256) :
    Con w mean mg mb 484 3 news [.int x u1, .int m u2, .ref C] (OOpt n m k X) := by
  have qk := c.rng k hi hi'
  have hp2 : 2 ≤ p := by have := c.p_lo; omega
  have hp128 : p < 128 := by have := c.p_hi; omega
  have hp3 : 0 ≤ p - 2 := by omega
  have hp0 : 0 < p := by have := c.p_lo; omega
  have hpB : Bd 7 p := by have := c.p_hi; exact bd7 (by omega) (by omega)
  have haB : Bd 7 a := by have := c.a_hi; have := c.a_lo; exact bd7 (by omega) (by omega)
  have hbB : Bd 7 b := by have := c.b_hi; have := c.b_lo; exact bd7 (by omega) (by omega)
  have hxB : Bd 7 x := by have := c.p_hi; exact bd7 (by omega) (by omega)
  have hW0 := winv_start h0 h1
  have hR0 : RInv p n X k [] 1 0 x 1 := by subst hx; exact ⟨LRep.low c hi hi', LRep.high c hi hi'⟩
  unfold Con
  k_fill
  intro dp un gd cn cs a' ccd cl outer A₀ base h₀ L m' s Q E B F XX N T hk hd hu hret
  refine wpAny_call ?_
  k_dflt ktr_enter
  k_steps
  all_goals (first | (law_absurd; done) | cell_end hret Q s | w_report)

end
section
set_option maxHeartbeats 8000000 in
theorem both_c {w : World} {mean : ExcName → Option Value} {mg mb : Str → Option Value} {news : Led} {C : Addr} {i j x1 x2 p n a b gx gy : Int} {X Y : Int → Int} {u1 u2 v1 v2 v3 v4 v5 v6 : Tok} {k2 : Nat}
    (hC : (C, tupO [.int p v1, .int n v2, .int a v3, .int b v4, .int gx v5, .int gy v6] k2) ∈ news)
    (c : Crv p n a b gx gy X Y) (hi : 0 < i) (hi' : i < n) (hj : 0 < j) (hj' : j < n) (hij : i ≠ j) (hn : i + j ≠ n) (h1 : x1 = X i) (h2 : x2 = X j) :
    Con w mean mg mb 491 1 news [.int x1 u1, .int x2 u2, .ref C] (OTup2 fun s t => s = (X ((i+j)%n) + X ((i+(n-j))%n)).fmod p ∧ t = (X ((i+j)%n) * X ((i+(n-j))%n)).fmod p) := by
  have fin := fun {part : Int} => @both_eq p n a b gx gy X Y c i j x1 x2 part hi hi' hj hj' hij hn h1 h2
  have q1 := c.rng i hi hi'
  have q2 := c.rng j hj hj'
  have hp2 : 2 ≤ p := by have := c.p_lo; omega
  have hp3 : 0 ≤ p - 2 := by omega
  have hp0 : 0 < p := by have := c.p_lo; omega
  have hpB : Bd 7 p := by have := c.p_hi; exact bd7 (by omega) (by omega)
  have haB : Bd 7 a := by have := c.a_hi; have := c.a_lo; exact bd7 (by omega) (by omega)
  have hbB : Bd 7 b := by have := c.b_hi; have := c.b_lo; exact bd7 (by omega) (by omega)
  have hxB : Bd 7 x1 := by have := c.p_hi; exact bd7 (by omega) (by omega)
  have hyB : Bd 7 x2 := by have := c.p_hi; exact bd7 (by omega) (by omega)
  clear c q1 q2 hi hi' hj hj' hij hn h1 h2
  unfold Con
  k_fill
  intro dp un gd cn cs a' ccd cl outer A₀ base h₀ L m' s Q E B F XX N T hk hd hu hret
  refine wpAny_call ?_
  k_dflt ktr_enter
  k_steps
  all_goals (first | (law_absurd; done) | cell_end hret Q s | w_report)
  exact fin rfl

end
section
set_option maxHeartbeats 8000000 in
theorem fqnew_c {w : World} {mean : ExcName → Option Value} {mg mb : Str → Option Value} {news : Led} {v p : Int} {u1 u2 : Tok} (hp : 0 < p) :
    Con w mean mg mb 255 2 news [.int v u1, .int p u2] (OFq 255 w.params p fun r => r = v.fmod p) := by
  unfold Con
  k_fill
  intro dp un gd cn cs a' ccd cl outer A₀ base h₀ L m' s Q E B F XX N T hk hd hu hret
  k_dflt (refine' call_cls ?k1 ?k2 ?k3 ?k4 ?k5 ?k6 ?_; (case k1 => k_asm); (case k2 => k_asm); (case k3 => k_asm); (case k4 => k_is); (case k5 => k_is); (case k6 => k_is); k_whole; intro x' d' h' F' N' l1 l2; (try k_lt l1); (try k_lt2 l2); (try k_sweep))
  k_dflt ktr_enter
  k_steps
  all_goals (first | (law_absurd; done) | cell_end hret Q s | w_report)
  exact rfl
local macro_rules | `(tactic| walk_at "call ref") => `(tactic| (k_here; (with_reducible show wpAny _ _ (call (Value.ref 255) [Value.int _ _, Value.int _ _]) _ _ _); k_dflt (cell_ask (fqnew_c ?h1); (case h1 => assumption); intro r9 tl9 h9 tk9 F9 N9 o9; obtain ⟨x9, d9, v9, t1, t2, t3, t4, k9, e1, e2, q1⟩ := o9; subst e1 e2 q1; (try simp only [List.nil_append, List.cons_append] at N9); (try dsimp only [W.CmpBack]); (try k_fold))))
set_option maxHeartbeats 8000000 in
theorem fqadd_c {w : World} {mean : ExcName → Option Value} {mg mb : Str → Option Value} {news : Led} {x d : Addr} {v : Int} {t1 t2 t3 t4 : Tok} {k : Nat} {y e : Addr} {u : Int} {s1 s2 s3 s4 : Tok} {l : Nat} {p : Int} (hx : (x, PySem.W.instObj 255 d) ∈ news) (hxd : (d, fqDict w.params p v t1 t2 t3 t4 k) ∈ news) (hy : (y, PySem.W.instObj 255 e) ∈ news) (hyd : (e, fqDict w.params p u s1 s2 s3 s4 l) ∈ news) (hp : 0 < p) (hv : Bd 7 v) (hu : Bd 7 u) :
    Con w mean mg mb 133 5 news [.ref x, .ref y] (OFq 255 w.params p fun r => r = (v + u).fmod p) := by
  unfold Con
  k_fill
  intro dp un gd cn cs a' ccd cl outer A₀ base h₀ L m' s Q E B F XX N T hk hd hu hret
  refine wpAny_call ?_
  k_dflt ktr_enter
  k_steps
  all_goals (first | (law_absurd; done) | cell_end hret Q s | w_report)
  exact fmod_fmod hp
set_option maxHeartbeats 8000000 in
theorem fqmul_c {w : World} {mean : ExcName → Option Value} {mg mb : Str → Option Value} {news : Led} {x d : Addr} {v : Int} {t1 t2 t3 t4 : Tok} {k : Nat} {y e : Addr} {u : Int} {s1 s2 s3 s4 : Tok} {l : Nat} {p : Int} (hx : (x, PySem.W.instObj 255 d) ∈ news) (hxd : (d, fqDict w.params p v t1 t2 t3 t4 k) ∈ news) (hy : (y, PySem.W.instObj 255 e) ∈ news) (hyd : (e, fqDict w.params p u s1 s2 s3 s4 l) ∈ news) (hp : 0 < p) (hv : Bd 7 v) (hu : Bd 7 u) :
    Con w mean mg mb 140 5 news [.ref x, .ref y] (OFq 255 w.params p fun r => r = (v * u).fmod p) := by
  unfold Con
  k_fill
  intro dp un gd cn cs a' ccd cl outer A₀ base h₀ L m' s Q E B F XX N T hk hd hu hret
  refine wpAny_call ?_
  k_dflt ktr_enter
  k_steps
  all_goals (first | (law_absurd; done) | cell_end hret Q s | w_report)
  exact fmod_fmod hp
set_option maxHeartbeats 8000000 in
theorem fqsub_c {w : World} {mean : ExcName → Option Value} {mg mb : Str → Option Value} {news : Led} {x d : Addr} {v : Int} {t1 t2 t3 t4 : Tok} {k : Nat} {y e : Addr} {u : Int} {s1 s2 s3 s4 : Tok} {l : Nat} {p : Int} (hx : (x, PySem.W.instObj 255 d) ∈ news) (hxd : (d, fqDict w.params p v t1 t2 t3 t4 k) ∈ news) (hy : (y, PySem.W.instObj 255 e) ∈ news) (hyd : (e, fqDict w.params p u s1 s2 s3 s4 l) ∈ news) (hp : 0 < p) (hv : Bd 7 v) (hu : Bd 7 u) :
    Con w mean mg mb 168 5 news [.ref x, .ref y] (OFq 255 w.params p fun r => r = (v - u).fmod p) := by
  unfold Con
  k_fill
  intro dp un gd cn cs a' ccd cl outer A₀ base h₀ L m' s Q E B F XX N T hk hd hu hret
  refine wpAny_call ?_
  k_dflt ktr_enter
  k_steps
  all_goals (first | (law_absurd; done) | cell_end hret Q s | w_report)
  exact fmod_fmod hp
set_option maxHeartbeats 8000000 in
theorem fqmuli_c {w : World} {mean : ExcName → Option Value} {mg mb : Str → Option Value} {news : Led} {x d : Addr} {v : Int} {t1 t2 t3 t4 : Tok} {k : Nat} {p a : Int} {s1 : Tok} (hx : (x, PySem.W.instObj 255 d) ∈ news) (hxd : (d, fqDict w.params p v t1 t2 t3 t4 k) ∈ news) (hp : 0 < p) (hv : Bd 7 v) (ha : Bd 7 a) :
    Con w mean mg mb 140 5 news [.ref x, .int a s1] (OFq 255 w.params p fun r => r = (v * a).fmod p) := by
  unfold Con
  k_fill
  intro dp un gd cn cs a' ccd cl outer A₀ base h₀ L m' s Q E B F XX N T hk hd hu hret
  refine wpAny_call ?_
  k_dflt ktr_enter
  k_steps
  all_goals (first | (law_absurd; done) | cell_end hret Q s | w_report)
  exact fmod_fmod hp
set_option maxHeartbeats 8000000 in
theorem fqneg_c {w : World} {mean : ExcName → Option Value} {mg mb : Str → Option Value} {news : Led} {x d : Addr} {v : Int} {t1 t2 t3 t4 : Tok} {k : Nat} {p : Int} (hx : (x, PySem.W.instObj 255 d) ∈ news) (hxd : (d, fqDict w.params p v t1 t2 t3 t4 k) ∈ news) (hp : 0 < p) :
    Con w mean mg mb 210 5 news [.ref x] (OFq 255 w.params p fun r => r = (-v).fmod p) := by
  unfold Con
  k_fill
  intro dp un gd cn cs a' ccd cl outer A₀ base h₀ L m' s Q E B F XX N T hk hd hu hret
  refine wpAny_call ?_
  k_dflt ktr_enter
  k_steps
  all_goals (first | (law_absurd; done) | cell_end hret Q s | w_report)
  exact rfl
set_option maxHeartbeats 8000000 in
theorem fqeq_c {w : World} {mean : ExcName → Option Value} {mg mb : Str → Option Value} {news : Led} {x d : Addr} {v : Int} {t1 t2 t3 t4 : Tok} {k : Nat} {y e : Addr} {u : Int} {s1 s2 s3 s4 : Tok} {l : Nat} {p : Int} (hx : (x, PySem.W.instObj 255 d) ∈ news) (hxd : (d, fqDict w.params p v t1 t2 t3 t4 k) ∈ news) (hy : (y, PySem.W.instObj 255 e) ∈ news) (hyd : (e, fqDict w.params p u s1 s2 s3 s4 l) ∈ news) :
    Con w mean mg mb 196 2 news [.ref x, .ref y] (OBool (v == u)) := by
  unfold Con
  k_fill
  intro dp un gd cn cs a' ccd cl outer A₀ base h₀ L m' s Q E B F XX N T hk hd hu hret
  refine wpAny_call ?_
  k_dflt ktr_enter
  k_steps
  all_goals (first | (law_absurd; done) | cell_end hret Q s | w_report)
  exact rfl
theorem fqeqn_c {w : World} {mean : ExcName → Option Value} {mg mb : Str → Option Value} {news : Led} {x d : Addr} {v : Int} {t1 t2 t3 t4 : Tok} {k : Nat} {y e : Addr} {u : Int} {s1 s2 s3 s4 : Tok} {l : Nat} {p : Int} (hx : (x, PySem.W.instObj 255 d) ∈ news) (hxd : (d, fqDict w.params p v t1 t2 t3 t4 k) ∈ news) (hy : (y, PySem.W.instObj 255 e) ∈ news) (hyd : (e, fqDict w.params p u s1 s2 s3 s4 l) ∈ news) (hn : v ≠ u) :
    Con w mean mg mb 196 2 news [.ref x, .ref y] (OBool false) := by
  have := fqeq_c (mean := mean) (mg := mg) (mb := mb) hx hxd hy hyd
  rwa [show (v == u) = false from beq_eq_false_iff_ne.mpr hn] at this
theorem fqeqe_c {w : World} {mean : ExcName → Option Value} {mg mb : Str → Option Value} {news : Led} {x d : Addr} {v : Int} {t1 t2 t3 t4 : Tok} {k : Nat} {y e : Addr} {u : Int} {s1 s2 s3 s4 : Tok} {l : Nat} {p : Int} (hx : (x, PySem.W.instObj 255 d) ∈ news) (hxd : (d, fqDict w.params p v t1 t2 t3 t4 k) ∈ news) (hy : (y, PySem.W.instObj 255 e) ∈ news) (hyd : (e, fqDict w.params p u s1 s2 s3 s4 l) ∈ news) (hn : v = u) :
    Con w mean mg mb 196 2 news [.ref x, .ref y] (OBool true) := by
  have := fqeq_c (mean := mean) (mg := mg) (mb := mb) hx hxd hy hyd
  rwa [show (v == u) = true from beq_iff_eq.mpr hn] at this
local macro_rules | `(tactic| walk_at "call ref") => `(tactic| (k_here; (with_reducible show wpAny _ _ (call (Value.ref 133) [Value.ref _, Value.ref _]) _ _ _); k_dflt (cell_ask (fqadd_c ?h1 ?h2 ?h3 ?h4 ?h5 ?h6 ?h7); (case h1 => first | k_mem | assumption | mul_fits); (case h2 => first | k_mem | assumption | mul_fits); (case h3 => first | k_mem | assumption | mul_fits); (case h4 => first | k_mem | assumption | mul_fits); (case h5 => first | k_mem | assumption | mul_fits); (case h6 => first | k_mem | assumption | mul_fits); (case h7 => first | k_mem | assumption | mul_fits); intro r9 tl9 h9 tk9 F9 N9 o9; obtain ⟨x9, d9, v9, t1, t2, t3, t4, k9, e1, e2, q1⟩ := o9; subst e1 e2 q1; (try simp only [List.nil_append, List.cons_append] at N9); (try dsimp only [W.CmpBack]); (try k_fold))))
local macro_rules | `(tactic| walk_at "call ref") => `(tactic| (k_here; (with_reducible show wpAny _ _ (call (Value.ref 140) [Value.ref _, Value.ref _]) _ _ _); k_dflt (cell_ask (fqmul_c ?h1 ?h2 ?h3 ?h4 ?h5 ?h6 ?h7); (case h1 => first | k_mem | assumption | mul_fits); (case h2 => first | k_mem | assumption | mul_fits); (case h3 => first | k_mem | assumption | mul_fits); (case h4 => first | k_mem | assumption | mul_fits); (case h5 => first | k_mem | assumption | mul_fits); (case h6 => first | k_mem | assumption | mul_fits); (case h7 => first | k_mem | assumption | mul_fits); intro r9 tl9 h9 tk9 F9 N9 o9; obtain ⟨x9, d9, v9, t1, t2, t3, t4, k9, e1, e2, q1⟩ := o9; subst e1 e2 q1; (try simp only [List.nil_append, List.cons_append] at N9); (try dsimp only [W.CmpBack]); (try k_fold))))
local macro_rules | `(tactic| walk_at "call ref") => `(tactic| (k_here; (with_reducible show wpAny _ _ (call (Value.ref 168) [Value.ref _, Value.ref _]) _ _ _); k_dflt (cell_ask (fqsub_c ?h1 ?h2 ?h3 ?h4 ?h5 ?h6 ?h7); (case h1 => first | k_mem | assumption | mul_fits); (case h2 => first | k_mem | assumption | mul_fits); (case h3 => first | k_mem | assumption | mul_fits); (case h4 => first | k_mem | assumption | mul_fits); (case h5 => first | k_mem | assumption | mul_fits); (case h6 => first | k_mem | assumption | mul_fits); (case h7 => first | k_mem | assumption | mul_fits); intro r9 tl9 h9 tk9 F9 N9 o9; obtain ⟨x9, d9, v9, t1, t2, t3, t4, k9, e1, e2, q1⟩ := o9; subst e1 e2 q1; (try simp only [List.nil_append, List.cons_append] at N9); (try dsimp only [W.CmpBack]); (try k_fold))))
local macro_rules | `(tactic| walk_at "call ref") => `(tactic| (k_here; (with_reducible show wpAny _ _ (call (Value.ref 140) [Value.ref _, Value.int _ _]) _ _ _); k_dflt (cell_ask (fqmuli_c ?h1 ?h2 ?h3 ?h4 ?h5); (case h1 => first | k_mem | assumption | mul_fits); (case h2 => first | k_mem | assumption | mul_fits); (case h3 => first | k_mem | assumption | mul_fits); (case h4 => first | k_mem | assumption | mul_fits); (case h5 => first | k_mem | assumption | mul_fits); intro r9 tl9 h9 tk9 F9 N9 o9; obtain ⟨x9, d9, v9, t1, t2, t3, t4, k9, e1, e2, q1⟩ := o9; subst e1 e2 q1; (try simp only [List.nil_append, List.cons_append] at N9); (try dsimp only [W.CmpBack]); (try k_fold))))
local macro_rules | `(tactic| walk_at "call ref") => `(tactic| (k_here; (with_reducible show wpAny _ _ (call (Value.ref 210) [Value.ref _]) _ _ _); k_dflt (cell_ask (fqneg_c ?h1 ?h2 ?h3); (case h1 => first | k_mem | assumption | mul_fits); (case h2 => first | k_mem | assumption | mul_fits); (case h3 => first | k_mem | assumption | mul_fits); intro r9 tl9 h9 tk9 F9 N9 o9; obtain ⟨x9, d9, v9, t1, t2, t3, t4, k9, e1, e2, q1⟩ := o9; subst e1 e2 q1; (try simp only [List.nil_append, List.cons_append] at N9); (try dsimp only [W.CmpBack]); (try k_fold))))
local macro_rules | `(tactic| walk_at "call ref") => `(tactic| (k_here; (with_reducible show wpAny _ _ (call (Value.ref 196) [Value.ref _, Value.ref _]) _ _ _); k_dflt (cell_ask (fqeq_c ?h1 ?h2 ?h3 ?h4); (case h1 => k_mem); (case h2 => k_mem); (case h3 => k_mem); (case h4 => k_mem); intro r9 tl9 h9 tk9 F9 N9 o9; obtain ⟨e1, e2⟩ := o9; subst e1 e2; (try simp only [List.nil_append, List.cons_append] at N9); (try dsimp only [W.CmpBack]); (try k_fold))))
local macro_rules | `(tactic| walk_at "call ref") => `(tactic| (k_here; (with_reducible show wpAny _ _ (call (Value.ref 196) [Value.ref _, Value.ref _]) _ _ _); k_dflt (cell_ask (fqeqn_c ?h1 ?h2 ?h3 ?h4 ?h5); (case h1 => k_mem); (case h2 => k_mem); (case h3 => k_mem); (case h4 => k_mem); (case h5 => assumption); intro r9 tl9 h9 tk9 F9 N9 o9; obtain ⟨e1, e2⟩ := o9; subst e1 e2; (try simp only [List.nil_append, List.cons_append] at N9); (try dsimp only [W.CmpBack]); (try k_fold))))
local macro_rules | `(tactic| walk_at "call ref") => `(tactic| (k_here; (with_reducible show wpAny _ _ (call (Value.ref 196) [Value.ref _, Value.ref _]) _ _ _); k_dflt (cell_ask (fqeqe_c ?h1 ?h2 ?h3 ?h4 ?h5); (case h1 => k_mem); (case h2 => k_mem); (case h3 => k_mem); (case h4 => k_mem); (case h5 => assumption); intro r9 tl9 h9 tk9 F9 N9 o9; obtain ⟨e1, e2⟩ := o9; subst e1 e2; (try simp only [List.nil_append, List.cons_append] at N9); (try dsimp only [W.CmpBack]); (try k_fold))))
set_option maxHeartbeats 8000000 in
theorem fqpow_c {w : World} {mean : ExcName → Option Value} {mg mb : Str → Option Value} {news : Led} {x d : Addr} {v : Int} {t1 t2 t3 t4 : Tok} {k : Nat} {p : Int} {s1 : Tok} (hx : (x, PySem.W.instObj 255 d) ∈ news) (hxd : (d, fqDict w.params p v t1 t2 t3 t4 k) ∈ news) (hp : 0 < p) (hv : Bd 7 v) :
    Con w mean mg mb 189 9 news [.ref x, .int 2 s1] (OFq 255 w.params p fun r => r = (v * v).fmod p) := by
  unfold Con
  k_fill
  intro dp un gd cn cs a' ccd cl outer A₀ base h₀ L m' s Q E B F XX N T hk hd hu hret
  refine wpAny_call ?_
  k_dflt ktr_enter
  k_steps
  all_goals (first | (law_absurd; done) | cell_end hret Q s | w_report)
  exact fmod_fmod hp
set_option maxHeartbeats 8000000 in
theorem fqdiv_c {w : World} {mean : ExcName → Option Value} {mg mb : Str → Option Value} {news : Led} {x d : Addr} {v : Int} {t1 t2 t3 t4 : Tok} {k : Nat} {y e : Addr} {u : Int} {s1 s2 s3 s4 : Tok} {l : Nat} {p : Int} (hx : (x, PySem.W.instObj 255 d) ∈ news) (hxd : (d, fqDict w.params p v t1 t2 t3 t4 k) ∈ news) (hy : (y, PySem.W.instObj 255 e) ∈ news) (hyd : (e, fqDict w.params p u s1 s2 s3 s4 l) ∈ news) (hp : 0 < p) (hp2 : 2 ≤ p) (hp128 : p < 128) (hv : Bd 7 v) (hg : Int.gcd u p = 1) :
    Con w mean mg mb 175 5 news [.ref x, .ref y] (OFq 255 w.params p fun r => ∃ i, 0 ≤ i ∧ i < p ∧ (u * i) % p = 1 ∧ r = (v * i).fmod p) := by
  unfold Con
  k_fill
  intro dp un gd cn cs a' ccd cl outer A₀ base h₀ L m' s Q E B F XX N T hk hd hu hret
  refine wpAny_call ?_
  k_dflt ktr_enter
  k_steps
  all_goals (first | (law_absurd; done) | cell_end hret Q s | w_report)
  exact ⟨_, by assumption, by assumption, by assumption, fmod_fmod hp⟩

end
local macro_rules | `(tactic| walk_at "call ref") => `(tactic| (k_here; (with_reducible show wpAny _ _ (call (Value.ref 255) [Value.int _ _, Value.int _ _]) _ _ _); k_dflt (cell_ask (fqnew_c ?h1); (case h1 => assumption); intro r9 tl9 h9 tk9 F9 N9 o9; obtain ⟨x9, d9, v9, t1, t2, t3, t4, k9, e1, e2, q1⟩ := o9; subst e1 e2 q1; (try simp only [List.nil_append, List.cons_append] at N9); (try dsimp only [W.CmpBack]); (try k_fold))))
local macro_rules | `(tactic| walk_at "call ref") => `(tactic| (k_here; (with_reducible show wpAny _ _ (call (Value.ref 133) [Value.ref _, Value.ref _]) _ _ _); k_dflt (cell_ask (fqadd_c ?h1 ?h2 ?h3 ?h4 ?h5 ?h6 ?h7); (case h1 => first | k_mem | assumption | mul_fits); (case h2 => first | k_mem | assumption | mul_fits); (case h3 => first | k_mem | assumption | mul_fits); (case h4 => first | k_mem | assumption | mul_fits); (case h5 => first | k_mem | assumption | mul_fits); (case h6 => first | k_mem | assumption | mul_fits); (case h7 => first | k_mem | assumption | mul_fits); intro r9 tl9 h9 tk9 F9 N9 o9; obtain ⟨x9, d9, v9, t1, t2, t3, t4, k9, e1, e2, q1⟩ := o9; subst e1 e2 q1; (try simp only [List.nil_append, List.cons_append] at N9); (try dsimp only [W.CmpBack]); (try k_fold))))
local macro_rules | `(tactic| walk_at "call ref") => `(tactic| (k_here; (with_reducible show wpAny _ _ (call (Value.ref 140) [Value.ref _, Value.ref _]) _ _ _); k_dflt (cell_ask (fqmul_c ?h1 ?h2 ?h3 ?h4 ?h5 ?h6 ?h7); (case h1 => first | k_mem | assumption | mul_fits); (case h2 => first | k_mem | assumption | mul_fits); (case h3 => first | k_mem | assumption | mul_fits); (case h4 => first | k_mem | assumption | mul_fits); (case h5 => first | k_mem | assumption | mul_fits); (case h6 => first | k_mem | assumption | mul_fits); (case h7 => first | k_mem | assumption | mul_fits); intro r9 tl9 h9 tk9 F9 N9 o9; obtain ⟨x9, d9, v9, t1, t2, t3, t4, k9, e1, e2, q1⟩ := o9; subst e1 e2 q1; (try simp only [List.nil_append, List.cons_append] at N9); (try dsimp only [W.CmpBack]); (try k_fold))))
local macro_rules | `(tactic| walk_at "call ref") => `(tactic| (k_here; (with_reducible show wpAny _ _ (call (Value.ref 168) [Value.ref _, Value.ref _]) _ _ _); k_dflt (cell_ask (fqsub_c ?h1 ?h2 ?h3 ?h4 ?h5 ?h6 ?h7); (case h1 => first | k_mem | assumption | mul_fits); (case h2 => first | k_mem | assumption | mul_fits); (case h3 => first | k_mem | assumption | mul_fits); (case h4 => first | k_mem | assumption | mul_fits); (case h5 => first | k_mem | assumption | mul_fits); (case h6 => first | k_mem | assumption | mul_fits); (case h7 => first | k_mem | assumption | mul_fits); intro r9 tl9 h9 tk9 F9 N9 o9; obtain ⟨x9, d9, v9, t1, t2, t3, t4, k9, e1, e2, q1⟩ := o9; subst e1 e2 q1; (try simp only [List.nil_append, List.cons_append] at N9); (try dsimp only [W.CmpBack]); (try k_fold))))
local macro_rules | `(tactic| walk_at "call ref") => `(tactic| (k_here; (with_reducible show wpAny _ _ (call (Value.ref 140) [Value.ref _, Value.int _ _]) _ _ _); k_dflt (cell_ask (fqmuli_c ?h1 ?h2 ?h3 ?h4 ?h5); (case h1 => first | k_mem | assumption | mul_fits); (case h2 => first | k_mem | assumption | mul_fits); (case h3 => first | k_mem | assumption | mul_fits); (case h4 => first | k_mem | assumption | mul_fits); (case h5 => first | k_mem | assumption | mul_fits); intro r9 tl9 h9 tk9 F9 N9 o9; obtain ⟨x9, d9, v9, t1, t2, t3, t4, k9, e1, e2, q1⟩ := o9; subst e1 e2 q1; (try simp only [List.nil_append, List.cons_append] at N9); (try dsimp only [W.CmpBack]); (try k_fold))))
local macro_rules | `(tactic| walk_at "call ref") => `(tactic| (k_here; (with_reducible show wpAny _ _ (call (Value.ref 210) [Value.ref _]) _ _ _); k_dflt (cell_ask (fqneg_c ?h1 ?h2 ?h3); (case h1 => first | k_mem | assumption | mul_fits); (case h2 => first | k_mem | assumption | mul_fits); (case h3 => first | k_mem | assumption | mul_fits); intro r9 tl9 h9 tk9 F9 N9 o9; obtain ⟨x9, d9, v9, t1, t2, t3, t4, k9, e1, e2, q1⟩ := o9; subst e1 e2 q1; (try simp only [List.nil_append, List.cons_append] at N9); (try dsimp only [W.CmpBack]); (try k_fold))))
local macro_rules | `(tactic| walk_at "call ref") => `(tactic| (k_here; (with_reducible show wpAny _ _ (call (Value.ref 196) [Value.ref _, Value.ref _]) _ _ _); k_dflt (cell_ask (fqeq_c ?h1 ?h2 ?h3 ?h4); (case h1 => k_mem); (case h2 => k_mem); (case h3 => k_mem); (case h4 => k_mem); intro r9 tl9 h9 tk9 F9 N9 o9; obtain ⟨e1, e2⟩ := o9; subst e1 e2; (try simp only [List.nil_append, List.cons_append] at N9); (try dsimp only [W.CmpBack]); (try k_fold))))
local macro_rules | `(tactic| walk_at "call ref") => `(tactic| (k_here; (with_reducible show wpAny _ _ (call (Value.ref 196) [Value.ref _, Value.ref _]) _ _ _); k_dflt (cell_ask (fqeqn_c ?h1 ?h2 ?h3 ?h4 ?h5); (case h1 => k_mem); (case h2 => k_mem); (case h3 => k_mem); (case h4 => k_mem); (case h5 => assumption); intro r9 tl9 h9 tk9 F9 N9 o9; obtain ⟨e1, e2⟩ := o9; subst e1 e2; (try simp only [List.nil_append, List.cons_append] at N9); (try dsimp only [W.CmpBack]); (try k_fold))))
local macro_rules | `(tactic| walk_at "call ref") => `(tactic| (k_here; (with_reducible show wpAny _ _ (call (Value.ref 196) [Value.ref _, Value.ref _]) _ _ _); k_dflt (cell_ask (fqeqe_c ?h1 ?h2 ?h3 ?h4 ?h5); (case h1 => k_mem); (case h2 => k_mem); (case h3 => k_mem); (case h4 => k_mem); (case h5 => assumption); intro r9 tl9 h9 tk9 F9 N9 o9; obtain ⟨e1, e2⟩ := o9; subst e1 e2; (try simp only [List.nil_append, List.cons_append] at N9); (try dsimp only [W.CmpBack]); (try k_fold))))
local macro_rules | `(tactic| walk_at "call ref") => `(tactic| (k_here; (with_reducible show wpAny _ _ (call (Value.ref 189) [Value.ref _, Value.int 2 _]) _ _ _); k_dflt (cell_ask (fqpow_c ?h1 ?h2 ?h3 ?h4); (case h1 => first | k_mem | assumption | mul_fits); (case h2 => first | k_mem | assumption | mul_fits); (case h3 => first | k_mem | assumption | mul_fits); (case h4 => first | k_mem | assumption | mul_fits); intro r9 tl9 h9 tk9 F9 N9 o9; obtain ⟨x9, d9, v9, t1, t2, t3, t4, k9, e1, e2, q1⟩ := o9; subst e1 e2 q1; (try simp only [List.nil_append, List.cons_append] at N9); (try dsimp only [W.CmpBack]); (try k_fold))))
local macro_rules | `(tactic| walk_at "call ref") => `(tactic| (k_here; (with_reducible show wpAny _ _ (call (Value.ref 175) [Value.ref _, Value.ref _]) _ _ _); k_dflt (cell_ask (fqdiv_c ?h1 ?h2 ?h3 ?h4 ?h5 ?h6 ?h7 ?h8 ?h9); (case h1 => k_mem); (case h2 => k_mem); (case h3 => k_mem); (case h4 => k_mem);(case h5 => first | assumption | mul_fits); (case h6 => first | assumption | mul_fits); (case h7 => first | assumption | mul_fits); (case h8 => first | assumption | mul_fits); (case h9 => first | assumption | mul_fits); intro r9 tl9 h9 tk9 F9 N9 o9; obtain ⟨x9, d9, v9, t1, t2, t3, t4, k9, e1, e2, i9, q1, q2, q3, q4⟩ := o9; subst e1 e2 q4; (have hiB9 := bd7 q1 (by omega)); (try simp only [List.nil_append, List.cons_append] at N9); (try dsimp only [W.CmpBack]); (try k_fold))))
section
def OPair (C : Addr) (P : Params) (p : Int) (V W : Int → Prop) (r : Value) (tl : Led) : Prop := ∃ D fx dx fy dy v u t1 t2 t3 t4 s1 s2 s3 s4 k l c, r = .ref D ∧ tl = [(D, tupO [.ref fx, .ref fy] c), (fx, PySem.W.instObj C dx), (dx, fqDict P p v t1 t2 t3 t4 k), (fy, PySem.W.instObj C dy), (dy, fqDict P p u s1 s2 s3 s4 l)] ∧ V v ∧ W u
theorem end_pair {C : Addr} {P : Params} {p : Int} {h₀ : Heap} {L : Addr} {m : Str → Option Value} {s : Shared} {Q : Value → Shared → Prop} {news : Led} {V W : Int → Prop} (hret : ∀ r tl h' tk', Fr h₀ L h' m → News h₀ L h' (tl ++ news) → OPair C P p V W r tl → Q r { s with heap := h', toks := tk' })
    {D fx dx fy dy : Addr} {t1 t2 t3 t4 s1 s2 s3 s4 : Tok} {k l c : Nat} {v u : Int} {h' : Heap} {tk' : Nat} {n1 : Led} (F : Fr h₀ L h' m) (N : News h₀ L h' n1) (hD : (D, tupO [.ref fx, .ref fy] c) ∈ n1) (hx : (fx, PySem.W.instObj C dx) ∈ n1) (hd : (dx, fqDict P p v t1 t2 t3 t4 k) ∈ n1) (hy : (fy, PySem.W.instObj C dy) ∈ n1) (he : (dy, fqDict P p u s1 s2 s3 s4 l) ∈ n1) (hs : ∀ p ∈ news, p ∈ n1) (hV : V v ∧ W u) : Q (.ref D) { s with heap := h', toks := tk' } :=
  hret _ [(D, tupO [.ref fx, .ref fy] c), (fx, PySem.W.instObj C dx), (dx, fqDict P p v t1 t2 t3 t4 k), (fy, PySem.W.instObj C dy), (dy, fqDict P p u s1 s2 s3 s4 l)] _ _ F (news_sub N (by
    intro p hp
    rcases List.mem_cons.mp hp with rfl | hp
    · exact hD
    rcases List.mem_cons.mp hp with rfl | hp
    · exact hx
    rcases List.mem_cons.mp hp with rfl | hp
    · exact hd
    rcases List.mem_cons.mp hp with rfl | hp
    · exact hy
    rcases List.mem_cons.mp hp with rfl | hp
    · exact he
    · exact hs p hp)) ⟨D, fx, dx, fy, dy, v, u, t1, t2, t3, t4, s1, s2, s3, s4, k, l, c, rfl, rfl, hV.1, hV.2⟩
local macro_rules | `(tactic| cell_end $hret:term $q:term $s:term) => `(tactic| (refine' end_pair (Q := $q) (s := $s) $hret ?yf ?yn ?yD ?yx ?yd ?yy ?ye ?ys ?yp; (case yf => k_asm); (case yn => k_asm); (case yD => k_mem); (case yx => k_mem); (case yd => k_mem); (case yy => k_mem); (case ye => k_mem); (case ys => kcj_all)))
set_option maxHeartbeats 8000000 in
theorem bnneg_c {w : World} {mean : ExcName → Option Value} {mg mb : Str → Option Value} {news : Led} {P fx1 fy1 dx1 dy1 : Addr} {p x1 y1 : Int} {a1 a2 a3 a4 b1 b2 b3 b4 : Tok} {k1 k3 k4 : Nat}
    (hP : (P, tupO [.ref fx1, .ref fy1] k1) ∈ news)
    (h1 : (fx1, PySem.W.instObj 255 dx1) ∈ news) (h1d : (dx1, fqDict w.params p x1 a1 a2 a3 a4 k3) ∈ news) (h2 : (fy1, PySem.W.instObj 255 dy1) ∈ news) (h2d : (dy1, fqDict w.params p y1 b1 b2 b3 b4 k4) ∈ news)
    (hp0 : 0 < p) :
    Con w mean mg mb 105 7 news [.ref P] (OPair 255 w.params p (fun v => v = x1) (fun u => u = (-y1).fmod p)) := by
  unfold Con
  k_fill
  intro dp un gd cn cs a' ccd cl outer A₀ base h₀ L m' s Q E B F XX N T hk hd hu hret
  refine wpAny_call ?_
  k_dflt ktr_enter
  k_steps
  all_goals (first | (law_absurd; done) | cell_end hret Q s | w_report)
  exact ⟨rfl, rfl⟩

end
local macro_rules | `(tactic| cell_end $hret:term $q:term $s:term) => `(tactic| (refine' end_pair (Q := $q) (s := $s) $hret ?yf ?yn ?yD ?yx ?yd ?yy ?ye ?ys ?yp; (case yf => k_asm); (case yn => k_asm); (case yD => k_mem); (case yx => k_mem); (case yd => k_mem); (case yy => k_mem); (case ye => k_mem); (case ys => kcj_all)))
section
theorem bn_x {p n a b gx gy : Int} {X Y : Int → Int} (c : Crv p n a b gx gy X Y) {i j x1 y1 x2 y2 e : Int} (hi : 0 < i) (hi' : i < n) (hj : 0 < j) (hj' : j < n) (hij : i ≠ j) (hn : i + j ≠ n) (hx1 : x1 = X i) (hy1 : y1 = Y i) (hx2 : x2 = X j) (hy2 : y2 = Y j) (he : ((x2 - x1).fmod p * e) % p = 1) :
    ((((((y2 - y1).fmod p * e).fmod p) * (((y2 - y1).fmod p * e).fmod p)).fmod p - x1).fmod p - x2).fmod p = X ((i + j) % n) := by
  subst hx1 hy1 hx2 hy2
  have hp0 : 0 < p := by have := c.p_lo; omega
  obtain ⟨_, d1, _⟩ := c.add i j hi hi' hj hj' hij hn
  obtain ⟨s0, s1⟩ := c.idxA hi hi' hj hj' hn
  have q := c.rng _ s0 s1
  obtain ⟨R, _, φ, h⟩ := HomP.exists (p := p) (by have := c.p_lo; omega)
  have hh := hom_one h (by have := c.p_lo; omega) he
  rw [h.eqv] at d1
  simp only [h.mod, h.sub, h.mul, h.add, h.pow] at hh d1
  refine eq_of_mod (fmod_rng hp0).1 (fmod_rng hp0).2 q.1 q.2.1 ?_
  rw [h.eqv]
  simp only [h.mod, h.mul, h.sub]
  have key : ∀ (x3 x1 x2 f d g : R), d * g = 1 → (x3 + x1 + x2) * d ^ 2 = f ^ 2 → f * g * (f * g) - x1 - x2 = x3 := by
    intro x3 x1 x2 f d g h1 h2
    have : f * g * (f * g) = (x3 + x1 + x2) * (d * g) * (d * g) := by
      have e1 : f * g * (f * g) = f ^ 2 * (g * g) := by clear h1 h2; grind
      rw [e1, ← h2]; clear h1 h2 e1; grind
    rw [this, h1]; clear h1 h2 this; grind
  exact key _ _ _ _ _ _ hh d1
theorem bn_chk {p x1 y1 x2 y2 i nx : Int} (hp : 2 ≤ p) (hi : ((x2 - x1).fmod p * i) % p = 1) :
    (((((-(((y2 - y1).fmod p * i).fmod p)).fmod p * nx).fmod p + (((y2 - y1).fmod p * i).fmod p * x1).fmod p).fmod p) - y1).fmod p =
    (((((-(((y2 - y1).fmod p * i).fmod p)).fmod p * nx).fmod p + (((y2 - y1).fmod p * i).fmod p * x2).fmod p).fmod p) - y2).fmod p := by
  have hp0 : 0 < p := by omega
  obtain ⟨R, _, φ, h⟩ := HomP.exists hp
  have hh := hom_one h hp hi
  simp only [h.mod, h.sub] at hh
  refine eq_of_mod (fmod_rng hp0).1 (fmod_rng hp0).2 (fmod_rng hp0).1 (fmod_rng hp0).2 ?_
  rw [h.eqv]
  simp only [h.mod, h.mul, h.sub, h.add, h.neg]
  grind
local macro_rules | `(tactic| walk_at "call ref") => `(tactic| (k_here; (with_reducible show wpAny _ _ (call (Value.ref 196) [Value.ref _, Value.ref _]) _ _ _); k_dflt (cell_ask (fqeqe_c ?h1 ?h2 ?h3 ?h4 ?h5); (case h1 => k_mem); (case h2 => k_mem); (case h3 => k_mem); (case h4 => k_mem); (case h5 => with_reducible exact bn_chk (by assumption) (by assumption)); intro r9 tl9 h9 tk9 F9 N9 o9; obtain ⟨e1, e2⟩ := o9; subst e1 e2; (try simp only [List.nil_append, List.cons_append] at N9); (try dsimp only [W.CmpBack]); (try k_fold))))
set_option maxHeartbeats 8000000 in
theorem bnadd_c {w : World} {mean : ExcName → Option Value} {mg mb : Str → Option Value} {news : Led} {P P' fx1 fy1 fx2 fy2 dx1 dy1 dx2 dy2 : Addr} {i j p n a b gx gy : Int} {X Y : Int → Int}
    {a1 a2 a3 a4 b1 b2 b3 b4 c1 c2 c3 c4 d1 d2 d3 d4 : Tok} {k1 k2 k3 k4 k5 k6 : Nat} {x1 y1 x2 y2 : Int}
    (hP : (P, tupO [.ref fx1, .ref fy1] k1) ∈ news) (hP' : (P', tupO [.ref fx2, .ref fy2] k2) ∈ news)
    (h1 : (fx1, PySem.W.instObj 255 dx1) ∈ news) (h1d : (dx1, fqDict w.params p x1 a1 a2 a3 a4 k3) ∈ news) (h2 : (fy1, PySem.W.instObj 255 dy1) ∈ news) (h2d : (dy1, fqDict w.params p y1 b1 b2 b3 b4 k4) ∈ news)
    (h3 : (fx2, PySem.W.instObj 255 dx2) ∈ news) (h3d : (dx2, fqDict w.params p x2 c1 c2 c3 c4 k5) ∈ news) (h4 : (fy2, PySem.W.instObj 255 dy2) ∈ news) (h4d : (dy2, fqDict w.params p y2 d1 d2 d3 d4 k6) ∈ news)
    (c : Crv p n a b gx gy X Y) (hi : 0 < i) (hi' : i < n) (hj : 0 < j) (hj' : j < n) (hij : i ≠ j) (hn : i + j ≠ n) (hx1 : x1 = X i) (hy1 : y1 = Y i) (hx2 : x2 = X j) (hy2 : y2 = Y j) :
    Con w mean mg mb 98 12 news [.ref P, .ref P'] (OPair 255 w.params p (fun v => v = X ((i + j) % n)) (fun _ => True)) := by
  have q1 := c.rng i hi hi'
  have q2 := c.rng j hj hj'
  have hne : x2 ≠ x1 := by rw [hx1, hx2]; exact Ne.symm (c.add i j hi hi' hj hj' hij hn).1
  have hp2 : 2 ≤ p := by have := c.p_lo; omega
  have hp128 : p < 128 := by have := c.p_hi; omega
  have hp0 : 0 < p := by have := c.p_lo; omega
  have hpB : Bd 7 p := by have := c.p_hi; exact bd7 (by omega) (by omega)
  have hg : Int.gcd ((x2 - x1).fmod p) p = 1 := gcd_fmod hp0 (c.pr _ (c.sub_ne (by omega) (by omega) (by omega) (by omega) hne))
  have hx1B : Bd 7 x1 := bd7 (by omega) (by omega)
  have hy1B : Bd 7 y1 := bd7 (by omega) (by omega)
  have hx2B : Bd 7 x2 := bd7 (by omega) (by omega)
  have hy2B : Bd 7 y2 := bd7 (by omega) (by omega)
  unfold Con
  k_fill
  intro dp un gd cn cs a' ccd cl outer A₀ base h₀ L m' s Q E B F XX N T hk hd hu hret
  refine wpAny_call ?_
  k_dflt ktr_enter
  k_steps
  all_goals (first | cell_end hret Q s | (law_absurd; done) | w_report)
  refine ⟨?_, True.intro⟩
  with_reducible refine bn_x c hi hi' hj hj' hij hn hx1 hy1 hx2 hy2 ?_
  assumption

end
section
set_option maxHeartbeats 8000000 in
theorem fonew_c {w : World} {mean : ExcName → Option Value} {mg mb : Str → Option Value} {news : Led} {v p : Int} {u1 u2 : Tok} (hp : 0 < p) :
    Con w mean mg mb 417 2 news [.int v u1, .int p u2] (OFq 417 w.params p fun r => r = v.fmod p) := by
  unfold Con
  k_fill
  intro dp un gd cn cs a' ccd cl outer A₀ base h₀ L m' s Q E B F XX N T hk hd hu hret
  k_dflt (refine' call_cls ?k1 ?k2 ?k3 ?k4 ?k5 ?k6 ?_; (case k1 => k_asm); (case k2 => k_asm); (case k3 => k_asm); (case k4 => k_is); (case k5 => k_is); (case k6 => k_is); k_whole; intro x' d' h' F' N' l1 l2; (try k_lt l1); (try k_lt2 l2); (try k_sweep))
  k_dflt ktr_enter
  k_steps
  all_goals (first | (law_absurd; done) | cell_end hret Q s | w_report)
  exact rfl
local macro_rules | `(tactic| walk_at "call ref") => `(tactic| (k_here; (with_reducible show wpAny _ _ (call (Value.ref 417) [Value.int _ _, Value.int _ _]) _ _ _); k_dflt (cell_ask (fonew_c ?h1); (case h1 => assumption); intro r9 tl9 h9 tk9 F9 N9 o9; obtain ⟨x9, d9, v9, t1, t2, t3, t4, k9, e1, e2, q1⟩ := o9; subst e1 e2 q1; (try simp only [List.nil_append, List.cons_append] at N9); (try dsimp only [W.CmpBack]); (try k_fold))))
set_option maxHeartbeats 8000000 in
theorem foadd_c {w : World} {mean : ExcName → Option Value} {mg mb : Str → Option Value} {news : Led} {x d : Addr} {v : Int} {t1 t2 t3 t4 : Tok} {k : Nat} {y e : Addr} {u : Int} {s1 s2 s3 s4 : Tok} {l : Nat} {p : Int} (hx : (x, PySem.W.instObj 417 d) ∈ news) (hxd : (d, fqDict w.params p v t1 t2 t3 t4 k) ∈ news) (hy : (y, PySem.W.instObj 417 e) ∈ news) (hyd : (e, fqDict w.params p u s1 s2 s3 s4 l) ∈ news) (hp : 0 < p) (hv : Bd 7 v) (hu : Bd 7 u) :
    Con w mean mg mb 280 5 news [.ref x, .ref y] (OFq 417 w.params p fun r => r = (v + u).fmod p) := by
  unfold Con
  k_fill
  intro dp un gd cn cs a' ccd cl outer A₀ base h₀ L m' s Q E B F XX N T hk hd hu hret
  refine wpAny_call ?_
  k_dflt ktr_enter
  k_steps
  all_goals (first | (law_absurd; done) | cell_end hret Q s | w_report)
  exact fmod_fmod hp
set_option maxHeartbeats 8000000 in
theorem fomul_c {w : World} {mean : ExcName → Option Value} {mg mb : Str → Option Value} {news : Led} {x d : Addr} {v : Int} {t1 t2 t3 t4 : Tok} {k : Nat} {y e : Addr} {u : Int} {s1 s2 s3 s4 : Tok} {l : Nat} {p : Int} (hx : (x, PySem.W.instObj 417 d) ∈ news) (hxd : (d, fqDict w.params p v t1 t2 t3 t4 k) ∈ news) (hy : (y, PySem.W.instObj 417 e) ∈ news) (hyd : (e, fqDict w.params p u s1 s2 s3 s4 l) ∈ news) (hp : 0 < p) (hv : Bd 7 v) (hu : Bd 7 u) :
    Con w mean mg mb 287 5 news [.ref x, .ref y] (OFq 417 w.params p fun r => r = (v * u).fmod p) := by
  unfold Con
  k_fill
  intro dp un gd cn cs a' ccd cl outer A₀ base h₀ L m' s Q E B F XX N T hk hd hu hret
  refine wpAny_call ?_
  k_dflt ktr_enter
  k_steps
  all_goals (first | (law_absurd; done) | cell_end hret Q s | w_report)
  exact fmod_fmod hp
set_option maxHeartbeats 8000000 in
theorem fosub_c {w : World} {mean : ExcName → Option Value} {mg mb : Str → Option Value} {news : Led} {x d : Addr} {v : Int} {t1 t2 t3 t4 : Tok} {k : Nat} {y e : Addr} {u : Int} {s1 s2 s3 s4 : Tok} {l : Nat} {p : Int} (hx : (x, PySem.W.instObj 417 d) ∈ news) (hxd : (d, fqDict w.params p v t1 t2 t3 t4 k) ∈ news) (hy : (y, PySem.W.instObj 417 e) ∈ news) (hyd : (e, fqDict w.params p u s1 s2 s3 s4 l) ∈ news) (hp : 0 < p) (hv : Bd 7 v) (hu : Bd 7 u) :
    Con w mean mg mb 315 5 news [.ref x, .ref y] (OFq 417 w.params p fun r => r = (v - u).fmod p) := by
  unfold Con
  k_fill
  intro dp un gd cn cs a' ccd cl outer A₀ base h₀ L m' s Q E B F XX N T hk hd hu hret
  refine wpAny_call ?_
  k_dflt ktr_enter
  k_steps
  all_goals (first | (law_absurd; done) | cell_end hret Q s | w_report)
  exact fmod_fmod hp
set_option maxHeartbeats 8000000 in
theorem fomuli_c {w : World} {mean : ExcName → Option Value} {mg mb : Str → Option Value} {news : Led} {x d : Addr} {v : Int} {t1 t2 t3 t4 : Tok} {k : Nat} {p a : Int} {s1 : Tok} (hx : (x, PySem.W.instObj 417 d) ∈ news) (hxd : (d, fqDict w.params p v t1 t2 t3 t4 k) ∈ news) (hp : 0 < p) (hv : Bd 7 v) (ha : Bd 7 a) :
    Con w mean mg mb 287 5 news [.ref x, .int a s1] (OFq 417 w.params p fun r => r = (v * a).fmod p) := by
  unfold Con
  k_fill
  intro dp un gd cn cs a' ccd cl outer A₀ base h₀ L m' s Q E B F XX N T hk hd hu hret
  refine wpAny_call ?_
  k_dflt ktr_enter
  k_steps
  all_goals (first | (law_absurd; done) | cell_end hret Q s | w_report)
  exact fmod_fmod hp
set_option maxHeartbeats 8000000 in
theorem foneg_c {w : World} {mean : ExcName → Option Value} {mg mb : Str → Option Value} {news : Led} {x d : Addr} {v : Int} {t1 t2 t3 t4 : Tok} {k : Nat} {p : Int} (hx : (x, PySem.W.instObj 417 d) ∈ news) (hxd : (d, fqDict w.params p v t1 t2 t3 t4 k) ∈ news) (hp : 0 < p) :
    Con w mean mg mb 364 5 news [.ref x] (OFq 417 w.params p fun r => r = (-v).fmod p) := by
  unfold Con
  k_fill
  intro dp un gd cn cs a' ccd cl outer A₀ base h₀ L m' s Q E B F XX N T hk hd hu hret
  refine wpAny_call ?_
  k_dflt ktr_enter
  k_steps
  all_goals (first | (law_absurd; done) | cell_end hret Q s | w_report)
  exact rfl
set_option maxHeartbeats 8000000 in
theorem foeq_c {w : World} {mean : ExcName → Option Value} {mg mb : Str → Option Value} {news : Led} {x d : Addr} {v : Int} {t1 t2 t3 t4 : Tok} {k : Nat} {y e : Addr} {u : Int} {s1 s2 s3 s4 : Tok} {l : Nat} {p : Int} (hx : (x, PySem.W.instObj 417 d) ∈ news) (hxd : (d, fqDict w.params p v t1 t2 t3 t4 k) ∈ news) (hy : (y, PySem.W.instObj 417 e) ∈ news) (hyd : (e, fqDict w.params p u s1 s2 s3 s4 l) ∈ news) :
    Con w mean mg mb 350 2 news [.ref x, .ref y] (OBool (v == u)) := by
  unfold Con
  k_fill
  intro dp un gd cn cs a' ccd cl outer A₀ base h₀ L m' s Q E B F XX N T hk hd hu hret
  refine wpAny_call ?_
  k_dflt ktr_enter
  k_steps
  all_goals (first | (law_absurd; done) | cell_end hret Q s | w_report)
  exact rfl
theorem foeqn_c {w : World} {mean : ExcName → Option Value} {mg mb : Str → Option Value} {news : Led} {x d : Addr} {v : Int} {t1 t2 t3 t4 : Tok} {k : Nat} {y e : Addr} {u : Int} {s1 s2 s3 s4 : Tok} {l : Nat} {p : Int} (hx : (x, PySem.W.instObj 417 d) ∈ news) (hxd : (d, fqDict w.params p v t1 t2 t3 t4 k) ∈ news) (hy : (y, PySem.W.instObj 417 e) ∈ news) (hyd : (e, fqDict w.params p u s1 s2 s3 s4 l) ∈ news) (hn : v ≠ u) :
    Con w mean mg mb 350 2 news [.ref x, .ref y] (OBool false) := by
  have := foeq_c (mean := mean) (mg := mg) (mb := mb) hx hxd hy hyd
  rwa [show (v == u) = false from beq_eq_false_iff_ne.mpr hn] at this
theorem foeqe_c {w : World} {mean : ExcName → Option Value} {mg mb : Str → Option Value} {news : Led} {x d : Addr} {v : Int} {t1 t2 t3 t4 : Tok} {k : Nat} {y e : Addr} {u : Int} {s1 s2 s3 s4 : Tok} {l : Nat} {p : Int} (hx : (x, PySem.W.instObj 417 d) ∈ news) (hxd : (d, fqDict w.params p v t1 t2 t3 t4 k) ∈ news) (hy : (y, PySem.W.instObj 417 e) ∈ news) (hyd : (e, fqDict w.params p u s1 s2 s3 s4 l) ∈ news) (hn : v = u) :
    Con w mean mg mb 350 2 news [.ref x, .ref y] (OBool true) := by
  have := foeq_c (mean := mean) (mg := mg) (mb := mb) hx hxd hy hyd
  rwa [show (v == u) = true from beq_iff_eq.mpr hn] at this
local macro_rules | `(tactic| walk_at "call ref") => `(tactic| (k_here; (with_reducible show wpAny _ _ (call (Value.ref 280) [Value.ref _, Value.ref _]) _ _ _); k_dflt (cell_ask (foadd_c ?h1 ?h2 ?h3 ?h4 ?h5 ?h6 ?h7); (case h1 => first | k_mem | assumption | mul_fits); (case h2 => first | k_mem | assumption | mul_fits); (case h3 => first | k_mem | assumption | mul_fits); (case h4 => first | k_mem | assumption | mul_fits); (case h5 => first | k_mem | assumption | mul_fits); (case h6 => first | k_mem | assumption | mul_fits); (case h7 => first | k_mem | assumption | mul_fits); intro r9 tl9 h9 tk9 F9 N9 o9; obtain ⟨x9, d9, v9, t1, t2, t3, t4, k9, e1, e2, q1⟩ := o9; subst e1 e2 q1; (try simp only [List.nil_append, List.cons_append] at N9); (try dsimp only [W.CmpBack]); (try k_fold))))
local macro_rules | `(tactic| walk_at "call ref") => `(tactic| (k_here; (with_reducible show wpAny _ _ (call (Value.ref 287) [Value.ref _, Value.ref _]) _ _ _); k_dflt (cell_ask (fomul_c ?h1 ?h2 ?h3 ?h4 ?h5 ?h6 ?h7); (case h1 => first | k_mem | assumption | mul_fits); (case h2 => first | k_mem | assumption | mul_fits); (case h3 => first | k_mem | assumption | mul_fits); (case h4 => first | k_mem | assumption | mul_fits); (case h5 => first | k_mem | assumption | mul_fits); (case h6 => first | k_mem | assumption | mul_fits); (case h7 => first | k_mem | assumption | mul_fits); intro r9 tl9 h9 tk9 F9 N9 o9; obtain ⟨x9, d9, v9, t1, t2, t3, t4, k9, e1, e2, q1⟩ := o9; subst e1 e2 q1; (try simp only [List.nil_append, List.cons_append] at N9); (try dsimp only [W.CmpBack]); (try k_fold))))
local macro_rules | `(tactic| walk_at "call ref") => `(tactic| (k_here; (with_reducible show wpAny _ _ (call (Value.ref 315) [Value.ref _, Value.ref _]) _ _ _); k_dflt (cell_ask (fosub_c ?h1 ?h2 ?h3 ?h4 ?h5 ?h6 ?h7); (case h1 => first | k_mem | assumption | mul_fits); (case h2 => first | k_mem | assumption | mul_fits); (case h3 => first | k_mem | assumption | mul_fits); (case h4 => first | k_mem | assumption | mul_fits); (case h5 => first | k_mem | assumption | mul_fits); (case h6 => first | k_mem | assumption | mul_fits); (case h7 => first | k_mem | assumption | mul_fits); intro r9 tl9 h9 tk9 F9 N9 o9; obtain ⟨x9, d9, v9, t1, t2, t3, t4, k9, e1, e2, q1⟩ := o9; subst e1 e2 q1; (try simp only [List.nil_append, List.cons_append] at N9); (try dsimp only [W.CmpBack]); (try k_fold))))
local macro_rules | `(tactic| walk_at "call ref") => `(tactic| (k_here; (with_reducible show wpAny _ _ (call (Value.ref 287) [Value.ref _, Value.int _ _]) _ _ _); k_dflt (cell_ask (fomuli_c ?h1 ?h2 ?h3 ?h4 ?h5); (case h1 => first | k_mem | assumption | mul_fits); (case h2 => first | k_mem | assumption | mul_fits); (case h3 => first | k_mem | assumption | mul_fits); (case h4 => first | k_mem | assumption | mul_fits); (case h5 => first | k_mem | assumption | mul_fits); intro r9 tl9 h9 tk9 F9 N9 o9; obtain ⟨x9, d9, v9, t1, t2, t3, t4, k9, e1, e2, q1⟩ := o9; subst e1 e2 q1; (try simp only [List.nil_append, List.cons_append] at N9); (try dsimp only [W.CmpBack]); (try k_fold))))
local macro_rules | `(tactic| walk_at "call ref") => `(tactic| (k_here; (with_reducible show wpAny _ _ (call (Value.ref 364) [Value.ref _]) _ _ _); k_dflt (cell_ask (foneg_c ?h1 ?h2 ?h3); (case h1 => first | k_mem | assumption | mul_fits); (case h2 => first | k_mem | assumption | mul_fits); (case h3 => first | k_mem | assumption | mul_fits); intro r9 tl9 h9 tk9 F9 N9 o9; obtain ⟨x9, d9, v9, t1, t2, t3, t4, k9, e1, e2, q1⟩ := o9; subst e1 e2 q1; (try simp only [List.nil_append, List.cons_append] at N9); (try dsimp only [W.CmpBack]); (try k_fold))))
local macro_rules | `(tactic| walk_at "call ref") => `(tactic| (k_here; (with_reducible show wpAny _ _ (call (Value.ref 350) [Value.ref _, Value.ref _]) _ _ _); k_dflt (cell_ask (foeq_c ?h1 ?h2 ?h3 ?h4); (case h1 => k_mem); (case h2 => k_mem); (case h3 => k_mem); (case h4 => k_mem); intro r9 tl9 h9 tk9 F9 N9 o9; obtain ⟨e1, e2⟩ := o9; subst e1 e2; (try simp only [List.nil_append, List.cons_append] at N9); (try dsimp only [W.CmpBack]); (try k_fold))))
local macro_rules | `(tactic| walk_at "call ref") => `(tactic| (k_here; (with_reducible show wpAny _ _ (call (Value.ref 350) [Value.ref _, Value.ref _]) _ _ _); k_dflt (cell_ask (foeqn_c ?h1 ?h2 ?h3 ?h4 ?h5); (case h1 => k_mem); (case h2 => k_mem); (case h3 => k_mem); (case h4 => k_mem); (case h5 => assumption); intro r9 tl9 h9 tk9 F9 N9 o9; obtain ⟨e1, e2⟩ := o9; subst e1 e2; (try simp only [List.nil_append, List.cons_append] at N9); (try dsimp only [W.CmpBack]); (try k_fold))))
local macro_rules | `(tactic| walk_at "call ref") => `(tactic| (k_here; (with_reducible show wpAny _ _ (call (Value.ref 350) [Value.ref _, Value.ref _]) _ _ _); k_dflt (cell_ask (foeqe_c ?h1 ?h2 ?h3 ?h4 ?h5); (case h1 => k_mem); (case h2 => k_mem); (case h3 => k_mem); (case h4 => k_mem); (case h5 => assumption); intro r9 tl9 h9 tk9 F9 N9 o9; obtain ⟨e1, e2⟩ := o9; subst e1 e2; (try simp only [List.nil_append, List.cons_append] at N9); (try dsimp only [W.CmpBack]); (try k_fold))))
set_option maxHeartbeats 8000000 in
theorem formul_c {w : World} {mean : ExcName → Option Value} {mg mb : Str → Option Value} {news : Led} {x d : Addr} {v : Int} {t1 t2 t3 t4 : Tok} {k : Nat} {p a : Int} {s1 : Tok} (hx : (x, PySem.W.instObj 417 d) ∈ news) (hxd : (d, fqDict w.params p v t1 t2 t3 t4 k) ∈ news) (hp : 0 < p) (hv : Bd 7 v) (ha : Bd 7 a) :
    Con w mean mg mb 294 7 news [.ref x, .int a s1] (OFq 417 w.params p fun r => r = (v * a).fmod p) := by
  unfold Con
  k_fill
  intro dp un gd cn cs a' ccd cl outer A₀ base h₀ L m' s Q E B F XX N T hk hd hu hret
  refine wpAny_call ?_
  k_dflt ktr_enter
  k_steps
  all_goals (first | (law_absurd; done) | cell_end hret Q s | w_report)
  exact rfl
set_option maxHeartbeats 8000000 in
theorem fodiv_c {w : World} {mean : ExcName → Option Value} {mg mb : Str → Option Value} {news : Led} {x d : Addr} {v : Int} {t1 t2 t3 t4 : Tok} {k : Nat} {y e : Addr} {u : Int} {s1 s2 s3 s4 : Tok} {l : Nat} {p : Int} (hx : (x, PySem.W.instObj 417 d) ∈ news) (hxd : (d, fqDict w.params p v t1 t2 t3 t4 k) ∈ news) (hy : (y, PySem.W.instObj 417 e) ∈ news) (hyd : (e, fqDict w.params p u s1 s2 s3 s4 l) ∈ news) (hp : 0 < p) (hp2 : 2 ≤ p) (hp128 : p < 128) (hv : Bd 7 v) (hg : Int.gcd u p = 1) :
    Con w mean mg mb 329 5 news [.ref x, .ref y] (OFq 417 w.params p fun r => ∃ i, 0 ≤ i ∧ i < p ∧ (u * i) % p = 1 ∧ r = (v * i).fmod p) := by
  unfold Con
  k_fill
  intro dp un gd cn cs a' ccd cl outer A₀ base h₀ L m' s Q E B F XX N T hk hd hu hret
  refine wpAny_call ?_
  k_dflt ktr_enter
  k_steps
  all_goals (first | (law_absurd; done) | cell_end hret Q s | w_report)
  exact ⟨_, by assumption, by assumption, by assumption, fmod_fmod hp⟩

end
local macro_rules | `(tactic| walk_at "call ref") => `(tactic| (k_here; (with_reducible show wpAny _ _ (call (Value.ref 417) [Value.int _ _, Value.int _ _]) _ _ _); k_dflt (cell_ask (fonew_c ?h1); (case h1 => assumption); intro r9 tl9 h9 tk9 F9 N9 o9; obtain ⟨x9, d9, v9, t1, t2, t3, t4, k9, e1, e2, q1⟩ := o9; subst e1 e2 q1; (try simp only [List.nil_append, List.cons_append] at N9); (try dsimp only [W.CmpBack]); (try k_fold))))
local macro_rules | `(tactic| walk_at "call ref") => `(tactic| (k_here; (with_reducible show wpAny _ _ (call (Value.ref 280) [Value.ref _, Value.ref _]) _ _ _); k_dflt (cell_ask (foadd_c ?h1 ?h2 ?h3 ?h4 ?h5 ?h6 ?h7); (case h1 => first | k_mem | assumption | mul_fits); (case h2 => first | k_mem | assumption | mul_fits); (case h3 => first | k_mem | assumption | mul_fits); (case h4 => first | k_mem | assumption | mul_fits); (case h5 => first | k_mem | assumption | mul_fits); (case h6 => first | k_mem | assumption | mul_fits); (case h7 => first | k_mem | assumption | mul_fits); intro r9 tl9 h9 tk9 F9 N9 o9; obtain ⟨x9, d9, v9, t1, t2, t3, t4, k9, e1, e2, q1⟩ := o9; subst e1 e2 q1; (try simp only [List.nil_append, List.cons_append] at N9); (try dsimp only [W.CmpBack]); (try k_fold))))
local macro_rules | `(tactic| walk_at "call ref") => `(tactic| (k_here; (with_reducible show wpAny _ _ (call (Value.ref 287) [Value.ref _, Value.ref _]) _ _ _); k_dflt (cell_ask (fomul_c ?h1 ?h2 ?h3 ?h4 ?h5 ?h6 ?h7); (case h1 => first | k_mem | assumption | mul_fits); (case h2 => first | k_mem | assumption | mul_fits); (case h3 => first | k_mem | assumption | mul_fits); (case h4 => first | k_mem | assumption | mul_fits); (case h5 => first | k_mem | assumption | mul_fits); (case h6 => first | k_mem | assumption | mul_fits); (case h7 => first | k_mem | assumption | mul_fits); intro r9 tl9 h9 tk9 F9 N9 o9; obtain ⟨x9, d9, v9, t1, t2, t3, t4, k9, e1, e2, q1⟩ := o9; subst e1 e2 q1; (try simp only [List.nil_append, List.cons_append] at N9); (try dsimp only [W.CmpBack]); (try k_fold))))
local macro_rules | `(tactic| walk_at "call ref") => `(tactic| (k_here; (with_reducible show wpAny _ _ (call (Value.ref 315) [Value.ref _, Value.ref _]) _ _ _); k_dflt (cell_ask (fosub_c ?h1 ?h2 ?h3 ?h4 ?h5 ?h6 ?h7); (case h1 => first | k_mem | assumption | mul_fits); (case h2 => first | k_mem | assumption | mul_fits); (case h3 => first | k_mem | assumption | mul_fits); (case h4 => first | k_mem | assumption | mul_fits); (case h5 => first | k_mem | assumption | mul_fits); (case h6 => first | k_mem | assumption | mul_fits); (case h7 => first | k_mem | assumption | mul_fits); intro r9 tl9 h9 tk9 F9 N9 o9; obtain ⟨x9, d9, v9, t1, t2, t3, t4, k9, e1, e2, q1⟩ := o9; subst e1 e2 q1; (try simp only [List.nil_append, List.cons_append] at N9); (try dsimp only [W.CmpBack]); (try k_fold))))
local macro_rules | `(tactic| walk_at "call ref") => `(tactic| (k_here; (with_reducible show wpAny _ _ (call (Value.ref 287) [Value.ref _, Value.int _ _]) _ _ _); k_dflt (cell_ask (fomuli_c ?h1 ?h2 ?h3 ?h4 ?h5); (case h1 => first | k_mem | assumption | mul_fits); (case h2 => first | k_mem | assumption | mul_fits); (case h3 => first | k_mem | assumption | mul_fits); (case h4 => first | k_mem | assumption | mul_fits); (case h5 => first | k_mem | assumption | mul_fits); intro r9 tl9 h9 tk9 F9 N9 o9; obtain ⟨x9, d9, v9, t1, t2, t3, t4, k9, e1, e2, q1⟩ := o9; subst e1 e2 q1; (try simp only [List.nil_append, List.cons_append] at N9); (try dsimp only [W.CmpBack]); (try k_fold))))
local macro_rules | `(tactic| walk_at "call ref") => `(tactic| (k_here; (with_reducible show wpAny _ _ (call (Value.ref 364) [Value.ref _]) _ _ _); k_dflt (cell_ask (foneg_c ?h1 ?h2 ?h3); (case h1 => first | k_mem | assumption | mul_fits); (case h2 => first | k_mem | assumption | mul_fits); (case h3 => first | k_mem | assumption | mul_fits); intro r9 tl9 h9 tk9 F9 N9 o9; obtain ⟨x9, d9, v9, t1, t2, t3, t4, k9, e1, e2, q1⟩ := o9; subst e1 e2 q1; (try simp only [List.nil_append, List.cons_append] at N9); (try dsimp only [W.CmpBack]); (try k_fold))))
local macro_rules | `(tactic| walk_at "call ref") => `(tactic| (k_here; (with_reducible show wpAny _ _ (call (Value.ref 350) [Value.ref _, Value.ref _]) _ _ _); k_dflt (cell_ask (foeq_c ?h1 ?h2 ?h3 ?h4); (case h1 => k_mem); (case h2 => k_mem); (case h3 => k_mem); (case h4 => k_mem); intro r9 tl9 h9 tk9 F9 N9 o9; obtain ⟨e1, e2⟩ := o9; subst e1 e2; (try simp only [List.nil_append, List.cons_append] at N9); (try dsimp only [W.CmpBack]); (try k_fold))))
local macro_rules | `(tactic| walk_at "call ref") => `(tactic| (k_here; (with_reducible show wpAny _ _ (call (Value.ref 350) [Value.ref _, Value.ref _]) _ _ _); k_dflt (cell_ask (foeqn_c ?h1 ?h2 ?h3 ?h4 ?h5); (case h1 => k_mem); (case h2 => k_mem); (case h3 => k_mem); (case h4 => k_mem); (case h5 => assumption); intro r9 tl9 h9 tk9 F9 N9 o9; obtain ⟨e1, e2⟩ := o9; subst e1 e2; (try simp only [List.nil_append, List.cons_append] at N9); (try dsimp only [W.CmpBack]); (try k_fold))))
local macro_rules | `(tactic| walk_at "call ref") => `(tactic| (k_here; (with_reducible show wpAny _ _ (call (Value.ref 350) [Value.ref _, Value.ref _]) _ _ _); k_dflt (cell_ask (foeqe_c ?h1 ?h2 ?h3 ?h4 ?h5); (case h1 => k_mem); (case h2 => k_mem); (case h3 => k_mem); (case h4 => k_mem); (case h5 => assumption); intro r9 tl9 h9 tk9 F9 N9 o9; obtain ⟨e1, e2⟩ := o9; subst e1 e2; (try simp only [List.nil_append, List.cons_append] at N9); (try dsimp only [W.CmpBack]); (try k_fold))))
local macro_rules | `(tactic| walk_at "call ref") => `(tactic| (k_here; (with_reducible show wpAny _ _ (call (Value.ref 294) [Value.ref _, Value.int _ _]) _ _ _); k_dflt (cell_ask (formul_c ?h1 ?h2 ?h3 ?h4 ?h5); (case h1 => first | k_mem | assumption | mul_fits); (case h2 => first | k_mem | assumption | mul_fits); (case h3 => first | k_mem | assumption | mul_fits); (case h4 => first | k_mem | assumption | mul_fits); (case h5 => first | k_mem | assumption | mul_fits); intro r9 tl9 h9 tk9 F9 N9 o9; obtain ⟨x9, d9, v9, t1, t2, t3, t4, k9, e1, e2, q1⟩ := o9; subst e1 e2 q1; (try simp only [List.nil_append, List.cons_append] at N9); (try dsimp only [W.CmpBack]); (try k_fold))))
local macro_rules | `(tactic| walk_at "call ref") => `(tactic| (k_here; (with_reducible show wpAny _ _ (call (Value.ref 329) [Value.ref _, Value.ref _]) _ _ _); k_dflt (cell_ask (fodiv_c ?h1 ?h2 ?h3 ?h4 ?h5 ?h6 ?h7 ?h8 ?h9); (case h1 => k_mem); (case h2 => k_mem); (case h3 => k_mem); (case h4 => k_mem);(case h5 => first | assumption | mul_fits); (case h6 => first | assumption | mul_fits); (case h7 => first | assumption | mul_fits); (case h8 => first | assumption | mul_fits); (case h9 => first | assumption | mul_fits); intro r9 tl9 h9 tk9 F9 N9 o9; obtain ⟨x9, d9, v9, t1, t2, t3, t4, k9, e1, e2, i9, q1, q2, q3, q4⟩ := o9; subst e1 e2 q4; (have hiB9 := bd7 q1 (by omega)); (try simp only [List.nil_append, List.cons_append] at N9); (try dsimp only [W.CmpBack]); (try k_fold))))
section
def OTri (P : Params) (p : Int) (V : Int → Int → Int → Prop) (r : Value) (tl : Led) : Prop := ∃ D fx dx fy dy fz dz v u t a1 a2 a3 a4 b1 b2 b3 b4 c1 c2 c3 c4 k l m c, r = .ref D ∧ tl = [(D, tupO [.ref fx, .ref fy, .ref fz] c), (fx, PySem.W.instObj 417 dx), (dx, fqDict P p v a1 a2 a3 a4 k), (fy, PySem.W.instObj 417 dy), (dy, fqDict P p u b1 b2 b3 b4 l), (fz, PySem.W.instObj 417 dz), (dz, fqDict P p t c1 c2 c3 c4 m)] ∧ V v u t
theorem end_tri {P : Params} {p : Int} {h₀ : Heap} {L : Addr} {mp : Str → Option Value} {s : Shared} {Q : Value → Shared → Prop} {news : Led} {V : Int → Int → Int → Prop} (hret : ∀ r tl h' tk', Fr h₀ L h' mp → News h₀ L h' (tl ++ news) → OTri P p V r tl → Q r { s with heap := h', toks := tk' })
    {D fx dx fy dy fz dz : Addr} {v u t : Int} {a1 a2 a3 a4 b1 b2 b3 b4 c1 c2 c3 c4 : Tok} {k l m c : Nat} {h' : Heap} {tk' : Nat} {n1 : Led} (F : Fr h₀ L h' mp) (N : News h₀ L h' n1) (hD : (D, tupO [.ref fx, .ref fy, .ref fz] c) ∈ n1)
    (h1 : (fx, PySem.W.instObj 417 dx) ∈ n1) (h2 : (dx, fqDict P p v a1 a2 a3 a4 k) ∈ n1) (h3 : (fy, PySem.W.instObj 417 dy) ∈ n1) (h4 : (dy, fqDict P p u b1 b2 b3 b4 l) ∈ n1) (h5 : (fz, PySem.W.instObj 417 dz) ∈ n1) (h6 : (dz, fqDict P p t c1 c2 c3 c4 m) ∈ n1) (hs : ∀ p ∈ news, p ∈ n1) (hV : V v u t) : Q (.ref D) { s with heap := h', toks := tk' } :=
  hret _ [(D, tupO [.ref fx, .ref fy, .ref fz] c), (fx, PySem.W.instObj 417 dx), (dx, fqDict P p v a1 a2 a3 a4 k), (fy, PySem.W.instObj 417 dy), (dy, fqDict P p u b1 b2 b3 b4 l), (fz, PySem.W.instObj 417 dz), (dz, fqDict P p t c1 c2 c3 c4 m)] _ _ F (news_sub N (by
    intro q hq
    rcases List.mem_append.mp hq with hq | hq
    · simp only [List.mem_cons, List.not_mem_nil, or_false] at hq
      rcases hq with rfl | rfl | rfl | rfl | rfl | rfl | rfl <;> assumption
    · exact hs q hq)) ⟨D, fx, dx, fy, dy, fz, dz, v, u, t, a1, a2, a3, a4, b1, b2, b3, b4, c1, c2, c3, c4, k, l, m, c, rfl, rfl, hV⟩
local macro_rules | `(tactic| cell_end $hret:term $q:term $s:term) => `(tactic| (refine' end_tri (Q := $q) (s := $s) $hret ?yf ?yn ?yD ?z1 ?z2 ?z3 ?z4 ?z5 ?z6 ?ys ?yp; (case yf => k_asm); (case yn => k_asm); (case yD => k_mem); (case z1 => k_mem); (case z2 => k_mem); (case z3 => k_mem); (case z4 => k_mem); (case z5 => k_mem); (case z6 => k_mem); (case ys => kcj_all)))
set_option maxHeartbeats 8000000 in
theorem opneg_c {w : World} {mean : ExcName → Option Value} {mg mb : Str → Option Value} {news : Led} {P fx fy fz dx dy dz : Addr} {p x y z : Int} {a1 a2 a3 a4 b1 b2 b3 b4 c1 c2 c3 c4 : Tok} {k k1 k2 k3 : Nat}
    (hP : (P, tupO [.ref fx, .ref fy, .ref fz] k) ∈ news)
    (h1 : (fx, PySem.W.instObj 417 dx) ∈ news) (h1d : (dx, fqDict w.params p x a1 a2 a3 a4 k1) ∈ news) (h2 : (fy, PySem.W.instObj 417 dy) ∈ news) (h2d : (dy, fqDict w.params p y b1 b2 b3 b4 k2) ∈ news) (h3 : (fz, PySem.W.instObj 417 dz) ∈ news) (h3d : (dz, fqDict w.params p z c1 c2 c3 c4 k3) ∈ news)
    (hp0 : 0 < p) :
    Con w mean mg mb 449 7 news [.ref P] (OTri w.params p (fun v u t => v = x ∧ u = (-y).fmod p ∧ t = z)) := by
  unfold Con
  k_fill
  intro dp un gd cn cs a' ccd cl outer A₀ base h₀ L m' s Q E B F XX N T hk hd hu hret
  refine wpAny_call ?_
  k_dflt ktr_enter
  k_steps
  all_goals (first | (law_absurd; done) | cell_end hret Q s | w_report)
  exact ⟨rfl, rfl, rfl⟩

end
local macro_rules | `(tactic| cell_end $hret:term $q:term $s:term) => `(tactic| (refine' end_tri (Q := $q) (s := $s) $hret ?yf ?yn ?yD ?z1 ?z2 ?z3 ?z4 ?z5 ?z6 ?ys ?yp; (case yf => k_asm); (case yn => k_asm); (case yD => k_mem); (case z1 => k_mem); (case z2 => k_mem); (case z3 => k_mem); (case z4 => k_mem); (case z5 => k_mem); (case z6 => k_mem); (case ys => kcj_all)))
section
theorem bd_of {v x p : Int} (h : v = x.fmod p) (hB : Bd 7 p) (h0 : 0 < p) : Bd 7 v := h ▸ Bd.fmod hB h0
local macro_rules | `(tactic| walk_at "call ref") => `(tactic| (k_here; (with_reducible show wpAny _ _ (call (Value.ref 417) [Value.int _ _, Value.int _ _]) _ _ _); k_dflt (cell_ask (fonew_c ?h1); (case h1 => first | assumption | mul_fits); intro r9 tl9 h9 tk9 F9 N9 o9; obtain ⟨x9, d9, v9, t1, t2, t3, t4, k9, e1, e2, q1⟩ := o9; subst e1 e2; (have qb9 := bd_of q1 (by assumption) (by assumption)); (try simp only [List.nil_append, List.cons_append] at N9); (try dsimp only [W.CmpBack]); (try k_fold))))
local macro_rules | `(tactic| walk_at "call ref") => `(tactic| (k_here; (with_reducible show wpAny _ _ (call (Value.ref 280) [Value.ref _, Value.ref _]) _ _ _); k_dflt (cell_ask (foadd_c ?h1 ?h2 ?h3 ?h4 ?h5 ?h6 ?h7); (case h1 => k_mem); (case h2 => k_mem); (case h3 => k_mem); (case h4 => k_mem); (case h5 => first | assumption | mul_fits); (case h6 => first | assumption | mul_fits); (case h7 => first | assumption | mul_fits); intro r9 tl9 h9 tk9 F9 N9 o9; obtain ⟨x9, d9, v9, t1, t2, t3, t4, k9, e1, e2, q1⟩ := o9; subst e1 e2; (have qb9 := bd_of q1 (by assumption) (by assumption)); (try simp only [List.nil_append, List.cons_append] at N9); (try dsimp only [W.CmpBack]); (try k_fold))))
local macro_rules | `(tactic| walk_at "call ref") => `(tactic| (k_here; (with_reducible show wpAny _ _ (call (Value.ref 287) [Value.ref _, Value.ref _]) _ _ _); k_dflt (cell_ask (fomul_c ?h1 ?h2 ?h3 ?h4 ?h5 ?h6 ?h7); (case h1 => k_mem); (case h2 => k_mem); (case h3 => k_mem); (case h4 => k_mem); (case h5 => first | assumption | mul_fits); (case h6 => first | assumption | mul_fits); (case h7 => first | assumption | mul_fits); intro r9 tl9 h9 tk9 F9 N9 o9; obtain ⟨x9, d9, v9, t1, t2, t3, t4, k9, e1, e2, q1⟩ := o9; subst e1 e2; (have qb9 := bd_of q1 (by assumption) (by assumption)); (try simp only [List.nil_append, List.cons_append] at N9); (try dsimp only [W.CmpBack]); (try k_fold))))
local macro_rules | `(tactic| walk_at "call ref") => `(tactic| (k_here; (with_reducible show wpAny _ _ (call (Value.ref 315) [Value.ref _, Value.ref _]) _ _ _); k_dflt (cell_ask (fosub_c ?h1 ?h2 ?h3 ?h4 ?h5 ?h6 ?h7); (case h1 => k_mem); (case h2 => k_mem); (case h3 => k_mem); (case h4 => k_mem); (case h5 => first | assumption | mul_fits); (case h6 => first | assumption | mul_fits); (case h7 => first | assumption | mul_fits); intro r9 tl9 h9 tk9 F9 N9 o9; obtain ⟨x9, d9, v9, t1, t2, t3, t4, k9, e1, e2, q1⟩ := o9; subst e1 e2; (have qb9 := bd_of q1 (by assumption) (by assumption)); (try simp only [List.nil_append, List.cons_append] at N9); (try dsimp only [W.CmpBack]); (try k_fold))))
local macro_rules | `(tactic| walk_at "call ref") => `(tactic| (k_here; (with_reducible show wpAny _ _ (call (Value.ref 294) [Value.ref _, Value.int _ _]) _ _ _); k_dflt (cell_ask (formul_c ?h1 ?h2 ?h3 ?h4 ?h5); (case h1 => k_mem); (case h2 => k_mem); (case h3 => first | assumption | mul_fits); (case h4 => first | assumption | mul_fits); (case h5 => first | assumption | mul_fits); intro r9 tl9 h9 tk9 F9 N9 o9; obtain ⟨x9, d9, v9, t1, t2, t3, t4, k9, e1, e2, q1⟩ := o9; subst e1 e2; (have qb9 := bd_of q1 (by assumption) (by assumption)); (try simp only [List.nil_append, List.cons_append] at N9); (try dsimp only [W.CmpBack]); (try k_fold))))
local macro_rules | `(tactic| walk_at "call ref") => `(tactic| (k_here; (with_reducible show wpAny _ _ (call (Value.ref 350) [Value.ref _, Value.ref _]) _ _ _); k_dflt (cell_ask (foeqn_c ?h1 ?h2 ?h3 ?h4 ?h5); (case h1 => k_mem); (case h2 => k_mem); (case h3 => k_mem); (case h4 => k_mem); (case h5 => (subst_vars; assumption)); intro r9 tl9 h9 tk9 F9 N9 o9; obtain ⟨e1, e2⟩ := o9; subst e1 e2; (try simp only [List.nil_append, List.cons_append] at N9); (try dsimp only [W.CmpBack]); (try k_fold))))
set_option maxHeartbeats 16000000 in
theorem opadd_c {w : World} {mean : ExcName → Option Value} {mg mb : Str → Option Value} {news : Led} {P Q fx dx fy dy fz dz ux ex uy ey uz ez : Addr} {i j p n a b gx gy : Int} {X Y : Int → Int}
    {tx1 tx2 tx3 tx4 ty1 ty2 ty3 ty4 tz1 tz2 tz3 tz4 sx1 sx2 sx3 sx4 sy1 sy2 sy3 sy4 sz1 sz2 sz3 sz4 : Tok} {k kx ky kz l lx ly lz : Nat} {x1 y1 z1 x2 y2 z2 : Int}
    (hP : (P, tupO [.ref fx, .ref fy, .ref fz] k) ∈ news) (hfx : (fx, PySem.W.instObj 417 dx) ∈ news) (hdx : (dx, fqDict w.params p x1 tx1 tx2 tx3 tx4 kx) ∈ news) (hfy : (fy, PySem.W.instObj 417 dy) ∈ news) (hdy : (dy, fqDict w.params p y1 ty1 ty2 ty3 ty4 ky) ∈ news) (hfz : (fz, PySem.W.instObj 417 dz) ∈ news) (hdz : (dz, fqDict w.params p z1 tz1 tz2 tz3 tz4 kz) ∈ news)
    (hQ : (Q, tupO [.ref ux, .ref uy, .ref uz] l) ∈ news) (hux : (ux, PySem.W.instObj 417 ex) ∈ news) (hex : (ex, fqDict w.params p x2 sx1 sx2 sx3 sx4 lx) ∈ news) (huy : (uy, PySem.W.instObj 417 ey) ∈ news) (hey : (ey, fqDict w.params p y2 sy1 sy2 sy3 sy4 ly) ∈ news) (huz : (uz, PySem.W.instObj 417 ez) ∈ news) (hez : (ez, fqDict w.params p z2 sz1 sz2 sz3 sz4 lz) ∈ news)
    (c : Crv p n a b gx gy X Y) (hi : 0 < i) (hi' : i < n) (hj : 0 < j) (hj' : j < n) (hij : i ≠ j) (hn : i + j ≠ n)
    (hx1 : (x1 - X i * z1) % p = 0) (hy1 : (y1 - Y i * z1) % p = 0) (hx2 : (x2 - X j * z2) % p = 0) (hy2 : (y2 - Y j * z2) % p = 0) (hz1 : z1 % p ≠ 0) (hz2 : z2 % p ≠ 0)
    (hBx1 : Bd 7 x1) (hBy1 : Bd 7 y1) (hBz1 : Bd 7 z1) (hBx2 : Bd 7 x2) (hBy2 : Bd 7 y2) (hBz2 : Bd 7 z2) :
    Con w mean mg mb 435 12 news [.ref P, .ref Q] (OTri w.params p (fun v u t => Bd 7 v ∧ Bd 7 u ∧ Bd 7 t ∧ t % p ≠ 0 ∧ (v - X ((i + j) % n) * t) % p = 0)) := by
  have hp0 : 0 < p := by have := c.p_lo; omega
  have hpB : Bd 7 p := by have := c.p_hi; exact bd7 (by omega) (by omega)
  have h2B : Bd 7 2 := bd7 (by omega) (by omega)
  have hzz1 : z1 ≠ Int.fmod 0 p := by intro h; apply hz1; rw [h, fmod_mod hp0]; exact Int.zero_emod p
  have hzz2 : z2 ≠ Int.fmod 0 p := by intro h; apply hz2; rw [h, fmod_mod hp0]; exact Int.zero_emod p
  have hVV : (x2 * z1).fmod p ≠ (x1 * z2).fmod p := (fmod_ne hp0 (oadd_ne c hi hi' hj hj' hij hn hx1 hx2 hz1 hz2)).symm
  have fin := fun {U1 U2 V1 V2 U V Vs Vs2 Vc W T1 T2 T3 T4 A nx nz} => @oadd_fin p n a b gx gy X Y c i j x1 y1 z1 x2 y2 z2 U1 U2 V1 V2 U V Vs Vs2 Vc W T1 T2 T3 T4 A nx nz hi hi' hj hj' hij hn hx1 hy1 hx2 hy2 hz1 hz2
  clear c hi hi' hj hj' hij hn hx1 hy1 hx2 hy2 hz1 hz2
  unfold Con
  k_fill
  intro dp un gd cn cs a' ccd cl outer A₀ base h₀ L m' s Q' E B F XX N T hk hd hu hret
  refine wpAny_call ?_
  k_dflt ktr_enter
  k_steps
  all_goals (first | cell_end hret Q' s | (law_absurd; done) | w_report)
  refine ⟨by assumption, by assumption, by assumption, ?_⟩
  exact (fin (by assumption) (by assumption) (by assumption) (by assumption) (by assumption) (by assumption) (by assumption) (by assumption) (by assumption) (by assumption) (by assumption) (by assumption) (by assumption) (by assumption) (by assumption) (by assumption) (by assumption)).2.2

end
section
set_option maxHeartbeats 8000000 in
theorem opnorm_c {w : World} {mean : ExcName → Option Value} {mg mb : Str → Option Value} {news : Led} {P fx fy fz dx dy dz : Addr} {m x y z p n a b gx gy : Int} {X Y : Int → Int} {a1 a2 a3 a4 b1 b2 b3 b4 c1 c2 c3 c4 : Tok} {k k1 k2 k3 : Nat}
    (hP : (P, tupO [.ref fx, .ref fy, .ref fz] k) ∈ news)
    (h1 : (fx, PySem.W.instObj 417 dx) ∈ news) (h1d : (dx, fqDict w.params p x a1 a2 a3 a4 k1) ∈ news) (h2 : (fy, PySem.W.instObj 417 dy) ∈ news) (h2d : (dy, fqDict w.params p y b1 b2 b3 b4 k2) ∈ news) (h3 : (fz, PySem.W.instObj 417 dz) ∈ news) (h3d : (dz, fqDict w.params p z c1 c2 c3 c4 k3) ∈ news)
    (c : Crv p n a b gx gy X Y) (hm : 0 < m) (hm' : m < n) (hz : z % p ≠ 0) (hx : (x - X m * z) % p = 0) (hBx : Bd 7 x) (hBy : Bd 7 y) :
    Con w mean mg mb 442 8 news [.ref P] (OPair 417 w.params p (fun v => v = X m) (fun _ => True)) := by
  have hg : Int.gcd z p = 1 := c.pr _ hz
  have hp0 : 0 < p := by have := c.p_lo; omega
  have hp2 : 2 ≤ p := by have := c.p_lo; omega
  have hp128 : p < 128 := by have := c.p_hi; omega
  have hpB : Bd 7 p := by have := c.p_hi; exact bd7 (by omega) (by omega)
  have fin := fun {e v} => @onorm_fin p n a b gx gy X Y c m x z e v hm hm' hx
  clear c hm hm' hz hx
  unfold Con
  k_fill
  intro dp un gd cn cs a' ccd cl outer A₀ base h₀ L m' s Q E B F XX N T hk hd hu hret
  refine wpAny_call ?_
  k_dflt ktr_enter
  k_steps
  all_goals (first | cell_end hret Q s | (law_absurd; done) | w_report)
  refine ⟨fin ?_ rfl, True.intro⟩
  assumption

end
section
theorem con_useS {w : World} {mean : ExcName → Option Value} {mg mb : Str → Option Value} {f : Addr} {sz : Nat} {news : Led} {l : Addr} {vs : List Value} {Out : Value → Led → Prop} {items : List Value} {ns : List Int}
    {dp un : Nat} {gd : Option (List Code)} {cn : Str} {cs : Scope} {a : Addr} {ccd : Value} {cl : List (Str × Addr)} {outer : List Env} {A₀ : Around} {base h₀ : Heap} {L : Addr} {m : Str → Option Value} {s : Shared} {Q E : Value → Shared → Prop}
    (C : ConS w mean mg mb f sz news l vs Out) (B : Below A₀ base outer h₀) (F : Fr h₀ L s.heap m) (X : (hd.heap_39 w.params).In h₀) (N : News h₀ L s.heap news)
    (T : Top hd.view_39 (looseW hd.view_39 [Str.ofString "add_secp256k1", Str.ofString "double_bn128_curve", Str.ofString "add_bn128_curve", Str.ofString "neg_bn128_curve", Str.ofString "FQ", Str.ofString "FQ_field_elements", Str.ofString "FQ_optimized_field_elements", Str.ofString "double_optimized_curve", Str.ofString "add_optimized_curve", Str.ofString "neg_optimized_curve"]) mean mg mb h₀)
    (hk : cs.kind = .function) (hdp : dp + sz < recursionLimit) (hun : un + 8 * sz < cLine) (hL : h₀.IsList l items.toArray) (hI : IntsAre items ns) (hlen : ns.length ≤ 63)
    (ret : ∀ r tl h' tk', Fr h₀ L h' m → News h₀ L h' (tl ++ news) → Out r tl → Q r { s with heap := h', toks := tk' }) :
    wpAny (model PySem.Challenge.rw_bw0040_01.row.prog w) (ktrTop dp un gd cn cs L a ccd cl outer) (call (.ref f) vs) Q E s :=
  C _ _ _ _ _ _ _ _ _ _ _ _ _ _ _ _ _ _ _ hL hI hlen B F X N T hk hdp hun ret
theorem curve_item {prog : Program} {w : World} {A : Around} {E : Value → Shared → Prop} {s : Shared} {h₀ : Heap} {L l : Addr} {ns tl : Led} {value slice : PySem.Expr} {vals : List Value} {k : Nat} {x : Int} {u : Tok} {Q : Value → Shared → Prop}
    (N : News h₀ L s.heap ns) (hm : (l, PySem.W.listOf vals.toArray k) ∈ ns) (hl : vals.length = 13) (hc : ∀ (i : Nat) (v : Value), vals[i]? = some v → CurveIn tl v) (h0 : 0 ≤ x) (h1 : x < 13)
    (h : ∀ D p n a b gx gy X Y t1 t2 t3 t4 t5 t6 k, (D, tupO [.int p t1, .int n t2, .int a t3, .int b t4, .int gx t5, .int gy t6] k) ∈ tl → Crv p n a b gx gy X Y → Q (.ref D) s)
    (hs : subscripted slice false (.ref l) (.int x u) = operate [.ref l, .int x u] (getItem (.ref l) (.int x u)) := by with_unfolding_all rfl) :
    wpAny (model prog w) A (subscriptTail value slice (.ref l) (.int x u)) Q E s := by
  have hk : x.toNat < vals.length := by omega
  have e : vals[x.toNat]? = some vals[x.toNat] := List.getElem?_eq_getElem hk
  obtain ⟨D, p, n, a, b, gx, gy, t1, t2, t3, t4, t5, t6, k', e1, hD, X, Y, c⟩ := hc _ _ e
  have il := N.isList hm
  refine tail_any il.typeIs slot_list_getitem.lookup (wpAny_getItem_list il h0 (by omega) (x := .ref D) ?_ (h _ _ _ _ _ _ _ _ _ _ _ _ _ _ _ _ hD c)) hs
  rw [← e1]; simp [e]
theorem at13 (v : Int) : 0 ≤ v.fmod 13 ∧ v.fmod 13 < 13 := fmod_rng (by omega)
theorem m_lo {v n : Int} (hn : 13 ≤ n) : 0 ≤ 1 + v.fmod (n - 1) ∧ 1 + v.fmod (n - 1) < 2 * n ∧ (1 + v.fmod (n - 1)) % n ≠ 0 ∧ 0 < 1 + v.fmod (n - 1) ∧ 1 + v.fmod (n - 1) < n := by
  have q := fmod_rng (x := v) (show 0 < n - 1 by omega)
  have e : (1 + v.fmod (n - 1)) % n = 1 + v.fmod (n - 1) := emod_small (by omega) (by omega)
  omega
theorem pt_c {w : World} {mean : ExcName → Option Value} {mg mb : Str → Option Value} {news : Led} {P C : Addr} {v p n a b gx gy : Int} {X Y : Int → Int} {u1 u2 v1 v2 v3 v4 v5 v6 tm : Tok} {k1 k2 : Nat}
    (hP : (P, tupO [.int gx u1, .int gy u2] k1) ∈ news) (hC : (C, tupO [.int p v1, .int n v2, .int a v3, .int b v4, .int gx v5, .int gy v6] k2) ∈ news)
    (c : Crv p n a b gx gy X Y) :
    Con w mean mg mb 70 10 news [.ref P, .int (1 + v.fmod (n - 1)) tm, .ref C] (OTup2 (fun x y => ∃ i, 0 < i ∧ i < n ∧ x = X i ∧ y = Y i)) := by
  have hn := c.n_lo
  obtain ⟨q1, q2, q3, q4, q5⟩ := m_lo (v := v) hn
  refine con_mono (multiply_c hP hC c (i := 1) (by omega) (by omega) c.oneX.symm c.oneY.symm q1 q2) (by omega) ?_
  rintro r tl ⟨D, t1, t2, k, x, y, e1, e2, q⟩
  refine ⟨D, t1, t2, k, x, y, e1, e2, ?_⟩
  rcases q with ⟨h, _⟩ | ⟨_, hx, hy⟩
  · exact absurd h q3
  · rw [Int.one_mul, emod_small (by omega) q5] at hx hy
    exact ⟨_, q4, q5, hx, hy⟩
theorem cnt_lo {v n : Int} (hn : 13 ≤ n) : 0 ≤ v.fmod (2 * n) ∧ v.fmod (2 * n) < 2 * n := fmod_rng (by omega)
theorem tup_slice4 {prog : Program} {w : World} {A : Around} {E : Value → Shared → Prop} {s : Shared} {h₀ : Heap} {L t : Addr} {m : Str → Option Value} {news : Led} {value slice : PySem.Expr} {x0 x1 x2 x3 x4 x5 : Value} {k : Nat} {u : Tok} {Q : Value → Shared → Prop}
    (F : Fr h₀ L s.heap m) (N : News h₀ L s.heap news) (hm : (t, tupO [x0, x1, x2, x3, x4, x5] k) ∈ news)
    (h : ∀ D h', Fr h₀ L h' m → News h₀ L h' ((D, tupO [x4, x5] 0) :: news) → (∀ p ∈ news, p.1 < D) → Q (.ref D) { s with heap := h' })
    (hs : subscripted slice false (.ref t) (.ref s.heap.objs.size) = operate [.ref s.heap.objs.size, .ref t] (getItem (.ref t) (.ref s.heap.objs.size)))
    (hg : ∀ r, letTemporaryGo value (.ref t) r = pure ()) :
    wpAny (model prog w) A (subscriptTail value slice (.ref t) (.ref s.heap.objs.size)) Q E { s with heap := s.heap.push { cls := .type "slice", data := .fields #[.int 4 u, .none, .none] } } :=
  slice_tuple_from F N (N.isTup hm) (a := 4) (by decide) (Nat.le_of_ble_eq_true rfl) (fun h' F' N' => h _ h' F' N' fun p hp => Nat.lt_succ_of_lt (Heap.lt_size (N p hp).1)) hs hg (Nat.le_of_ble_eq_true rfl)

end
local macro_rules | `(tactic| walk_at "call ref") => `(tactic| (k_here; (with_reducible show wpAny _ _ (call (Value.ref 463) _) _ _ _); k_dflt (refine' con_useS (at_c ?h1 ?h2) ?k1 ?k2 ?k3 ?k4 ?k5 ?k6 ?kd ?ku ?j1 ?j2 ?j3 ?_; (case k1 => k_asm); (case k2 => k_asm); (case k3 => k_asm); (case k4 => k_asm); (case k5 => k_asm); (case k6 => first | exact rfl | assumption); (case kd => ktr_room); (case ku => ktr_units); (case j1 => assumption); (case j2 => assumption); (case j3 => omega); (case h1 => decide); (case h2 => decide); intro r9 tl9 h9 tk9 F9 N9 o9; obtain ⟨e1, v9, t9, e2, q1, q2⟩ := o9; subst e1 e2; (try simp only [List.nil_append] at N9); (try dsimp only); (try k_fold))))
local macro_rules | `(tactic| walk_at "call ref") => `(tactic| (k_here; (with_reducible show wpAny _ _ (call (Value.ref 456) _) _ _ _); k_dflt (cell_ask curves_c; intro r9 tl9 h9 tk9 F9 N9 o9; obtain ⟨l9, vals9, k9, e1, hm9, hl9, hc9⟩ := o9; subst e1; (try simp only [List.append_nil] at N9); (try dsimp only); (try k_fold))))
local macro_rules | `(tactic| walk_at "eval Call") => `(tactic| (k_here; (with_reducible show wpAny _ _ (eval (Expr.Call _ _ _ _) _) _ _ _); k_dflt (refine Call_ ?_)))
local macro_rules | `(tactic| walk_at "subscriptTail Name Slice ref ref") => `(tactic| (k_here; (with_reducible show wpAny _ _ (subscriptTail _ (PySem.Expr.Slice _ _ none _) (Value.ref _) (Value.ref _)) _ _ _); k_dflt (refine' tup_slice4 ?F ?N ?l ?_ ?s ?t; (case F => k_asm); (case N => k_asm); (case l => k_mem); (case s => with_unfolding_all rfl); (case t => kmk_pure)); intro D' h' F' N' l1; (try k_lt l1); (try k_sweep)))
section
def Pt (n : Int) (X Y : Int → Int) (i x y : Int) : Prop := 0 < i ∧ i < n ∧ x = X i ∧ y = Y i
section
variable {p n a b gx gy : Int} {X Y : Int → Int}
theorem Pt.rng (c : Crv p n a b gx gy X Y) {i x y : Int} (h : Pt n X Y i x y) : (0 ≤ x ∧ x < p) ∧ (0 < y ∧ y < p) ∧ Bd 7 x ∧ Bd 7 y := by
  obtain ⟨h1, h2, rfl, rfl⟩ := h
  have q := c.rng i h1 h2
  have := c.p_hi
  exact ⟨⟨q.1, q.2.1⟩, ⟨q.2.2.1, q.2.2.2⟩, bd7 q.1 (by omega), bd7 (by omega) (by omega)⟩
theorem Pt.neg (c : Crv p n a b gx gy X Y) {i x y : Int} (h : Pt n X Y i x y) : Pt n X Y (n - i) x (p - y) := by
  obtain ⟨h1, h2, rfl, rfl⟩ := h
  obtain ⟨e1, e2⟩ := c.neg i h1 h2
  exact ⟨by omega, by omega, e1.symm, e2.symm⟩
theorem Pt.apart (c : Crv p n a b gx gy X Y) {i j x y x' y' : Int} (h : Pt n X Y i x y) (h' : Pt n X Y j x' y') (hne : ¬ x = x') : i ≠ j ∧ i + j ≠ n := by
  obtain ⟨h1, h2, rfl, rfl⟩ := h
  obtain ⟨g1, g2, rfl, rfl⟩ := h'
  refine ⟨fun e => hne (by rw [e]), fun e => hne ?_⟩
  have e3 : j = n - i := by omega
  rw [e3, (c.neg i h1 h2).1]
theorem Pt.same (c : Crv p n a b gx gy X Y) {i j x y x' y' : Int} (h : Pt n X Y i x y) (h' : Pt n X Y j x' y') (he : x = x') : y' = y ∨ y' = p - y := by
  obtain ⟨h1, h2, rfl, rfl⟩ := h
  obtain ⟨g1, g2, rfl, rfl⟩ := h'
  by_cases e : i = j
  · left; rw [e]
  by_cases e2 : i + j = n
  · right
    have e3 : j = n - i := by omega
    rw [e3, (c.neg i h1 h2).2]
  · exact absurd he (c.add i j h1 h2 g1 g2 e e2).1
theorem Pt.bdx (c : Crv p n a b gx gy X Y) {i j : Int} (hi : 0 < i) (hi' : i < n) (hj : 0 < j) (hj' : j < n) (hn : i + j ≠ n) : (0 ≤ X ((i + j) % n) ∧ X ((i + j) % n) < p) ∧ Bd 7 (X ((i + j) % n)) := by
  obtain ⟨s0, s1⟩ := c.idxA hi hi' hj hj' hn
  have q := c.rng _ s0 s1
  have := c.p_hi
  exact ⟨⟨q.1, q.2.1⟩, bd7 q.1 (by omega)⟩
theorem crv_facts (c : Crv p n a b gx gy X Y) : 0 < p ∧ 2 ≤ p ∧ p < 128 ∧ 0 < p - 1 ∧ Bd 7 p ∧ 13 ≤ n ∧ n ≤ 127 := by
  have := c.p_lo; have := c.p_hi; have := c.n_lo; have := c.n_hi
  exact ⟨by omega, by omega, by omega, by omega, bd7 (by omega) (by omega), by omega, by omega⟩
end
theorem ptq_c {w : World} {mean : ExcName → Option Value} {mg mb : Str → Option Value} {news : Led} {P C : Addr} {v p n a b gx gy : Int} {X Y : Int → Int} {u1 u2 v1 v2 v3 v4 v5 v6 tm : Tok} {k1 k2 : Nat}
    (hP : (P, tupO [.int gx u1, .int gy u2] k1) ∈ news) (hC : (C, tupO [.int p v1, .int n v2, .int a v3, .int b v4, .int gx v5, .int gy v6] k2) ∈ news)
    (c : Crv p n a b gx gy X Y) :
    Con w mean mg mb 70 10 news [.ref P, .int (1 + v.fmod (n - 1)) tm, .ref C] (OTup2 (fun x y => (∃ i, Pt n X Y i x y) ∧ (0 ≤ x ∧ x < p) ∧ (0 < y ∧ y < p) ∧ Bd 7 x ∧ Bd 7 y)) := by
  refine con_mono (pt_c hP hC c) (Nat.le_refl _) ?_
  rintro r tl ⟨D, t1, t2, k, x, y, e1, e2, i, q⟩
  exact ⟨D, t1, t2, k, x, y, e1, e2, ⟨i, q⟩, Pt.rng c q⟩
/-- the count's multiple, where it is the point at infinity or not -/
theorem cntM_c {w : World} {mean : ExcName → Option Value} {mg mb : Str → Option Value} {news : Led} {P C : Addr} {i x y v p n a b gx gy : Int} {X Y : Int → Int} {u1 u2 v1 v2 v3 v4 v5 v6 tm : Tok} {k1 k2 : Nat}
    (hP : (P, tupO [.int x u1, .int y u2] k1) ∈ news) (hC : (C, tupO [.int p v1, .int n v2, .int a v3, .int b v4, .int gx v5, .int gy v6] k2) ∈ news)
    (c : Crv p n a b gx gy X Y) (h : Pt n X Y i x y) :
    Con w mean mg mb 70 10 news [.ref P, .int (v.fmod (2 * n)) tm, .ref C] (OTup2 (fun x' y' => (v.fmod (2 * n) % n = 0 ∧ x' = 0 ∧ y' = 0) ∨ (v.fmod (2 * n) % n ≠ 0 ∧ x' = X ((i * v.fmod (2 * n)) % n) ∧ ¬ y' = 0))) := by
  obtain ⟨h1, h2, hx, hy⟩ := h
  have hn := c.n_lo
  obtain ⟨q1, q2⟩ := cnt_lo (v := v) hn
  refine con_mono (multiply_c hP hC c h1 h2 hx hy q1 q2) (Nat.le_refl _) ?_
  rintro r tl ⟨D, t1, t2, k, x', y', e1, e2, q⟩
  refine ⟨D, t1, t2, k, x', y', e1, e2, ?_⟩
  rcases q with q | ⟨z, hx', hy'⟩
  · exact .inl q
  · refine .inr ⟨z, hx', ?_⟩
    obtain ⟨s0, s1⟩ := c.idxM h1 h2 z
    have q := c.rng _ s0 s1
    omega
theorem ladN_c {w : World} {mean : ExcName → Option Value} {mg mb : Str → Option Value} {news : Led} {C : Addr} {i x y v p n a b gx gy : Int} {X Y : Int → Int} {u1 u2 v1 v2 v3 v4 v5 v6 : Tok} {k2 : Nat}
    (hC : (C, tupO [.int p v1, .int n v2, .int a v3, .int b v4, .int gx v5, .int gy v6] k2) ∈ news)
    (c : Crv p n a b gx gy X Y) (h : Pt n X Y i x y) (hz : v.fmod (2 * n) % n = 0) :
    Con w mean mg mb 484 3 news [.int x u1, .int (v.fmod (2 * n)) u2, .ref C] (fun r tl => tl = [] ∧ r = .none) := by
  obtain ⟨h1, h2, hx, hy⟩ := h
  have hn := c.n_lo; have hn' := c.n_hi
  obtain ⟨q1, q2⟩ := cnt_lo (v := v) hn
  refine con_mono (ladder_c hC c h1 h2 hx q1 (by omega)) (Nat.le_refl _) ?_
  rintro r tl ⟨e1, ⟨_, e2⟩ | ⟨z, _⟩⟩
  · exact ⟨e1, e2⟩
  · exact absurd hz z
theorem ladS_c {w : World} {mean : ExcName → Option Value} {mg mb : Str → Option Value} {news : Led} {C : Addr} {i x y v p n a b gx gy : Int} {X Y : Int → Int} {u1 u2 v1 v2 v3 v4 v5 v6 : Tok} {k2 : Nat}
    (hC : (C, tupO [.int p v1, .int n v2, .int a v3, .int b v4, .int gx v5, .int gy v6] k2) ∈ news)
    (c : Crv p n a b gx gy X Y) (h : Pt n X Y i x y) (hz : v.fmod (2 * n) % n ≠ 0) :
    Con w mean mg mb 484 3 news [.int x u1, .int (v.fmod (2 * n)) u2, .ref C] (fun r tl => tl = [] ∧ ∃ t, r = .int (X ((i * v.fmod (2 * n)) % n)) t) := by
  obtain ⟨h1, h2, hx, hy⟩ := h
  have hn := c.n_lo; have hn' := c.n_hi
  obtain ⟨q1, q2⟩ := cnt_lo (v := v) hn
  refine con_mono (ladder_c hC c h1 h2 hx q1 (by omega)) (Nat.le_refl _) ?_
  rintro r tl ⟨e1, ⟨z, _⟩ | ⟨_, e2⟩⟩
  · exact absurd z hz
  · exact ⟨e1, e2⟩
theorem bothL_c {w : World} {mean : ExcName → Option Value} {mg mb : Str → Option Value} {news : Led} {C : Addr} {i j x1 x2 y1 y2 p n a b gx gy : Int} {X Y : Int → Int} {u1 u2 v1 v2 v3 v4 v5 v6 : Tok} {k2 : Nat}
    (hC : (C, tupO [.int p v1, .int n v2, .int a v3, .int b v4, .int gx v5, .int gy v6] k2) ∈ news)
    (c : Crv p n a b gx gy X Y) (h : Pt n X Y i x1 y1) (h' : Pt n X Y j x2 y2) (hne : ¬ x1 = x2) :
    Con w mean mg mb 491 1 news [.int x1 u1, .int x2 u2, .ref C] (OTup2 fun s t => s = (X ((i+j)%n) + X ((i+(n-j))%n)).fmod p ∧ t = (X ((i+j)%n) * X ((i+(n-j))%n)).fmod p) := by
  obtain ⟨a1, a2⟩ := Pt.apart c h h' hne
  exact both_c hC c h.1 h.2.1 h'.1 h'.2.1 a1 a2 h.2.2.1 h'.2.2.1
/-- the sum, and that with the other's negative -/
theorem addL_c {w : World} {mean : ExcName → Option Value} {mg mb : Str → Option Value} {news : Led} {P P' C : Addr} {i j x y x' y' p n a b gx gy : Int} {X Y : Int → Int} {u1 u2 w1 w2 v1 v2 v3 v4 v5 v6 : Tok} {k1 k2 k3 : Nat}
    (hP : (P, tupO [.int x u1, .int y u2] k1) ∈ news) (hP' : (P', tupO [.int x' w1, .int y' w2] k3) ∈ news) (hC : (C, tupO [.int p v1, .int n v2, .int a v3, .int b v4, .int gx v5, .int gy v6] k2) ∈ news)
    (c : Crv p n a b gx gy X Y) (h : Pt n X Y i x y) (h' : Pt n X Y j x' y') (hne : ¬ x = x') :
    Con w mean mg mb 77 4 news [.ref P, .ref P', .ref C] (OTup2 fun x' y' => x' = X ((i + j) % n) ∧ Bd 7 x') := by
  obtain ⟨a1, a2⟩ := Pt.apart c h h' hne
  refine con_mono (addsecp_c hP hP' hC c h.1 h.2.1 h'.1 h'.2.1 a1 a2 h.2.2.1 h.2.2.2 h'.2.2.1 h'.2.2.2) (Nat.le_refl _) ?_
  rintro r tl ⟨D, t1, t2, k, x, y, e1, e2, q1, q2⟩
  exact ⟨D, t1, t2, k, x, y, e1, e2, q1, q1 ▸ (Pt.bdx c h.1 h.2.1 h'.1 h'.2.1 a2).2⟩
theorem pt_in {prog : Program} {w : World} {A : Around} {E : Value → Shared → Prop} {s : Shared} {h₀ : Heap} {L T D D' F : Addr} {news : Led} {x y x' y' z : Int} {t1 t2 t3 t4 t5 t6 : Tok} {k k1 k2 k3 : Nat} {Q : Value → Shared → Prop}
    (N : News h₀ L s.heap news) (hT : (T, tupO [.ref D, .ref F] k) ∈ news) (hD : (D, tupO [.int x t1, .int y t2] k1) ∈ news) (hF : (F, tupO [.int x t3, .int z t4] k2) ∈ news) (hO : (D', tupO [.int x' t5, .int y' t6] k3) ∈ news)
    (he : x = x') (hy : y' = y ∨ y' = z) (hu : A.units + 64 < cLine) (h : Q (.bool true) s) : wpAny (model prog w) A (compareOp .In (.ref D') (.ref T)) Q E s := by
  have r1 : Reads s.heap (.ref D) (.tuple [.int x, .int y]) _ := reads_tuple_at (N.get hD) rfl rfl (ReadsAll.cons (Reads.int x t1) (ReadsAll.cons (Reads.int y t2) ReadsAll.nil))
  have r2 : Reads s.heap (.ref F) (.tuple [.int x, .int z]) _ := reads_tuple_at (N.get hF) rfl rfl (ReadsAll.cons (Reads.int x t3) (ReadsAll.cons (Reads.int z t4) ReadsAll.nil))
  have r3 : Reads s.heap (.ref D') (.tuple [.int x', .int y']) _ := reads_tuple_at (N.get hO) rfl rfl (ReadsAll.cons (Reads.int x' t5) (ReadsAll.cons (Reads.int y' t6) ReadsAll.nil))
  have r4 : Reads s.heap (.ref T) (.tuple [.tuple [.int x, .int y], .tuple [.int x, .int z]]) _ := reads_tuple_at (N.get hT) rfl rfl (ReadsAll.cons r1 (ReadsAll.cons r2 ReadsAll.nil))
  refine SeqAt.in_tuple_reads r4 r3 ?_ ?_ ?_ ?_
  · rfl
  · rfl
  · have e : min (PyData.depthAll [.tuple [.int x, .int y], .tuple [.int x, .int z]]) (PyData.depth (.tuple [.int x', .int y'])) ≤ 2 := Nat.le_trans (Nat.min_le_right _ _) (by simp [PyData.depth, PyData.depthAll])
    omega
  · have e : ([PyData.tuple [.int x, .int y], .tuple [.int x, .int z]].any fun q => PyData.eqv q (.tuple [.int x', .int y'])) = true := by
      subst he
      rcases hy with rfl | rfl <;> simp [PyData.eqv, PyData.eqvAll]
    rw [e]; exact h

end
local macro_rules | `(tactic| walk_at "subscriptTail") => `(tactic| (k_here; (with_reducible show wpAny _ _ (subscriptTail _ _ (Value.ref _) (Value.int (Int.fmod _ 13) _)) _ _ _); k_dflt (refine' curve_item ?k1 ?k2 ?k3 ?k4 ?k5 ?k6 ?_ ?ks; (case k1 => k_asm); (case k2 => assumption); (case k3 => assumption); (case k4 => assumption); (case k5 => exact (at13 _).1); (case k6 => exact (at13 _).2); (case ks => with_unfolding_all rfl); intro D9 p9 n9 a9 b9 gx9 gy9 X9 Y9 t1 t2 t3 t4 t5 t6 k9 hD9 c9; obtain ⟨f1, f2, f3, f4, f5, f6, f7⟩ := crv_facts c9; (try dsimp only); (try k_fold))))
local macro_rules | `(tactic| walk_at "call ref") => `(tactic| (k_here; (with_reducible show wpAny _ _ (call (Value.ref 70) [Value.ref _, Value.int (1 + Int.fmod _ _) _, Value.ref _]) _ _ _); k_dflt (cell_ask (ptq_c ?h1 ?h2 ?h3); (case h1 => k_mem); (case h2 => k_mem); (case h3 => assumption); intro r9 tl9 h9 tk9 F9 N9 o9; obtain ⟨D9, t1, t2, c9, x9, y9, e1, e2, ⟨i9, q0⟩, ⟨q1, q2⟩, ⟨q3, q4⟩, q5, q6⟩ := o9; subst e1 e2; (try simp only [List.nil_append, List.cons_append] at N9); (try dsimp only); (try k_fold))))
local macro_rules | `(tactic| walk_at "call ref") => `(tactic| (k_here; (with_reducible show wpAny _ _ (call (Value.ref 70) [Value.ref _, Value.int (Int.fmod _ (2 * _)) _, Value.ref _]) _ _ _); k_dflt (cell_ask (cntM_c ?h1 ?h2 ?h3 ?h4); (case h1 => k_mem); (case h2 => k_mem); (case h3 => assumption); (case h4 => assumption); intro r9 tl9 h9 tk9 F9 N9 o9; obtain ⟨D9, t1, t2, c9, x9, y9, e1, e2, q0⟩ := o9; subst e1 e2; (try simp only [List.nil_append, List.cons_append] at N9); (rcases q0 with ⟨q1, q2, q3⟩ | ⟨q1, q2, q3⟩); (case' inl => subst q2 q3); (case' inr => subst q2); all_goals ((try dsimp only); (try k_fold)))))
local macro_rules | `(tactic| walk_at "call ref") => `(tactic| (k_here; (with_reducible show wpAny _ _ (call (Value.ref 484) _) _ _ _); k_dflt (cell_ask (ladS_c ?h1 ?h2 ?h3 ?h4); (case h1 => k_mem); (case h2 => assumption); (case h3 => assumption); (case h4 => assumption); intro r9 tl9 h9 tk9 F9 N9 o9; obtain ⟨e1, t9, e2⟩ := o9; subst e1 e2; (try simp only [List.nil_append] at N9); (try dsimp only); (try k_fold))))
local macro_rules | `(tactic| walk_at "call ref") => `(tactic| (k_here; (with_reducible show wpAny _ _ (call (Value.ref 484) _) _ _ _); k_dflt (cell_ask (ladN_c ?h1 ?h2 ?h3 ?h4); (case h1 => k_mem); (case h2 => assumption); (case h3 => assumption); (case h4 => assumption); intro r9 tl9 h9 tk9 F9 N9 o9; obtain ⟨e1, e2⟩ := o9; subst e1 e2; (try simp only [List.nil_append] at N9); (try dsimp only); (try k_fold))))
local macro_rules | `(tactic| walk_at "call ref") => `(tactic| (k_here; (with_reducible show wpAny _ _ (call (Value.ref 491) _) _ _ _); k_dflt (cell_ask (bothL_c ?h1 ?h2 ?h3 ?h4 ?h5); (case h1 => k_mem); (case h2 => assumption); (case h5 => assumption); (case h3 => assumption); (case h4 => assumption); intro r9 tl9 h9 tk9 F9 N9 o9; obtain ⟨D9, t1, t2, c9, x9, y9, e1, e2, q1, q2⟩ := o9; subst e1 e2 q1 q2; (try simp only [List.nil_append, List.cons_append] at N9); (try dsimp only); (try k_fold))))
local macro_rules | `(tactic| walk_at "call ref") => `(tactic| (k_here; (with_reducible show wpAny _ _ (call (Value.ref 77) _) _ _ _); k_dflt (cell_ask (addL_c ?h1 ?h2 ?h3 ?h4 ?h5 ?h6 ?h7); (case h1 => k_mem); (case h2 => k_mem); (case h3 => k_mem); (case h4 => assumption); (case h5 => assumption); (case h6 => first | assumption | exact Pt.neg (by assumption) (by assumption)); (case h7 => assumption); intro r9 tl9 h9 tk9 F9 N9 o9; obtain ⟨D9, t1, t2, c9, x9, y9, e1, e2, q1, q2⟩ := o9; subst e1 e2 q1; (try simp only [List.nil_append, List.cons_append] at N9); (try dsimp only); (try k_fold))))
local macro_rules | `(tactic| walk_at "compareOp In ref ref") => `(tactic| (k_here; (with_reducible show wpAny _ _ (compareOp CmpOp.In (Value.ref _) (Value.ref _)) _ _ _); k_dflt (refine' pt_in ?N ?a ?b ?c ?d ?e ?f ?g ?_; (case N => k_asm); (case a => k_mem); (case b => k_mem); (case c => k_mem); (case d => k_mem); (case e => first | assumption | rfl); (case f => exact Pt.same (by assumption) (by assumption) (by assumption) (by first | assumption | rfl)); (case g => ke_room); k_whole)))
section
theorem fmod_small {v p : Int} (h0 : 0 ≤ v) (h1 : v < p) : v.fmod p = v := by rw [fmod_e (by omega)]; exact emod_small h0 h1
theorem fmod_negv {y p : Int} (h0 : 0 < y) (h1 : y < p) : (-y).fmod p = p - y := by
  rw [fmod_e (by omega)]
  have e : -y = (p - y) + p * (-1) := by omega
  rw [e, Int.add_mul_emod_self_left]; exact emod_small (by omega) (by omega)
theorem fqnewS_c {w : World} {mean : ExcName → Option Value} {mg mb : Str → Option Value} {news : Led} {v p : Int} {u1 u2 : Tok} (h0 : 0 ≤ v) (h1 : v < p) :
    Con w mean mg mb 255 2 news [.int v u1, .int p u2] (OFq 255 w.params p fun r => r = v) := by
  have := fqnew_c (w := w) (mean := mean) (mg := mg) (mb := mb) (news := news) (v := v) (u1 := u1) (u2 := u2) (show 0 < p by omega)
  rwa [fmod_small h0 h1] at this
theorem bnnegS_c {w : World} {mean : ExcName → Option Value} {mg mb : Str → Option Value} {news : Led} {P fx1 fy1 dx1 dy1 : Addr} {p x1 y1 : Int} {a1 a2 a3 a4 b1 b2 b3 b4 : Tok} {k1 k3 k4 : Nat}
    (hP : (P, tupO [.ref fx1, .ref fy1] k1) ∈ news)
    (h1 : (fx1, PySem.W.instObj 255 dx1) ∈ news) (h1d : (dx1, fqDict w.params p x1 a1 a2 a3 a4 k3) ∈ news) (h2 : (fy1, PySem.W.instObj 255 dy1) ∈ news) (h2d : (dy1, fqDict w.params p y1 b1 b2 b3 b4 k4) ∈ news)
    (h3 : 0 < y1) (h4 : y1 < p) :
    Con w mean mg mb 105 7 news [.ref P] (OPair 255 w.params p (fun v => x1 = v) (fun u => p - y1 = u)) := by
  refine con_mono (bnneg_c hP h1 h1d h2 h2d (show 0 < p by omega)) (Nat.le_refl _) ?_
  rintro r tl ⟨D, fx, dx, fy, dy, v, u, t1, t2, t3, t4, s1, s2, s3, s4, k, l, c', e1, e2, q, q'⟩
  exact ⟨D, fx, dx, fy, dy, v, u, t1, t2, t3, t4, s1, s2, s3, s4, k, l, c', e1, e2, q.symm, by rw [q', fmod_negv h3 h4]⟩
theorem bnaddL_c {w : World} {mean : ExcName → Option Value} {mg mb : Str → Option Value} {news : Led} {P P' fx1 fy1 fx2 fy2 dx1 dy1 dx2 dy2 : Addr} {i j p n a b gx gy : Int} {X Y : Int → Int}
    {a1 a2 a3 a4 b1 b2 b3 b4 c1 c2 c3 c4 d1 d2 d3 d4 : Tok} {k1 k2 k3 k4 k5 k6 : Nat} {x1 y1 x2 y2 : Int}
    (hP : (P, tupO [.ref fx1, .ref fy1] k1) ∈ news) (hP' : (P', tupO [.ref fx2, .ref fy2] k2) ∈ news)
    (h1 : (fx1, PySem.W.instObj 255 dx1) ∈ news) (h1d : (dx1, fqDict w.params p x1 a1 a2 a3 a4 k3) ∈ news) (h2 : (fy1, PySem.W.instObj 255 dy1) ∈ news) (h2d : (dy1, fqDict w.params p y1 b1 b2 b3 b4 k4) ∈ news)
    (h3 : (fx2, PySem.W.instObj 255 dx2) ∈ news) (h3d : (dx2, fqDict w.params p x2 c1 c2 c3 c4 k5) ∈ news) (h4 : (fy2, PySem.W.instObj 255 dy2) ∈ news) (h4d : (dy2, fqDict w.params p y2 d1 d2 d3 d4 k6) ∈ news)
    (c : Crv p n a b gx gy X Y) (h : Pt n X Y i x1 y1) (h' : Pt n X Y j x2 y2) (hne : ¬ x1 = x2) :
    Con w mean mg mb 98 12 news [.ref P, .ref P'] (OPair 255 w.params p (fun v => v = X ((i + j) % n) ∧ Bd 7 v) (fun _ => True)) := by
  obtain ⟨q1, q2⟩ := Pt.apart c h h' hne
  refine con_mono (bnadd_c hP hP' h1 h1d h2 h2d h3 h3d h4 h4d c h.1 h.2.1 h'.1 h'.2.1 q1 q2 h.2.2.1 h.2.2.2 h'.2.2.1 h'.2.2.2) (Nat.le_refl _) ?_
  rintro r tl ⟨D, fx, dx, fy, dy, v, u, t1, t2, t3, t4, s1, s2, s3, s4, k, l, c', e1, e2, q, _⟩
  exact ⟨D, fx, dx, fy, dy, v, u, t1, t2, t3, t4, s1, s2, s3, s4, k, l, c', e1, e2, ⟨q, q ▸ (Pt.bdx c h.1 h.2.1 h'.1 h'.2.1 q2).2⟩, True.intro⟩

end
local macro_rules | `(tactic| walk_at "call ref") => `(tactic| (k_here; (with_reducible show wpAny _ _ (call (Value.ref 255) [Value.int _ _, Value.int _ _]) _ _ _); k_dflt (cell_ask (fqnewS_c ?h1 ?h2);  (case h1 => first | assumption | exact Int.le_of_lt (by assumption)); (case h2 => assumption); intro r9 tl9 h9 tk9 F9 N9 o9; obtain ⟨x9, d9, v9, t1, t2, t3, t4, k9, e1, e2, q1⟩ := o9; subst e1 e2 q1; (try simp only [List.nil_append, List.cons_append] at N9); (try dsimp only); (try k_fold))))
local macro_rules | `(tactic| walk_at "call ref") => `(tactic| (k_here; (with_reducible show wpAny _ _ (call (Value.ref 105) _) _ _ _); k_dflt (cell_ask (bnnegS_c ?h1 ?h2 ?h3 ?h4 ?h5 ?h6 ?h7); (case h1 => k_mem); (case h2 => k_mem); (case h3 => k_mem); (case h4 => k_mem); (case h5 => k_mem); (case h6 => assumption); (case h7 => assumption); intro r9 tl9 h9 tk9 F9 N9 o9; obtain ⟨D9, fx9, dx9, fy9, dy9, v9, u9, t1, t2, t3, t4, s1, s2, s3, s4, k9, l9, c9, e1, e2, q1, q2⟩ := o9; subst e1 e2 q1 q2; (try simp only [List.nil_append, List.cons_append] at N9); (try dsimp only); (try k_fold))))
local macro_rules | `(tactic| walk_at "call ref") => `(tactic| (k_here; (with_reducible show wpAny _ _ (call (Value.ref 98) _) _ _ _); k_dflt (cell_ask (bnaddL_c ?h1 ?h2 ?h3 ?h4 ?h5 ?h6 ?h7 ?h8 ?h9 ?h10 ?h11 ?h12 ?h13 ?h14); (case h1 => k_mem); (case h2 => k_mem); (case h3 => k_mem); (case h4 => k_mem); (case h5 => k_mem); (case h6 => k_mem); (case h7 => k_mem); (case h8 => k_mem); (case h9 => k_mem); (case h10 => k_mem); (case h11 => assumption); (case h12 => first | assumption | exact Pt.neg (by assumption) (by assumption)); (case h13 => first | assumption | exact Pt.neg (by assumption) (by assumption)); (case h14 => assumption); intro r9 tl9 h9 tk9 F9 N9 o9; obtain ⟨D9, fx9, dx9, fy9, dy9, v9, u9, t1, t2, t3, t4, s1, s2, s3, s4, k9, l9, c9, e1, e2, ⟨q1, q2⟩, q3⟩ := o9; subst e1 e2 q1; (try simp only [List.nil_append, List.cons_append] at N9); (try dsimp only); (try k_fold))))
section
theorem fmod_small' {v p : Int} (h0 : 0 ≤ v) (h1 : v < p) : v.fmod p = v := by rw [fmod_e (by omega)]; exact emod_small h0 h1
theorem fmod_negv' {y p : Int} (h0 : 0 < y) (h1 : y < p) : (-y).fmod p = p - y := by
  rw [fmod_e (by omega)]
  have e : -y = (p - y) + p * (-1) := by omega
  rw [e, Int.add_mul_emod_self_left]; exact emod_small (by omega) (by omega)
theorem sc_lo {v p : Int} (h : 0 < p - 1) : 0 ≤ 1 + v.fmod (p - 1) ∧ 1 + v.fmod (p - 1) < p ∧ 0 < 1 + v.fmod (p - 1) := by
  have := fmod_rng (x := v) h; omega
theorem fonewS_c {w : World} {mean : ExcName → Option Value} {mg mb : Str → Option Value} {news : Led} {v p : Int} {u1 u2 : Tok} (h0 : 0 ≤ v) (h1 : v < p) :
    Con w mean mg mb 417 2 news [.int v u1, .int p u2] (OFq 417 w.params p fun r => r = v) := by
  have := fonew_c (w := w) (mean := mean) (mg := mg) (mb := mb) (news := news) (v := v) (u1 := u1) (u2 := u2) (show 0 < p by omega)
  rwa [fmod_small' h0 h1] at this
theorem opnegS_c {w : World} {mean : ExcName → Option Value} {mg mb : Str → Option Value} {news : Led} {P fx fy fz dx dy dz : Addr} {p x y z : Int} {a1 a2 a3 a4 b1 b2 b3 b4 c1 c2 c3 c4 : Tok} {k k1 k2 k3 : Nat}
    (hP : (P, tupO [.ref fx, .ref fy, .ref fz] k) ∈ news)
    (h1 : (fx, PySem.W.instObj 417 dx) ∈ news) (h1d : (dx, fqDict w.params p x a1 a2 a3 a4 k1) ∈ news) (h2 : (fy, PySem.W.instObj 417 dy) ∈ news) (h2d : (dy, fqDict w.params p y b1 b2 b3 b4 k2) ∈ news) (h3 : (fz, PySem.W.instObj 417 dz) ∈ news) (h3d : (dz, fqDict w.params p z c1 c2 c3 c4 k3) ∈ news)
    (hy0 : 0 < y) (hy1 : y < p) :
    Con w mean mg mb 449 7 news [.ref P] (OTri w.params p (fun v u t => x = v ∧ p - y = u ∧ z = t)) := by
  refine con_mono (opneg_c hP h1 h1d h2 h2d h3 h3d (show 0 < p by omega)) (Nat.le_refl _) ?_
  rintro r tl ⟨D, fx, dx, fy, dy, fz, dz, v, u, t, a1, a2, a3, a4, b1, b2, b3, b4, c1, c2, c3, c4, k, l, m, c', e1, e2, q1, q2, q3⟩
  exact ⟨D, fx, dx, fy, dy, fz, dz, v, u, t, a1, a2, a3, a4, b1, b2, b3, b4, c1, c2, c3, c4, k, l, m, c', e1, e2, q1.symm, by rw [q2, fmod_negv' hy0 hy1], q3.symm⟩
theorem sc_eq {p u x sc : Int} (hp : 0 < p) (h : x = u) : ((x * sc).fmod p - u * sc) % p = 0 := by
  rw [h, fmod_e hp, Int.emod_sub_emod, Int.sub_self]; exact Int.zero_emod p
theorem opaddL_c {w : World} {mean : ExcName → Option Value} {mg mb : Str → Option Value} {news : Led} {P Q fx dx fy dy fz dz ux ex uy ey uz ez : Addr} {i j p n a b gx gy x y sc x' y' : Int} {X Y : Int → Int}
    {tx1 tx2 tx3 tx4 ty1 ty2 ty3 ty4 tz1 tz2 tz3 tz4 sx1 sx2 sx3 sx4 sy1 sy2 sy3 sy4 sz1 sz2 sz3 sz4 : Tok} {k kx ky kz l lx ly lz : Nat}
    (hP : (P, tupO [.ref fx, .ref fy, .ref fz] k) ∈ news) (hfx : (fx, PySem.W.instObj 417 dx) ∈ news) (hdx : (dx, fqDict w.params p ((x * sc).fmod p) tx1 tx2 tx3 tx4 kx) ∈ news) (hfy : (fy, PySem.W.instObj 417 dy) ∈ news) (hdy : (dy, fqDict w.params p ((y * sc).fmod p) ty1 ty2 ty3 ty4 ky) ∈ news) (hfz : (fz, PySem.W.instObj 417 dz) ∈ news) (hdz : (dz, fqDict w.params p sc tz1 tz2 tz3 tz4 kz) ∈ news)
    (hQ : (Q, tupO [.ref ux, .ref uy, .ref uz] l) ∈ news) (hux : (ux, PySem.W.instObj 417 ex) ∈ news) (hex : (ex, fqDict w.params p x' sx1 sx2 sx3 sx4 lx) ∈ news) (huy : (uy, PySem.W.instObj 417 ey) ∈ news) (hey : (ey, fqDict w.params p y' sy1 sy2 sy3 sy4 ly) ∈ news) (huz : (uz, PySem.W.instObj 417 ez) ∈ news) (hez : (ez, fqDict w.params p 1 sz1 sz2 sz3 sz4 lz) ∈ news)
    (c : Crv p n a b gx gy X Y) (h : Pt n X Y i x y) (h' : Pt n X Y j x' y') (hne : ¬ x = x') (hs0 : 0 < sc) (hs1 : sc < p) :
    Con w mean mg mb 435 12 news [.ref P, .ref Q] (OTri w.params p (fun v u t => Bd 7 v ∧ Bd 7 u ∧ Bd 7 t ∧ t % p ≠ 0 ∧ 0 < (i + j) % n ∧ (i + j) % n < n ∧ (v - X ((i + j) % n) * t) % p = 0)) := by
  obtain ⟨q1, q2⟩ := Pt.apart c h h' hne
  have hp0 : 0 < p := by have := c.p_lo; omega
  have hp7 := c.p_hi
  have B1 : ∀ u : Int, Bd 7 (u.fmod p) := fun u => bd7 (fmod_rng hp0).1 (by have := (fmod_rng (x := u) hp0).2; omega)
  obtain ⟨r1, r2, r3, r4⟩ := Pt.rng c h'
  obtain ⟨s0, s1⟩ := c.idxA h.1 h.2.1 h'.1 h'.2.1 q2
  refine con_mono (opadd_c hP hfx hdx hfy hdy hfz hdz hQ hux hex huy hey huz hez c h.1 h.2.1 h'.1 h'.2.1 q1 q2 (sc_eq hp0 h.2.2.1) (sc_eq hp0 h.2.2.2)
    (by rw [Int.mul_one, h'.2.2.1, Int.sub_self]; exact Int.zero_emod p) (by rw [Int.mul_one, h'.2.2.2, Int.sub_self]; exact Int.zero_emod p)
    (by rw [emod_small (by omega) hs1]; omega) (by rw [emod_small (by omega) (by have := c.p_lo; omega)]; omega)
    (B1 _) (B1 _) (bd7 (by omega) (by omega)) r3 r4 (bd7 (by omega) (by omega))) (Nat.le_refl _) ?_
  rintro r tl ⟨D, fx, dx, fy, dy, fz, dz, v, u, t, a1, a2, a3, a4, b1, b2, b3, b4, c1, c2, c3, c4, k, l, m, c', e1, e2, g1, g2, g3, g4, g5⟩
  exact ⟨D, fx, dx, fy, dy, fz, dz, v, u, t, a1, a2, a3, a4, b1, b2, b3, b4, c1, c2, c3, c4, k, l, m, c', e1, e2, g1, g2, g3, g4, s0, s1, g5⟩
theorem opnormL_c {w : World} {mean : ExcName → Option Value} {mg mb : Str → Option Value} {news : Led} {P fx fy fz dx dy dz : Addr} {m x y z p n a b gx gy : Int} {X Y : Int → Int} {a1 a2 a3 a4 b1 b2 b3 b4 c1 c2 c3 c4 : Tok} {k k1 k2 k3 : Nat}
    (hP : (P, tupO [.ref fx, .ref fy, .ref fz] k) ∈ news)
    (h1 : (fx, PySem.W.instObj 417 dx) ∈ news) (h1d : (dx, fqDict w.params p x a1 a2 a3 a4 k1) ∈ news) (h2 : (fy, PySem.W.instObj 417 dy) ∈ news) (h2d : (dy, fqDict w.params p y b1 b2 b3 b4 k2) ∈ news) (h3 : (fz, PySem.W.instObj 417 dz) ∈ news) (h3d : (dz, fqDict w.params p z c1 c2 c3 c4 k3) ∈ news)
    (c : Crv p n a b gx gy X Y) (hx : (x - X m * z) % p = 0) (hm : 0 < m) (hm' : m < n) (hz : z % p ≠ 0) (hBx : Bd 7 x) (hBy : Bd 7 y) :
    Con w mean mg mb 442 8 news [.ref P] (OPair 417 w.params p (fun v => v = X m ∧ Bd 7 v) (fun _ => True)) := by
  have q := c.rng m hm hm'
  have hp7 := c.p_hi
  refine con_mono (opnorm_c hP h1 h1d h2 h2d h3 h3d c hm hm' hz hx hBx hBy) (Nat.le_refl _) ?_
  rintro r tl ⟨D, fx, dx, fy, dy, v, u, t1, t2, t3, t4, s1, s2, s3, s4, k, l, c', e1, e2, q', _⟩
  exact ⟨D, fx, dx, fy, dy, v, u, t1, t2, t3, t4, s1, s2, s3, s4, k, l, c', e1, e2, ⟨q', by rw [q']; exact bd7 q.1 (by omega)⟩, True.intro⟩

end
local macro_rules | `(tactic| walk_at "call ref") => `(tactic| (k_here; (with_reducible show wpAny _ _ (call (Value.ref 417) [Value.int _ _, Value.int _ _]) _ _ _); k_dflt (cell_ask (fonewS_c ?h1 ?h2);  (case h1 => first | assumption | exact Int.le_of_lt (by assumption) | exact (sc_lo (by assumption)).1 | decide); (case h2 => first | assumption | exact (sc_lo (by assumption)).2.1); intro r9 tl9 h9 tk9 F9 N9 o9; obtain ⟨x9, d9, v9, t1, t2, t3, t4, k9, e1, e2, q1⟩ := o9; subst e1 e2 q1; (try simp only [List.nil_append, List.cons_append] at N9); (try dsimp only); (try k_fold))))
local macro_rules | `(tactic| walk_at "call ref") => `(tactic| (k_here; (with_reducible show wpAny _ _ (call (Value.ref 449) _) _ _ _); k_dflt (cell_ask (opnegS_c ?h1 ?h2 ?h3 ?h4 ?h5 ?h6 ?h7 ?h8 ?h9); (case h1 => k_mem); (case h2 => k_mem); (case h3 => k_mem); (case h4 => k_mem); (case h5 => k_mem); (case h6 => k_mem); (case h7 => k_mem); (case h8 => assumption); (case h9 => assumption); intro r9 tl9 h9 tk9 F9 N9 o9; obtain ⟨D9, fx9, dx9, fy9, dy9, fz9, dz9, v9, u9, t9, a1, a2, a3, a4, b1, b2, b3, b4, c1, c2, c3, c4, k9, l9, m9, c9, e1, e2, q1, q2, q3⟩ := o9; subst e1 e2 q1 q2 q3; (try simp only [List.nil_append, List.cons_append] at N9); (try dsimp only); (try k_fold))))
local macro_rules | `(tactic| walk_at "call ref") => `(tactic| (k_here; (with_reducible show wpAny _ _ (call (Value.ref 435) _) _ _ _); k_dflt (cell_ask (opaddL_c ?h1 ?h2 ?h3 ?h4 ?h5 ?h6 ?h7 ?h8 ?h9 ?h10 ?h11 ?h12 ?h13 ?h14 ?h15 ?h16 ?h17 ?h18 ?h19 ?h20); (case h1 => k_mem); (case h2 => k_mem); (case h3 => k_mem); (case h4 => k_mem); (case h5 => k_mem); (case h6 => k_mem); (case h7 => k_mem); (case h8 => k_mem); (case h9 => k_mem); (case h10 => k_mem); (case h11 => k_mem); (case h12 => k_mem); (case h13 => k_mem); (case h14 => k_mem); (case h15 => assumption); (case h16 => first | assumption | exact Pt.neg (by assumption) (by assumption)); (case h17 => first | assumption | exact Pt.neg (by assumption) (by assumption)); (case h18 => assumption); (case h19 => first | assumption | exact (sc_lo (by assumption)).2.2); (case h20 => first | assumption | exact (sc_lo (by assumption)).2.1); intro r9 tl9 h9 tk9 F9 N9 o9; obtain ⟨D9, fx9, dx9, fy9, dy9, fz9, dz9, v9, u9, t9, a1, a2, a3, a4, b1, b2, b3, b4, c1, c2, c3, c4, k9, l9, m9, c9, e1, e2, q1, q2, q3, q4, q5, q6, q7⟩ := o9; subst e1 e2 ; (try simp only [List.nil_append, List.cons_append] at N9); (try dsimp only); (try k_fold))))
local macro_rules | `(tactic| walk_at "call ref") => `(tactic| (k_here; (with_reducible show wpAny _ _ (call (Value.ref 442) _) _ _ _); k_dflt (cell_ask (opnormL_c ?h1 ?h2 ?h3 ?h4 ?h5 ?h6 ?h7 ?h8 ?h9 ?h10 ?h11 ?h12 ?h13 ?h14); (case h1 => k_mem); (case h2 => k_mem); (case h3 => k_mem); (case h4 => k_mem); (case h5 => k_mem); (case h6 => k_mem); (case h7 => k_mem); (case h8 => assumption); (case h9 => assumption); (case h10 => assumption); (case h11 => assumption); (case h12 => assumption); (case h13 => assumption); (case h14 => assumption); intro r9 tl9 h9 tk9 F9 N9 o9; obtain ⟨D9, fx9, dx9, fy9, dy9, v9, u9, t1, t2, t3, t4, s1, s2, s3, s4, k9, l9, c9, e1, e2, ⟨q1, q2⟩, q3⟩ := o9; subst e1 e2 q1; (try simp only [List.nil_append, List.cons_append] at N9); (try dsimp only); (try k_fold))))
section
set_option rowWalk.seconds 0
set_option maxHeartbeats 40000000 in
theorem law0 : PySem.Challenge.rw_bw0040_01.Holds := hd (by
  k_go0
  (all_goals try k_fold)
  k_steps)

end
end Mine
theorem PySem.Challenge.cw_bw0040_01_holds : PySem.Challenge.rw_bw0040_01.Holds := by
  exact Mine.law0
