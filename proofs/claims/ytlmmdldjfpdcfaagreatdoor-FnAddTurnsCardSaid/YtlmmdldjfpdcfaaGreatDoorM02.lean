/-
  The plain law of both fields' words: a sum is the sum modulo the prime, a product is Montgomery's product. No program in sight.
-/
import Derived.Test.YtlmmdldjfpdcfaaGreatDoorM01
namespace Go.Proofs.YtlmmdldjfpdcfaaGreatDoor
/-- A reduction after Montgomery, once for all moduli. -/
theorem mont_gen (P R Ri t V m : Nat) (hRi : R * Ri % P = 1) (hP : 1 < P) (hm : m < R) (ht : t < R * P) (hV : R * V = t + m * P) :
    (if V < P then V else V - P) = t * Ri % P := by
  have h2 : V < 2 * P := by
    have h1 : m * P < R * P := Nat.mul_lt_mul_of_pos_right hm (by omega)
    have h3 : R * V < R * (2 * P) := by
      rw [show R * (2 * P) = R * P + R * P from by rw [Nat.mul_comm 2 P, ← Nat.mul_assoc]; omega]
      omega
    exact Nat.lt_of_mul_lt_mul_left h3
  have h4 : V % P = t * Ri % P := by
    have e1 : V * (R * Ri) % P = V % P := by
      rw [Nat.mul_mod, hRi, Nat.mul_one, Nat.mod_mod]
    have e2 : V * (R * Ri) = (t + m * P) * Ri := by
      rw [← hV, Nat.mul_comm R V, Nat.mul_assoc]
    rw [← e1, e2, Nat.add_mul, Nat.mul_right_comm, Nat.add_mul_mod_self_right]
  rw [← h4]
  by_cases h : V < P
  · rw [if_pos h, Nat.mod_eq_of_lt h]
  · rw [if_neg h, Nat.mod_eq_sub_mod (by omega), Nat.mod_eq_of_lt (by omega)]

/-- Two numbers below the modulus, added and brought below it. -/
theorem add_gen (P a b : Nat) (ha : a < P) (hb : b < P) : (if a + b < P then a + b else a + b - P) = (a + b) % P := by
  by_cases h : a + b < P
  · rw [if_pos h, Nat.mod_eq_of_lt h]
  · rw [if_neg h, Nat.mod_eq_sub_mod (by omega), Nat.mod_eq_of_lt (by omega)]

/-- What a number stands for, and back. -/
theorem val_tom (P R Ri x : Nat) (hRi : R * Ri % P = 1) (hx : x < P) : (x * R % P) * Ri % P = x := by
  rw [Nat.mod_mul_mod, Nat.mul_assoc, Nat.mul_mod, hRi, Nat.mul_one, Nat.mod_mod, Nat.mod_eq_of_lt hx]

theorem val_add (P Ri a b : Nat) : ((a + b) % P) * Ri % P = (a * Ri % P + b * Ri % P) % P := by
  rw [Nat.mod_mul_mod, Nat.add_mul, Nat.add_mod]

theorem tom_mul (P R R2 Ri x : Nat) (h : R2 * Ri % P = R % P) : x * R2 * Ri % P = x * R % P := by
  rw [Nat.mul_assoc, Nat.mul_mod, h, ← Nat.mul_mod]
end Go.Proofs.YtlmmdldjfpdcfaaGreatDoor
namespace Go.Proofs.YtlmmdldjfpdcfaaGreatDoor
abbrev P64 : Nat := 18446744069414584321
abbrev P128 : Nat := 340282366920938462946865773367900766209
abbrev R64 : Nat := 18446744073709551616
abbrev R128 : Nat := 340282366920938463463374607431768211456
abbrev I64 : Nat := 18446744065119617025
abbrev I128 : Nat := 340282366920938462430356939304033321744

theorem add64_law {a b : Nat} (ha : a < P64) (hb : b < P64) : add64f a b = (((a + b) % P64 : Nat) : Int) := by
  rw [← add_gen P64 a b ha hb]
  unfold add64f cmv64 sc64 ac64 ss64 as64
  simp only [P64] at *
  by_cases h : a + b < 18446744069414584321
  · rw [if_pos h]
    repeat' split
    all_goals omega
  · rw [if_neg h]
    repeat' split
    all_goals omega

theorem mul64_key (t : Int) (h0 : 0 ≤ t) (h1 : t < 18446744073709551616 * 18446744069414584321) (x2 x3 x4 x6 x7 x9 x10 x11 : Int)
    (e2 : x2 = t % 18446744073709551616) (e3 : x3 = t / 18446744073709551616 % 18446744073709551616) (e4 : x4 = x2 * 18446744069414584319 % 18446744073709551616)
    (e6 : x6 = x4 * 18446744069414584321 % 18446744073709551616) (e7 : x7 = x4 * 18446744069414584321 / 18446744073709551616 % 18446744073709551616)
    (e9 : x9 = if x2 + x6 + 0 < 18446744073709551616 then 0 else 1) (e10 : x10 = (x3 + x7 + x9) % 18446744073709551616)
    (e11 : x11 = if x3 + x7 + x9 < 18446744073709551616 then 0 else 1) :
    18446744073709551616 * (x10 + 18446744073709551616 * x11) = t + x4 * 18446744069414584321 ∧ 0 ≤ x4 ∧ x4 < 18446744073709551616 ∧ 0 ≤ x10 ∧ x10 < 18446744073709551616 ∧ 0 ≤ x11 := by
  have h2 : x3 = t / 18446744073709551616 := by omega
  have h7 : x7 = x4 * 18446744069414584321 / 18446744073709551616 := by omega
  have hs : x2 + x6 = 18446744073709551616 * x9 := by
    have : (x2 + x6) % 18446744073709551616 = 0 := by omega
    clear e10 e11 e3 e7 h7 h2
    split at e9 <;> omega
  have hv : x10 + 18446744073709551616 * x11 = x3 + x7 + x9 := by
    have b3 : 0 ≤ x3 ∧ x3 < 18446744073709551616 := by omega
    have b7 : 0 ≤ x7 ∧ x7 < 18446744073709551616 := by omega
    clear hs e3 e7 e6 h2 h7 e4 e2
    have : x9 ≤ 1 ∧ 0 ≤ x9 := by split at e9 <;> omega
    split at e11 <;> omega
  refine ⟨by rw [hv]; clear hv e10 e11 e9 e3 e7; omega, by omega, by omega, by omega, by omega, by split at e11 <;> omega⟩

theorem mul64_law {a b : Nat} (h : a * b < R64 * P64) : mul64f a b = ((a * b * I64 % P64 : Nat) : Int) := by
  have h0 : 0 ≤ (a : Int) * b := by rw [← Int.natCast_mul]; omega
  have h1 : (a : Int) * b < 18446744073709551616 * 18446744069414584321 := by rw [← Int.natCast_mul]; simp only [R64, P64] at h; omega
  have k := mul64_key ((a : Int) * b) h0 h1 _ _ _ _ _ _ _ _ rfl rfl rfl rfl rfl rfl rfl rfl
  revert k
  unfold mul64f
  dsimp only
  unfold cmv64 sc64 ss64
  generalize ha9 : ac64 (lo64 a b) (lo64 (lo64 (lo64 a b) 18446744069414584319) 18446744069414584321) 0 = x9
  generalize ha10 : as64 (hi64 a b) (hi64 (lo64 (lo64 a b) 18446744069414584319) 18446744069414584321) x9 = x10
  generalize ha11 : ac64 (hi64 a b) (hi64 (lo64 (lo64 a b) 18446744069414584319) 18446744069414584321) x9 = x11
  unfold ac64 at ha9 ha11
  unfold as64 at ha10
  unfold lo64 at ha9
  unfold lo64 hi64 at ha10 ha11
  rw [ha9, ha10, ha11]
  generalize (a : Int) * b % 18446744073709551616 * 18446744069414584319 % 18446744073709551616 = m
  rintro ⟨k1, k2, k3, k4, k5, k6⟩
  have main := mont_gen P64 R64 I64 (a * b) (x10 + 18446744073709551616 * x11).toNat m.toNat (by decide) (by decide) (by simp only [R64]; omega) h (by
    simp only [R64, P64]
    have : (((18446744073709551616 * (x10 + 18446744073709551616 * x11).toNat : Nat)) : Int) = ((a * b + m.toNat * 18446744069414584321 : Nat) : Int) := by
      rw [Int.natCast_add, Int.natCast_mul, Int.natCast_mul, Int.natCast_mul, Int.toNat_of_nonneg k2, Int.toNat_of_nonneg (by omega)]
      exact k1
    exact Int.ofNat_inj.1 this)
  rw [← main]
  have hb : x10 + 18446744073709551616 * x11 < 2 * 18446744069414584321 := by omega
  simp only [P64]
  repeat' split
  all_goals omega
end Go.Proofs.YtlmmdldjfpdcfaaGreatDoor

/-
  The plain law of fp128's words: a sum is the sum modulo the prime, a product is Montgomery's product. No program in sight.
-/
namespace Go.Proofs.YtlmmdldjfpdcfaaGreatDoor

/-- The low word and the high one of a number of two words. -/
def lw (v : Nat) : Int := ((v % 18446744073709551616 : Nat) : Int)
def hw (v : Nat) : Int := ((v / 18446744073709551616 : Nat) : Int)
theorem W64.lw (v : Nat) : W64 (lw v) := by unfold W64 YtlmmdldjfpdcfaaGreatDoor.lw; omega
theorem W64.hw {v : Nat} (h : v < R128) : W64 (hw v) := by unfold W64 YtlmmdldjfpdcfaaGreatDoor.hw; simp only [R128] at h; omega
theorem lw_hw (v : Nat) : lw v + 18446744073709551616 * hw v = (v : Int) := by unfold lw hw; omega
theorem lw_of {v : Nat} {a b : Int} (ha : W64 a) (h : a + 18446744073709551616 * b = (v : Int)) : a = lw v := by
  unfold W64 at ha; unfold lw; omega
theorem hw_of {v : Nat} {a b : Int} (ha : W64 a) (h : a + 18446744073709551616 * b = (v : Int)) : b = hw v := by
  unfold W64 at ha; unfold hw; omega

theorem row_law {u y0 y1 : Int} (hu : W64 u) (h0 : W64 y0) (h1 : W64 y1) :
    lo64 u y0 + 18446744073709551616 * as64 (hi64 u y0) (lo64 u y1) 0 + 340282366920938463463374607431768211456 * IntKind.u64.wrap (ac64 (hi64 u y0) (lo64 u y1) 0 + hi64 u y1) =
      u * y0 + 18446744073709551616 * (u * y1) := by
  rw [IntKind.wrap_u64]
  obtain ⟨u0, u1⟩ := hu; obtain ⟨a0, a1⟩ := h0; obtain ⟨b0, b1⟩ := h1
  have p0 := Int.mul_nonneg u0 a0
  have p1 : u * y0 ≤ 18446744073709551615 * 18446744073709551615 := Int.mul_le_mul (by omega) (by omega) a0 (by decide)
  have q0 := Int.mul_nonneg u0 b0
  have q1 : u * y1 ≤ 18446744073709551615 * 18446744073709551615 := Int.mul_le_mul (by omega) (by omega) b0 (by decide)
  unfold lo64 hi64 as64 ac64
  generalize u * y0 = q at *
  generalize u * y1 = r at *
  split <;> omega

theorem red_law {a0 a1 a2 : Int} (h0 : W64 a0) (h1 : W64 a1) (h2 : W64 a2) :
    18446744073709551616 * (as64 a1 (lo64 (lo64 a0 18446744073709551615) 18446744073709551588) (ac64 a0 (lo64 a0 18446744073709551615) 0) +
      18446744073709551616 * as64 a2 (hi64 (lo64 a0 18446744073709551615) 18446744073709551588) (ac64 a1 (lo64 (lo64 a0 18446744073709551615) 18446744073709551588) (ac64 a0 (lo64 a0 18446744073709551615) 0)) +
      340282366920938463463374607431768211456 * ac64 a2 (hi64 (lo64 a0 18446744073709551615) 18446744073709551588) (ac64 a1 (lo64 (lo64 a0 18446744073709551615) 18446744073709551588) (ac64 a0 (lo64 a0 18446744073709551615) 0))) =
      a0 + 18446744073709551616 * a1 + 340282366920938463463374607431768211456 * a2 + lo64 a0 18446744073709551615 * 340282366920938462946865773367900766209 := by
  have hm : W64 (lo64 a0 18446744073709551615) := W64.lo _ _
  have hl : W64 (lo64 (lo64 a0 18446744073709551615) 18446744073709551588) := W64.lo _ _
  have hh : W64 (hi64 (lo64 a0 18446744073709551615) 18446744073709551588) := W64.hi _ _
  have hk : B01 (ac64 a0 (lo64 a0 18446744073709551615) 0) := B01.ac _ _ _
  have e0 : a0 + lo64 a0 18446744073709551615 = 18446744073709551616 * ac64 a0 (lo64 a0 18446744073709551615) 0 := by
    unfold ac64; unfold lo64; unfold W64 at h0; split <;> omega
  have e1 : lo64 a0 18446744073709551615 * 18446744073709551588 = lo64 (lo64 a0 18446744073709551615) 18446744073709551588 + 18446744073709551616 * hi64 (lo64 a0 18446744073709551615) 18446744073709551588 := by
    generalize lo64 a0 18446744073709551615 = m at *
    unfold lo64 hi64; unfold W64 at hm; omega
  generalize lo64 a0 18446744073709551615 = m at *
  generalize lo64 m 18446744073709551588 = l at *
  generalize hi64 m 18446744073709551588 = h at *
  generalize ac64 a0 m 0 = k at *
  have hc : B01 (ac64 a1 l k) := B01.ac _ _ _
  have e2 : as64 a1 l k + 18446744073709551616 * ac64 a1 l k = a1 + l + k := by
    rw [ac64_eq h1 hl hk]; unfold as64; omega
  generalize ac64 a1 l k = c at *
  have e3 : as64 a2 h c + 18446744073709551616 * ac64 a2 h c = a2 + h + c := by
    rw [ac64_eq h2 hh hc]; unfold as64; omega
  generalize as64 a1 l k = s1 at *
  generalize as64 a2 h c = s2 at *
  generalize ac64 a2 h c = d at *
  clear hm hl hh hk hc h0 h1 h2
  omega

theorem sum_law {x y c : Int} (hx : W64 x) (hy : W64 y) (hc : B01 c) : as64 x y c + 18446744073709551616 * ac64 x y c = x + y + c := by
  rw [ac64_eq hx hy hc]; unfold as64; omega
theorem dif_law {x y c : Int} (hx : W64 x) (hy : W64 y) (hc : B01 c) : ss64 x y c - 18446744073709551616 * sc64 x y c = x - y - c := by
  unfold ss64 sc64; unfold W64 at hx hy; unfold B01 at hc; split <;> omega

theorem B01.sum {a b : Int} (ha : B01 a) (hb : B01 b) : IntKind.u64.wrap (a + b) = a + b := by
  rw [IntKind.wrap_u64]; unfold B01 at ha hb; omega

theorem mul128V_law {x0 x1 y0 y1 : Int} (hx0 : W64 x0) (hx1 : W64 x1) (hy0 : W64 y0) (hy1 : W64 y1) :
    ∃ m : Int, 0 ≤ m ∧ m < 340282366920938463463374607431768211456 ∧
      340282366920938463463374607431768211456 * ((mul128V x0 x1 y0 y1).1 + 18446744073709551616 * (mul128V x0 x1 y0 y1).2.1 + 340282366920938463463374607431768211456 * (mul128V x0 x1 y0 y1).2.2) =
        (x0 * y0 + 18446744073709551616 * (x0 * y1)) + 18446744073709551616 * (x1 * y0 + 18446744073709551616 * (x1 * y1)) + m * 340282366920938462946865773367900766209 ∧
      W64 (mul128V x0 x1 y0 y1).1 ∧ W64 (mul128V x0 x1 y0 y1).2.1 ∧ 0 ≤ (mul128V x0 x1 y0 y1).2.2 ∧ (mul128V x0 x1 y0 y1).2.2 ≤ 2 := by
  unfold mul128V
  dsimp only
  have r1 := row_law hx0 hy0 hy1
  have r2 := row_law hx1 hy0 hy1
  have w9 : W64 (IntKind.u64.wrap (ac64 (hi64 x0 y0) (lo64 x0 y1) 0 + hi64 x0 y1)) := W64.wr _
  have w26 : W64 (IntKind.u64.wrap (ac64 (hi64 x1 y0) (lo64 x1 y1) 0 + hi64 x1 y1)) := W64.wr _
  have w7 : W64 (as64 (hi64 x0 y0) (lo64 x0 y1) 0) := W64.as _ _ _
  have w24 : W64 (as64 (hi64 x1 y0) (lo64 x1 y1) 0) := W64.as _ _ _
  have w5 : W64 (lo64 x0 y0) := W64.lo _ _
  have w22 : W64 (lo64 x1 y0) := W64.lo _ _
  generalize IntKind.u64.wrap (ac64 (hi64 x0 y0) (lo64 x0 y1) 0 + hi64 x0 y1) = x9 at *
  generalize IntKind.u64.wrap (ac64 (hi64 x1 y0) (lo64 x1 y1) 0 + hi64 x1 y1) = x26 at *
  generalize as64 (hi64 x0 y0) (lo64 x0 y1) 0 = x7 at *
  generalize as64 (hi64 x1 y0) (lo64 x1 y1) 0 = x24 at *
  generalize lo64 x0 y0 = x5 at *
  generalize lo64 x1 y0 = x22 at *
  generalize x0 * y0 = q00 at *
  generalize x0 * y1 = q01 at *
  generalize x1 * y0 = q10 at *
  generalize x1 * y1 = q11 at *
  have d1 := red_law w5 w7 w9
  have w10 : W64 (lo64 x5 18446744073709551615) := W64.lo _ _
  generalize lo64 x5 18446744073709551615 = x10 at *
  generalize lo64 x10 18446744073709551588 = x12 at *
  generalize hi64 x10 18446744073709551588 = x13 at *
  generalize ac64 x5 x10 0 = x15 at *
  have w16 : W64 (as64 x7 x12 x15) := W64.as _ _ _
  generalize as64 x7 x12 x15 = x16 at *
  generalize ac64 x7 x12 x15 = x17 at *
  have w18 : W64 (as64 x9 x13 x17) := W64.as _ _ _
  have b19 : B01 (ac64 x9 x13 x17) := B01.ac _ _ _
  generalize as64 x9 x13 x17 = x18 at *
  generalize ac64 x9 x13 x17 = x19 at *
  have s1 := sum_law w16 w22 B01.zero
  have w27 : W64 (as64 x16 x22 0) := W64.as _ _ _
  have b28 : B01 (ac64 x16 x22 0) := B01.ac _ _ _
  generalize as64 x16 x22 0 = x27 at *
  generalize ac64 x16 x22 0 = x28 at *
  have s2 := sum_law w18 w24 b28
  have w29 : W64 (as64 x18 x24 x28) := W64.as _ _ _
  have b30 : B01 (ac64 x18 x24 x28) := B01.ac _ _ _
  generalize as64 x18 x24 x28 = x29 at *
  generalize ac64 x18 x24 x28 = x30 at *
  have s3 := sum_law b19.w w26 b30
  have w31 : W64 (as64 x19 x26 x30) := W64.as _ _ _
  have b32 : B01 (ac64 x19 x26 x30) := B01.ac _ _ _
  generalize as64 x19 x26 x30 = x31 at *
  generalize ac64 x19 x26 x30 = x32 at *
  have d2 := red_law w27 w29 w31
  have w33 : W64 (lo64 x27 18446744073709551615) := W64.lo _ _
  generalize lo64 x27 18446744073709551615 = x33 at *
  generalize lo64 x33 18446744073709551588 = x35 at *
  generalize hi64 x33 18446744073709551588 = x36 at *
  generalize ac64 x27 x33 0 = x38 at *
  have w39 : W64 (as64 x29 x35 x38) := W64.as _ _ _
  generalize as64 x29 x35 x38 = x39 at *
  generalize ac64 x29 x35 x38 = x40 at *
  have w41 : W64 (as64 x31 x36 x40) := W64.as _ _ _
  have b42 : B01 (ac64 x31 x36 x40) := B01.ac _ _ _
  generalize as64 x31 x36 x40 = x41 at *
  generalize ac64 x31 x36 x40 = x42 at *
  rw [B01.sum b42 b32]
  refine ⟨x10 + 18446744073709551616 * x33, ?_, ?_, ?_, w39, w41, ?_, ?_⟩
  · unfold W64 at w10 w33; omega
  · unfold W64 at w10 w33; omega
  · clear w9 w26 w7 w24 w5 w22 w10 w16 w18 w27 w29 w31 w33 w39 w41 b19 b28 b30 b32 b42 hx0 hx1 hy0 hy1
    omega
  · unfold B01 at b42 b32; omega
  · unfold B01 at b42 b32; omega

theorem cmv0 (x y : Int) : cmv64 0 x y = x := rfl
theorem cmv1 (x y : Int) : cmv64 1 x y = y := rfl
theorem prod4 (x0 x1 y0 y1 R : Int) : x0 * y0 + R * (x0 * y1) + R * (x1 * y0 + R * (x1 * y1)) = (x0 + R * x1) * (y0 + R * y1) := by
  rw [Int.add_mul, Int.mul_add x0, Int.mul_assoc R x1, Int.mul_add x1, Int.mul_left_comm x0 R y1, Int.mul_left_comm x1 R y1]

/-- A number of three words below twice the prime is brought below it. -/
theorem red128_law {v0 v1 v2 : Int} (h0 : W64 v0) (h1 : W64 v1) (h2 : 0 ≤ v2) (h2' : v2 ≤ 2) (n : Nat)
    (hn : v0 + 18446744073709551616 * v1 + 340282366920938463463374607431768211456 * v2 = (n : Int)) (hlt : n < 2 * P128) :
    red128l v0 v1 v2 = lw (if n < P128 then n else n - P128) ∧ red128h v0 v1 v2 = hw (if n < P128 then n else n - P128) := by
  have w2 : W64 v2 := ⟨h2, by omega⟩
  have d0 := dif_law h0 W64.one B01.zero
  have s0 : W64 (ss64 v0 1 0) := W64.ss _ _ _
  have c0 : B01 (sc64 v0 1 0) := B01.sc _ _ _
  unfold red128l red128h red128c
  generalize ss64 v0 1 0 = t0 at *
  generalize sc64 v0 1 0 = b0 at *
  have d1 := dif_law h1 W64.p128 c0
  have s1 : W64 (ss64 v1 18446744073709551588 b0) := W64.ss _ _ _
  have c1 : B01 (sc64 v1 18446744073709551588 b0) := B01.sc _ _ _
  generalize ss64 v1 18446744073709551588 b0 = t1 at *
  generalize sc64 v1 18446744073709551588 b0 = b1 at *
  have e : sc64 v2 0 b1 = if n < P128 then 1 else 0 := by
    unfold sc64
    simp only [P128] at *
    unfold W64 at *
    unfold B01 at *
    split <;> split <;> omega
  rw [e]
  simp only [P128] at *
  by_cases h : n < 340282366920938462946865773367900766209
  · rw [if_pos h, if_pos h]
    refine ⟨lw_of h0 (b := v1) ?_, hw_of h0 ?_⟩ <;> simp only [cmv1] <;> unfold W64 at * <;> omega
  · rw [if_neg h, if_neg h]
    refine ⟨lw_of s0 (b := t1) ?_, hw_of s0 ?_⟩ <;> simp only [cmv0] <;> unfold W64 at * <;> unfold B01 at * <;> omega

theorem add128_law {a b : Nat} (ha : a < P128) (hb : b < P128) :
    add128l (lw a) (hw a) (lw b) (hw b) = lw ((a + b) % P128) ∧ add128h (lw a) (hw a) (lw b) (hw b) = hw ((a + b) % P128) := by
  have ha' : a < R128 := by simp only [P128, R128] at *; omega
  have hb' : b < R128 := by simp only [P128, R128] at *; omega
  have s0 := sum_law (W64.lw a) (W64.lw b) B01.zero
  have s1 := sum_law (W64.hw ha') (W64.hw hb') (B01.ac (lw a) (lw b) 0)
  have e := red128_law (W64.as (lw a) (lw b) 0) (W64.as (hw a) (hw b) (ac64 (lw a) (lw b) 0)) (v2 := ac64 (hw a) (hw b) (ac64 (lw a) (lw b) 0))
    (by rcases B01.ac (hw a) (hw b) (ac64 (lw a) (lw b) 0) with h | h <;> omega) (by rcases B01.ac (hw a) (hw b) (ac64 (lw a) (lw b) 0) with h | h <;> omega) (a + b)
    (by have h1 := lw_hw a; have h2 := lw_hw b; omega) (by simp only [P128] at *; omega)
  rw [add_gen P128 a b ha hb] at e
  exact e

theorem mul128_law {a b : Nat} (ha : a < R128) (hb : b < R128) (h : a * b < R128 * P128) :
    mul128l (lw a) (hw a) (lw b) (hw b) = lw (a * b * I128 % P128) ∧ mul128h (lw a) (hw a) (lw b) (hw b) = hw (a * b * I128 % P128) := by
  obtain ⟨m, m0, m1, e, w0, w1, w2, w2'⟩ := mul128V_law (W64.lw a) (W64.hw ha) (W64.lw b) (W64.hw hb)
  have hab : (lw a * lw b + 18446744073709551616 * (lw a * hw b)) + 18446744073709551616 * (hw a * lw b + 18446744073709551616 * (hw a * hw b)) = ((a * b : Nat) : Int) := by
    rw [Int.natCast_mul, ← lw_hw a, ← lw_hw b, ← prod4]
  rw [hab] at e
  unfold mul128l mul128h
  generalize mul128V (lw a) (hw a) (lw b) (hw b) = V at *
  obtain ⟨v0, v1, v2⟩ := V
  dsimp only at *
  have hV0 : 0 ≤ v0 + 18446744073709551616 * v1 + 340282366920938463463374607431768211456 * v2 := by unfold W64 at w0 w1; omega
  obtain ⟨n, hn⟩ := Int.eq_ofNat_of_zero_le hV0
  obtain ⟨k, rfl⟩ := Int.eq_ofNat_of_zero_le m0
  have hV : R128 * n = a * b + k * P128 := by
    simp only [R128, P128]
    apply Int.ofNat_inj.1
    rw [Int.natCast_add, Int.natCast_mul (340282366920938463463374607431768211456 : Nat), Int.natCast_mul k]
    rw [hn] at e
    exact e
  have hlt : n < 2 * P128 := by
    simp only [R128, P128] at *
    omega
  have main := mont_gen P128 R128 I128 (a * b) n k (by decide) (by decide) (by simp only [R128]; omega) h hV
  rw [← main]
  exact red128_law w0 w1 w2 w2' n hn hlt
end Go.Proofs.YtlmmdldjfpdcfaaGreatDoor

/-
  fp64's numbers: into the code's form and back, and added in place.
-/
namespace Go.Proofs.YtlmmdldjfpdcfaaGreatDoor
open Go.RowKit

/-- What a number in the code's form stands for, and its form. -/
def val64 (v : Nat) : Nat := v * I64 % P64
def tom64 (v : Nat) : Nat := v * R64 % P64
theorem tom64_lt (v : Nat) : tom64 v < P64 := Nat.mod_lt _ (by decide)
theorem val64_lt (v : Nat) : val64 v < P64 := Nat.mod_lt _ (by decide)
theorem val_tom64 {v : Nat} (h : v < P64) : val64 (tom64 v) = v := val_tom P64 R64 I64 v (by decide) h
theorem val_add64 (a b : Nat) : val64 ((a + b) % P64) = (val64 a + val64 b) % P64 := val_add P64 I64 a b
theorem W64.ofP {v : Nat} (h : v < P64) : W64 (v : Int) := by simp only [P64] at h; unfold W64; omega
theorem W64.rsq : W64 18446744065119617025 := by unfold W64; omega
theorem mul64_rsq {v : Nat} (h : v < P64) : mul64f (v : Int) 18446744065119617025 = ((tom64 v : Nat) : Int) := by
  have e := mul64_law (a := v) (b := 18446744065119617025) (by simp only [R64, P64] at *; omega)
  rw [tom_mul P64 R64 18446744065119617025 I64 v (by decide)] at e
  exact e
theorem mul64_one {v : Nat} (h : v < P64) : mul64f (v : Int) 1 = ((val64 v : Nat) : Int) := by
  have e := mul64_law (a := v) (b := 1) (by simp only [R64, P64] at *; omega)
  rw [Nat.mul_one] at e
  exact e

theorem rSquare64 (w : World) : Calls Tryz.prog 107 #[] w fun e w' => e = .returned (.pointer (some ⟨w.heap.size, 0, none⟩)) ∧ w.alloc (.cells #[.int .u64 18446744065119617025] 44) = w' := by
  go_enter Tryz.func107, Tryz.ntmps107
  go_wp2
  go_ret
  exact ⟨rfl, rfl⟩

theorem toMont64 {bo oo v : Nat} {w : World} (hv : v < P64) (hco : w.cell? ⟨bo, oo, none⟩ = some (.int .u64 (v : Int))) (hfo : w.frozen? ⟨bo, oo, none⟩ = false) :
    Calls Tryz.prog 88 #[.pointer (some ⟨bo, oo, none⟩)] w fun e w' => e = .returned (.tuple #[]) ∧ Ext (w.setCell ⟨bo, oo, none⟩ (.int .u64 (tom64 v : Nat))) w' No := by
  have lo : bo < w.heap.size := World.block_lt_of_cell? _ _ hco
  have E := Lib.hid (mul64_rsq hv)
  go_enter Tryz.func88, Tryz.ntmps88
  go_wp2_with (first
    | (go_at_call 107; refine (rSquare64 _).mono ?_; rintro e w' ⟨rfl, rfl⟩)
    | (go_at_call 106; refine (mul_fp64 (W64.ofP hv) W64.rsq (cell_alloc hco _) (frz_alloc lo hfo _) (cell_alloc hco _) (blk_cell (blk_new _ _) 0)).mono ?_; rintro e w' ⟨rfl, hx⟩))
  go_end0
  exact ⟨rfl, by rw [← E.out]; exact (ext_alloc_set lo _ _ _).transNo hx⟩
end Go.Proofs.YtlmmdldjfpdcfaaGreatDoor

/-
  Bytes: a number of eight of them, the lowest first, read and written.
-/
namespace Go.Proofs.YtlmmdldjfpdcfaaGreatDoor
open Go.RowKit

/-- The number of bytes, the lowest first. -/
def leL : List Nat → Nat
  | [] => 0
  | b :: l => b + 256 * leL l
theorem leL_lt (l : List Nat) (h : ∀ b ∈ l, b < 256) : leL l < 256 ^ l.length := by
  induction l with
  | nil => simp [leL]
  | cons b l ih =>
    have := h b (by simp)
    have := ih (fun c hc => h c (by simp [hc]))
    simp only [leL, List.length_cons, Nat.pow_succ]
    omega
theorem leL_drop (l : List Nat) (k : Nat) (h : k < l.length) : leL (l.drop k) = l.getD k 0 + 256 * leL (l.drop (k + 1)) := by
  rw [List.drop_eq_getElem_cons h]
  simp [leL, List.getD, h]

theorem leL_bound (l : List Nat) (h : ∀ b ∈ l, b < 256) (k : Nat) (hk : l.length ≤ k) : leL l < 256 ^ k :=
  Nat.lt_of_lt_of_le (leL_lt l h) (Nat.pow_le_pow_right (by decide) hk)
theorem or_byte (a b : Nat) (ha : a < 72057594037927936) (hb : b < 256) :
    bits .or .u64 (IntKind.u64.wrap ((a : Int) * 256)) (IntKind.u64.wrap (b : Int)) = ((b + 256 * a : Nat) : Int) := by
  have e1 : IntKind.u64.wrap ((a : Int) * 256) = ((a * 256 : Nat) : Int) := by rw [IntKind.wrap_u64]; omega
  have e2 : IntKind.u64.wrap (b : Int) = (b : Int) := by rw [IntKind.wrap_u64]; omega
  rw [e1, e2, bits_or_u64_nat _ _ (by omega) (by omega)]
  have h := Nat.shiftLeft_add_eq_or_of_lt (i := 8) (b := b) (by omega) a
  rw [Nat.shiftLeft_eq] at h
  rw [show a * 256 = a * 2 ^ 8 from rfl, ← h]
  congr 1
  omega
theorem getD_lt (l : List Nat) (h : ∀ b ∈ l, b < 256) (k : Nat) : l.getD k 0 < 256 := by
  rw [List.getD_eq_getElem?_getD]
  cases hk : l[k]? with
  | none => simp
  | some x => exact h x (List.mem_of_getElem? hk)
theorem leL_step (l : List Nat) (hl : l.length = 8) (h : ∀ b ∈ l, b < 256) (k : Nat) (hk : k < 8) :
    bits .or .u64 (IntKind.u64.wrap ((leL (l.drop (k + 1)) : Nat) * 256)) (IntKind.u64.wrap (l[k]?.getD 0 : Nat)) = ((leL (l.drop k) : Nat) : Int) := by
  have e := leL_drop l k (by omega)
  have b1 := leL_bound (l.drop (k + 1)) (fun b hb => h b (List.mem_of_mem_drop hb)) 7 (by simp; omega)
  have b2 := getD_lt l h k
  rw [e, ← List.getD_eq_getElem?_getD]
  exact or_byte _ _ (Nat.lt_of_lt_of_le b1 (by decide)) b2

theorem le64 {b o n c : Nat} {w : World} (l : List Nat) (hl : l.length = 8) (hb : ∀ x ∈ l, x < 256) (hn : 8 ≤ n) (hn' : n < 1000)
    (hc : ∀ i, i < 8 → w.cell? ⟨b, o + i, none⟩ = some (.int .u8 (l.getD i 0 : Nat))) :
    Calls Tryz.prog 156 #[.slice (some ⟨b, o, none⟩) n c] w fun e w' => e = .returned (.int .u64 (leL l : Nat)) ∧ w = w' := by
  have Hl := Lib.hid hl; clear hl
  have Hb := Lib.hid hb; clear hb
  have Hc := Lib.hid hc; clear hc
  go_enter Tryz.func156, Tryz.ntmps156
  go_wp2
  go_loop [3, 4] (fun v i => ∃ k : Nat, k ≤ 8 ∧ i = .int .i64 ((k : Int) - 1) ∧ v = .int .u64 (leL (l.drop k) : Nat)) (fun _ i => (intOf i + 1).toNat)
  case atStart => exact ⟨8, by omega, rfl, by rw [List.drop_of_length_le (by rw [Hl.out]; omega)]; rfl⟩
  case round =>
    obtain ⟨k, hk, rfl, rfl⟩ := hrel
    by_cases h0 : k = 0
    · subst h0
      go_wp2
      go_ret
      exact ⟨rfl, rfl⟩
    · obtain ⟨k, rfl⟩ : ∃ j, k = j + 1 := ⟨k - 1, by omega⟩
      have hk' := Hc.out k (by omega)
      go_wp2
      exact ⟨⟨k, by omega, rfl, by rw [leL_step l Hl.out Hb.out k (by omega)]⟩, by simp [intOf]⟩

/-- The bytes of a number, the lowest first. -/
def bytesL : Nat → Nat → List Nat
  | 0, _ => []
  | n + 1, v => v % 256 :: bytesL n (v / 256)
theorem bytesL_len (n v : Nat) : (bytesL n v).length = n := by
  induction n generalizing v with
  | zero => rfl
  | succ n ih => simp [bytesL, ih]
theorem bytesL_snoc (n v : Nat) : bytesL (n + 1) v = bytesL n v ++ [v / 256 ^ n % 256] := by
  induction n generalizing v with
  | zero => simp [bytesL]
  | succ n ih =>
    rw [bytesL, ih (v / 256), bytesL, List.cons_append, Nat.div_div_eq_div_mul, Nat.pow_succ, Nat.mul_comm (256 ^ n) 256]
def u8s (l : List Nat) : List Value := l.map fun b => .int .u8 (b : Nat)
/-- Values laid over cells, from a place on. -/
def putL (cs : Array Value) (o : Nat) : List Value → Array Value
  | [] => cs
  | x :: l => putL (cs.setIfInBounds o x) (o + 1) l
theorem putL_size (cs : Array Value) (o : Nat) (l : List Value) : (putL cs o l).size = cs.size := by
  induction l generalizing cs o with
  | nil => rfl
  | cons x l ih => simp [putL, ih]
theorem putL_snoc (cs : Array Value) (o : Nat) (l : List Value) (x : Value) : putL cs o (l ++ [x]) = (putL cs o l).setIfInBounds (o + l.length) x := by
  induction l generalizing cs o with
  | nil => rfl
  | cons y l ih => simp only [List.cons_append, putL, List.length_cons, ih]; rw [Nat.add_assoc, Nat.add_comm 1]

theorem byte_at (v k : Nat) : ((v : Int) / 2 ^ (8 * k) % 256) = ((v / 256 ^ k % 256 : Nat) : Int) := by
  have e : (256 : Nat) ^ k = 2 ^ (8 * k) := by rw [Nat.pow_mul]
  rw [e]
  simp
theorem putL_u8s (cs : Array Value) (o k v : Nat) : (putL cs o (u8s (bytesL k v))).setIfInBounds (o + k) (.int .u8 ((v : Int) / 2 ^ (8 * k) % 256)) = putL cs o (u8s (bytesL (k + 1) v)) := by
  have e : u8s (bytesL (k + 1) v) = u8s (bytesL k v) ++ [.int .u8 ((v : Int) / 2 ^ (8 * k) % 256)] := by
    rw [bytesL_snoc, byte_at]; simp [u8s]
  rw [e, putL_snoc]
  simp [u8s, bytesL_len]
theorem put64 {b o n c v : Nat} {w : World} {cs : Array Value} {t : TypeId} (hn : 8 ≤ n) (hn' : n < 1000)
    (hb : w.heap[b]? = some (.cells cs t (0, 0))) (hs : o + 8 ≤ cs.size) :
    Calls Tryz.prog 152 #[.slice (some ⟨b, o, none⟩) n c, .int .u64 (v : Nat)] w fun e w' =>
      e = .returned (.tuple #[]) ∧ Ext w w' (· = b) ∧ w'.heap[b]? = some (.cells (putL cs o (u8s (bytesL 8 v))) t (0, 0)) := by
  have Hb := Lib.hid hb; clear hb
  go_enter Tryz.func152, Tryz.ntmps152
  go_wp2
  go_loopw [4] (fun i wr => ∃ k : Nat, k ≤ 8 ∧ i = .int .i64 k ∧ Ext w wr (· = b) ∧ Hid (wr.heap[b]? = some (.cells (putL cs o (u8s (bytesL k v))) t (0, 0)))) (fun i _ => 8 - (intOf i).toNat)
  case atStart => exact ⟨0, by omega, rfl, Ext.refl _ _, Hb⟩
  case round =>
    obtain ⟨k, hk, rfl, hx, hB⟩ := hrel
    by_cases h8 : k = 8
    · subst h8
      go_wp2
      go_end0
      exact ⟨rfl, hx, hB.out⟩
    · have hlt : k < 8 := by omega
      have hcell : ∃ u, wr.cell? ⟨b, o + k, none⟩ = some u := by
        rw [blk_cell hB.out]
        exact ⟨_, Array.getElem?_eq_getElem (by rw [putL_size]; omega)⟩
      obtain ⟨u, hu⟩ := hcell
      have hf := blk_frz hB.out (o + k)
      go_wp2
      exact ⟨⟨k + 1, by omega, by go_num, hx.set (.inr rfl) _, by have h := blk_set hB.out (o + k) (.int .u8 ((v : Int) / 2 ^ (8 * k) % 256)); rw [putL_u8s] at h; exact h⟩, by simp [intOf]; omega⟩
end Go.Proofs.YtlmmdldjfpdcfaaGreatDoor
