import PyProof.Rows.All
import Wide.All
import OpenK.AllK
import Wide.FinOn
import PySem.Challenge.RW_dn0134_09
open PySem PySem.W PyProof.Rows
set_option Elab.async false
namespace Mine
open PySem.Builtin.Int (intBits)

theorem ppos (k : Nat) : (0 : Int) < 2 ^ k := kbt_pos k
theorem pmono {i j : Nat} (h : i ≤ j) : (2 : Int) ^ i ≤ 2 ^ j := by
  have := Nat.pow_le_pow_right (n := 2) (by decide) h
  rw [← kbt_cast, ← kbt_cast]; omega
theorem uniqNN {q b r q' r' : Int} (h : q * b + r = q' * b + r') (r0 : 0 ≤ r) (r1 : r < b) (r0' : 0 ≤ r') (r1' : r' < b) : q = q' ∧ r = r' := by
  have hb : 0 < b := by omega
  have h1 := kbt_unique (a := q * b + r) (b := b) (q := q) (r := r) hb (by rw [Int.mul_comm b q]; omega) r0 r1
  have h2 := kbt_unique (a := q * b + r) (b := b) (q := q') (r := r') hb (by rw [Int.mul_comm b q']; omega) r0' r1'
  exact ⟨h1.1.symm.trans h2.1, h1.2.symm.trans h2.2⟩
theorem mul_le_of {a b c : Int} (hc : 0 ≤ c) (h : a ≤ b) : a * c ≤ b * c := Int.mul_le_mul_of_nonneg_right h hc
theorem mul_lt_of {a b c : Int} (hc : 0 < c) (h : a < b) : a * c < b * c := Int.mul_lt_mul_of_pos_right h hc
theorem lt_of_mul {a b c : Int} (hc : 0 < c) (h : a * c < b * c) : a < b := Int.lt_of_mul_lt_mul_right h (Int.le_of_lt hc)
theorem bits_of_lt {x : Int} {k : Nat} (h0 : 0 ≤ x) (h : x < 2 ^ k) : intBits x ≤ k := by
  refine intBits_le_iff.mpr ?_
  have := kbt_cast k
  omega
theorem lt_of_bits {x : Int} {k : Nat} (h : intBits x ≤ k) : x < 2 ^ k := by
  have h1 := intBits_le_iff.mp h
  have := kbt_cast k
  omega
theorem fdivP (a : Int) (k : Nat) : a.fdiv (2 ^ k) = a / 2 ^ k := Int.fdiv_eq_ediv_of_nonneg _ (Int.le_of_lt (kbt_pos k))
theorem and_all (x : Int) : Builtin.bitAnd x (-1) = x := by
  have hn : ¬ (0 : Int) ≤ -1 := by decide
  have e : (Builtin.bitNot (-1)).toNat = 0 := by decide
  by_cases hx : 0 ≤ x
  · rw [bitAnd_pn hx hn, e, Nat.and_zero]; simp
  · rw [bitAnd_nn hx hn, e, Nat.or_zero]
    unfold Builtin.bitNot
    omega
/-- the bits of the one and of the other -/
theorem or_add {x y : Int} {k : Nat} (y0 : 0 ≤ y) (y1 : y < 2 ^ k) : Builtin.bitOr (x * 2 ^ k) y = x * 2 ^ k + y := by
  have hp := kbt_pos k
  have key : ∀ k : Nat, ∀ x y : Int, 0 ≤ y → y < 2 ^ k → Builtin.bitAnd (Builtin.bitNot (x * 2 ^ k)) (Builtin.bitNot y) = Builtin.bitNot (x * 2 ^ k + y) := by
    intro k
    induction k with
    | zero =>
      intro x y h0 h1
      have : y = 0 := by rw [Int.pow_zero] at h1; omega
      subst this
      rw [Int.add_zero]
      have e : Builtin.bitNot 0 = -1 := rfl
      rw [e, and_all]
    | succ k ih =>
      intro x y h0 h1
      rw [Int.pow_succ] at h1
      rw [kbt_halves]
      have e1 : Builtin.bitNot (x * 2 ^ (k + 1)) / 2 = Builtin.bitNot (x * 2 ^ k) := by
        unfold Builtin.bitNot
        rw [Int.pow_succ, ← Int.mul_assoc]; omega
      have e2 : Builtin.bitNot y / 2 = Builtin.bitNot (y / 2) := by unfold Builtin.bitNot; omega
      rw [e1, e2, ih x (y / 2) (by omega) (by omega)]
      unfold Builtin.bitNot
      rw [Int.pow_succ, ← Int.mul_assoc]
      generalize x * 2 ^ k = z
      split <;> omega
  unfold Builtin.bitOr
  rw [key k x y y0 y1]
  unfold Builtin.bitNot; omega
end Mine
namespace Mine
open PySem.Builtin.Int (intBits)
structure Pre2 (a b n q r : Int) : Prop where
  n1 : 1 ≤ n
  e : a = q * b + r
  q0 : 0 ≤ q
  q1 : q < 2 ^ n.toNat
  r0 : 0 ≤ r
  r1 : r < b
  b1 : 2 ^ (n.toNat - 1) ≤ b
  b2 : b < 2 ^ n.toNat
structure Pre3 (a12 a3 b b1 b2 n q r : Int) : Prop where
  n1 : 1 ≤ n
  ea : a12 * 2 ^ n.toNat + a3 = q * b + r
  q0 : 0 ≤ q
  q1 : q < 2 ^ n.toNat
  r0 : 0 ≤ r
  r1 : r < b
  e : b = b1 * 2 ^ n.toNat + b2
  b10 : 2 ^ (n.toNat - 1) ≤ b1
  b11 : b1 < 2 ^ n.toNat
  b20 : 0 ≤ b2
  b21 : b2 < 2 ^ n.toNat
  a30 : 0 ≤ a3
  a31 : a3 < 2 ^ n.toNat
section
variable {a12 a3 b b1 b2 n q r : Int}
theorem Pre3.a12b (H : Pre3 a12 a3 b b1 b2 n q r) : 0 ≤ a12 ∧ a12 < b := by
  obtain ⟨n1, ea, q0, q1, r0, r1, e, b10, b11, b20, b21, a30, a31⟩ := H
  have hP := ppos n.toNat
  have hB := ppos (n.toNat - 1)
  generalize (2 : Int) ^ n.toNat = P at *
  have hb1 : 0 ≤ b1 * P := Int.mul_nonneg (by omega) (by omega)
  have hb : 0 < b := by omega
  constructor
  · have h0 : 0 ≤ q * b := Int.mul_nonneg q0 (by omega)
    have : (-1) * P < a12 * P := by omega
    have := lt_of_mul hP this
    omega
  · refine lt_of_mul hP ?_
    have h1 : (q + 1) * b ≤ P * b := mul_le_of (by omega) (by omega)
    rw [Int.add_mul, Int.one_mul, Int.mul_comm P b] at h1
    omega
theorem Pre3.eqCase (H : Pre3 a12 a3 b b1 b2 n q r) (h : a12 / 2 ^ n.toNat = b1) :
    (2 ^ n.toNat - 1) * b + ((a12 - b1 * 2 ^ n.toNat + b1) * 2 ^ n.toNat + a3 - (2 ^ n.toNat - 1) * b2) = q * b + r ∧
      (a12 - b1 * 2 ^ n.toNat + b1) * 2 ^ n.toNat + a3 - (2 ^ n.toNat - 1) * b2 < b ∧ 0 ≤ a12 - b1 * 2 ^ n.toNat + b1 ∧ a12 - b1 * 2 ^ n.toNat + b1 < 2 ^ (n.toNat + 1) := by
  have h2 := H.a12b
  obtain ⟨n1, ea, q0, q1, r0, r1, e, b10, b11, b20, b21, a30, a31⟩ := H
  have hP := ppos n.toNat
  have hB := ppos (n.toNat - 1)
  have hs : (2 : Int) ^ (n.toNat + 1) = 2 ^ n.toNat * 2 := Int.pow_succ ..
  rw [hs]
  generalize (2 : Int) ^ n.toNat = P at *
  have hm := Int.emod_nonneg a12 (show P ≠ 0 by omega)
  have hm2 := Int.emod_lt_of_pos a12 hP
  have hd := Int.emod_def a12 P
  rw [h, Int.mul_comm P b1] at hd
  generalize hx : a12 - b1 * P = x at *
  have h3 : x * P ≤ (b2 - 1) * P := mul_le_of (by omega) (by omega)
  have e1 : (x + b1) * P = x * P + b1 * P := Int.add_mul ..
  have e2 : (b2 - 1) * P = b2 * P - P := by rw [Int.sub_mul, Int.one_mul]
  have e3 : (P - 1) * b2 = b2 * P - b2 := by rw [Int.sub_mul, Int.one_mul, Int.mul_comm]
  have e4 : (P - 1) * b = b * P - b := by rw [Int.sub_mul, Int.one_mul, Int.mul_comm]
  have e5 : b * P = b1 * P * P + b2 * P := by rw [e, Int.add_mul]
  have e6 : a12 * P = b1 * P * P + x * P := by rw [← hx, Int.sub_mul]; omega
  refine ⟨by omega, by omega, by omega, by omega⟩
theorem Pre3.neCase (H : Pre3 a12 a3 b b1 b2 n q r) (h : a12 / 2 ^ n.toNat ≠ b1) : ∃ q' r', Pre2 a12 b1 n q' r' := by
  have h2 := H.a12b
  obtain ⟨n1, ea, q0, q1, r0, r1, e, b10, b11, b20, b21, a30, a31⟩ := H
  have hP := ppos n.toNat
  have hB := ppos (n.toNat - 1)
  have hb1 : 0 < b1 := by omega
  have h3 : a12 < b1 * 2 ^ n.toNat := by
    generalize (2 : Int) ^ n.toNat = P at *
    have h4 : a12 / P < b1 + 1 := Int.ediv_lt_of_lt_mul hP (by rw [Int.add_mul]; omega)
    exact Int.lt_mul_of_ediv_lt hP (by omega)
  refine ⟨a12 / b1, a12 % b1, n1, ?_, Int.ediv_nonneg h2.1 (by omega), Int.ediv_lt_of_lt_mul hb1 (by rw [Int.mul_comm]; exact h3), Int.emod_nonneg _ (by omega), Int.emod_lt_of_pos _ hb1, b10, b11⟩
  rw [Int.mul_comm]; exact (Int.mul_ediv_add_emod a12 b1).symm
theorem Pre3.ne2 (H : Pre3 a12 a3 b b1 b2 n q r) {q' r' : Int} (h : Pre2 a12 b1 n q' r') :
    q' * b + (r' * 2 ^ n.toNat + a3 - q' * b2) = q * b + r ∧ r' * 2 ^ n.toNat + a3 - q' * b2 < b := by
  obtain ⟨n1, ea, q0, q1, r0, r1, e, b10, b11, b20, b21, a30, a31⟩ := H
  obtain ⟨_, e', q0', q1', r0', r1', _, _⟩ := h
  have hP := ppos n.toNat
  generalize (2 : Int) ^ n.toNat = P at *
  have h1 : 0 ≤ q' * b2 := Int.mul_nonneg q0' b20
  have h2 : r' * P ≤ (b1 - 1) * P := mul_le_of (by omega) (by omega)
  have e2 : (b1 - 1) * P = b1 * P - P := by rw [Int.sub_mul, Int.one_mul]
  refine ⟨?_, by omega⟩
  rw [← ea, e', e, Int.mul_add, Int.add_mul, ← Int.mul_assoc]
  omega
end
section
variable {a b n q r : Int}
theorem Pre2.pad (H : Pre2 a b n q r) : Pre2 (a * 2) (b * 2) (n + 1) q (r * 2) := by
  obtain ⟨n1, e, q0, q1, r0, r1, b1, b2⟩ := H
  have e1 : (n + 1).toNat = n.toNat + 1 := by omega
  have e2 : (n + 1).toNat - 1 = (n.toNat - 1) + 1 := by omega
  have hs : (2 : Int) ^ (n.toNat + 1) = 2 ^ n.toNat * 2 := Int.pow_succ ..
  have hs' : (2 : Int) ^ (n.toNat - 1 + 1) = 2 ^ (n.toNat - 1) * 2 := Int.pow_succ ..
  have hP := ppos n.toNat
  refine ⟨by omega, ?_, q0, ?_, by omega, by omega, ?_, ?_⟩
  · rw [e, Int.add_mul, Int.mul_assoc]
  · rw [e1, hs]; omega
  · rw [e2, hs']; omega
  · rw [e1, hs]; omega
/-- the first half's division and the second's -/
theorem Pre2.halves (H : Pre2 a b n q r) {h : Int} (hn : n = h * 2) : ∃ q1 r1 q2, Pre3 (a / 2 ^ n.toNat) ((a / 2 ^ h.toNat) % 2 ^ h.toNat) b (b / 2 ^ h.toNat) (b % 2 ^ h.toNat) h q1 r1 ∧
    Pre3 r1 (a % 2 ^ h.toNat) b (b / 2 ^ h.toNat) (b % 2 ^ h.toNat) h q2 r ∧ q = q1 * 2 ^ h.toNat + q2 := by
  obtain ⟨n1, e, q0, q1, r0, r1, b1, b2⟩ := H
  have hb : 0 < b := by omega
  have hk : n.toNat = h.toNat + h.toNat := by omega
  have hk' : n.toNat - 1 = (h.toNat - 1) + h.toNat := by omega
  have hP := ppos h.toNat
  have hP' := ppos (h.toNat - 1)
  have ep : (2 : Int) ^ n.toNat = 2 ^ h.toNat * 2 ^ h.toNat := by rw [hk, Int.pow_add]
  have ep' : (2 : Int) ^ (n.toNat - 1) = 2 ^ (h.toNat - 1) * 2 ^ h.toNat := by rw [hk', Int.pow_add]
  have h1 : 1 ≤ h := by omega
  rw [ep] at b2 q1 ⊢
  rw [ep'] at b1
  have a0 : 0 ≤ a := by
    have : 0 ≤ q * b := Int.mul_nonneg q0 (by omega)
    omega
  have k1 : 2 ^ (h.toNat - 1) ≤ b / 2 ^ h.toNat := Int.le_ediv_of_mul_le hP b1
  have k2 : b / 2 ^ h.toNat < 2 ^ h.toNat := Int.ediv_lt_of_lt_mul hP b2
  have k3 := Int.emod_nonneg b (show (2 : Int) ^ h.toNat ≠ 0 by omega)
  have k4 := Int.emod_lt_of_pos b hP
  have k5 : b = b / 2 ^ h.toNat * 2 ^ h.toNat + b % 2 ^ h.toNat := by rw [Int.mul_comm]; exact (Int.mul_ediv_add_emod b _).symm
  have c3 := Int.emod_nonneg (a / 2 ^ h.toNat) (show (2 : Int) ^ h.toNat ≠ 0 by omega)
  have c4 := Int.emod_lt_of_pos (a / 2 ^ h.toNat) hP
  have d3 := Int.emod_nonneg a (show (2 : Int) ^ h.toNat ≠ 0 by omega)
  have d4 := Int.emod_lt_of_pos a hP
  have f1 : a / (2 ^ h.toNat * 2 ^ h.toNat) = a / 2 ^ h.toNat / 2 ^ h.toNat := (Int.ediv_ediv_of_nonneg (by omega)).symm
  rw [f1]
  have f2 : a / 2 ^ h.toNat / 2 ^ h.toNat * 2 ^ h.toNat + (a / 2 ^ h.toNat) % 2 ^ h.toNat = a / 2 ^ h.toNat := by rw [Int.mul_comm]; exact Int.mul_ediv_add_emod _ _
  have f3 : a / 2 ^ h.toNat * 2 ^ h.toNat + a % 2 ^ h.toNat = a := by rw [Int.mul_comm]; exact Int.mul_ediv_add_emod _ _
  have g0 : 0 ≤ a / 2 ^ h.toNat := Int.ediv_nonneg a0 (by omega)
  have g1 : a / 2 ^ h.toNat < 2 ^ h.toNat * b := by
    refine Int.ediv_lt_of_lt_mul hP ?_
    have h3 : (q + 1) * b ≤ 2 ^ h.toNat * 2 ^ h.toNat * b := mul_le_of (by omega) (by omega)
    rw [Int.add_mul, Int.one_mul] at h3
    rw [Int.mul_right_comm]
    omega
  generalize hx : a / 2 ^ h.toNat = x at *
  have m1 := Int.emod_nonneg x (show b ≠ 0 by omega)
  have m2 := Int.emod_lt_of_pos x hb
  have m3 : x = x / b * b + x % b := by rw [Int.mul_comm]; exact (Int.mul_ediv_add_emod x b).symm
  have m4 : x / b < 2 ^ h.toNat := Int.ediv_lt_of_lt_mul hb g1
  have m5 : 0 ≤ x / b := Int.ediv_nonneg g0 (by omega)
  generalize x / b = y at *
  generalize x % b = z at *
  have w0 : 0 ≤ z * 2 ^ h.toNat := Int.mul_nonneg m1 (by omega)
  have w1 : z * 2 ^ h.toNat ≤ (b - 1) * 2 ^ h.toNat := mul_le_of (by omega) (by omega)
  have w2 : (b - 1) * 2 ^ h.toNat = 2 ^ h.toNat * b - 2 ^ h.toNat := by rw [Int.sub_mul, Int.one_mul, Int.mul_comm]
  have v1 := Int.emod_nonneg (z * 2 ^ h.toNat + a % 2 ^ h.toNat) (show b ≠ 0 by omega)
  have v2 := Int.emod_lt_of_pos (z * 2 ^ h.toNat + a % 2 ^ h.toNat) hb
  have v3 : z * 2 ^ h.toNat + a % 2 ^ h.toNat = (z * 2 ^ h.toNat + a % 2 ^ h.toNat) / b * b + (z * 2 ^ h.toNat + a % 2 ^ h.toNat) % b := by
    generalize z * 2 ^ h.toNat + a % 2 ^ h.toNat = y'
    rw [Int.mul_comm]; exact (Int.mul_ediv_add_emod _ b).symm
  have v4 : (z * 2 ^ h.toNat + a % 2 ^ h.toNat) / b < 2 ^ h.toNat := Int.ediv_lt_of_lt_mul hb (by omega)
  have v5 : 0 ≤ (z * 2 ^ h.toNat + a % 2 ^ h.toNat) / b := Int.ediv_nonneg (by omega) (by omega)
  generalize hu : (z * 2 ^ h.toNat + a % 2 ^ h.toNat) / b = u at *
  generalize hv : (z * 2 ^ h.toNat + a % 2 ^ h.toNat) % b = v at *
  have U : q = y * 2 ^ h.toNat + u ∧ r = v := by
    refine uniqNN (b := b) ?_ r0 r1 v1 v2
    rw [← e, ← f3, m3, Int.add_mul, Int.add_mul, Int.mul_right_comm y b]
    omega
  obtain ⟨U1, rfl⟩ := U
  exact ⟨y, z, u, ⟨h1, by rw [f2]; exact m3, m5, m4, m1, m2, k5, k1, k2, k3, k4, c3, c4⟩, ⟨h1, v3, v5, v4, v1, v2, k5, k1, k2, k3, k4, d3, d4⟩, U1⟩
end
end Mine
namespace Mine
section
variable {a12 a3 b b1 b2 n q r : Int}
theorem Pre3.start1 (H : Pre3 a12 a3 b b1 b2 n q r) (h : a12.fdiv (2 ^ n.toNat) = b1) :
    (1 * 2 ^ n.toNat - 1) * b + (Builtin.bitOr ((a12 - b1 * 2 ^ n.toNat + b1) * 2 ^ n.toNat) a3 - (1 * 2 ^ n.toNat - 1) * b2) = q * b + r ∧ Builtin.bitOr ((a12 - b1 * 2 ^ n.toNat + b1) * 2 ^ n.toNat) a3 - (1 * 2 ^ n.toNat - 1) * b2 < b := by
  rw [or_add H.a30 H.a31, Int.one_mul]
  have h' := H.eqCase (by rw [← fdivP]; exact h)
  exact ⟨h'.1, h'.2.1⟩
theorem Pre3.start2 (H : Pre3 a12 a3 b b1 b2 n q r) {q' r' : Int} (h : Pre2 a12 b1 n q' r') :
    q' * b + (Builtin.bitOr (r' * 2 ^ n.toNat) a3 - q' * b2) = q * b + r ∧ Builtin.bitOr (r' * 2 ^ n.toNat) a3 - q' * b2 < b := by
  rw [or_add H.a30 H.a31]
  exact H.ne2 h
theorem d3_turn {x y b c : Int} (h : y * b + x = c ∧ x < b) (h0 : x < 0) : (y - 1) * b + (x + b) = c ∧ x + b < b := by
  rw [Int.sub_mul, Int.one_mul]; omega
end
end Mine
namespace Mine
theorem Pre3.fin {a12 a3 b b1 b2 n q r x y : Int} (H : Pre3 a12 a3 b b1 b2 n q r) (h : y * b + x = q * b + r) (h0 : ¬ x < 0) (h1 : x < b) : y = q ∧ x = r :=
  uniqNN h (by omega) h1 H.r0 H.r1
theorem news_sub {h₀ h : Heap} {L : Addr} {news news' : List (Addr × Obj)} (N : News h₀ L h news') (hs : ∀ p ∈ news, p ∈ news') : News h₀ L h news := fun p hp => N p (hs p hp)
theorem sub0 {p : Addr × Obj} {l l' : List (Addr × Obj)} (h : ∀ q ∈ l, q ∈ l') : ∀ q ∈ p :: l, q ∈ p :: l' := fun q hq => (List.mem_cons.mp hq).elim (fun e => e ▸ .head _) fun m => .tail _ (h q m)
theorem sub1 {p : Addr × Obj} {l l' : List (Addr × Obj)} (h : ∀ q ∈ l, q ∈ l') : ∀ q ∈ l, q ∈ p :: l' := fun q hq => .tail _ (h q hq)
theorem subr {l : List (Addr × Obj)} : ∀ q ∈ l, q ∈ l := fun _ h => h
end Mine
namespace Mine
open PySem.Builtin.Int (intBits)
section
variable {a b n q r : Int}
theorem Pre2.a0 (H : Pre2 a b n q r) : 0 ≤ a := by
  have h1 := H.r0; have h2 := H.r1
  have : 0 ≤ q * b := Int.mul_nonneg H.q0 (by omega)
  have := H.e
  omega
theorem Pre2.alt (H : Pre2 a b n q r) : a < 2 ^ (n.toNat + n.toNat) := by
  have h1 := H.r0; have h2 := H.r1
  have h3 : (q + 1) * b ≤ 2 ^ n.toNat * b := mul_le_of (by omega) (by have := H.q1; omega)
  have h4 : b * 2 ^ n.toNat ≤ 2 ^ n.toNat * 2 ^ n.toNat := mul_le_of (Int.le_of_lt (ppos _)) (Int.le_of_lt H.b2)
  rw [Int.pow_add]
  have := H.e
  rw [Int.add_mul, Int.one_mul] at h3
  rw [Int.mul_comm b] at h4
  omega
theorem Pre2.big (H : Pre2 a b n q r) (h : ¬ (intBits a : Int) - n ≤ 4000) : 4000 < n := by
  have h1 := bits_of_lt H.a0 H.alt
  have := H.n1
  omega
theorem and_mask (x : Int) (k : Nat) : Builtin.bitAnd x (1 * 2 ^ k - 1) = x % 2 ^ k := by rw [Int.one_mul, kbt_mask]
theorem Pre2.halvesT (H : Pre2 a b n q r) {h : Int} (hn : n = h * 2) : ∃ q1 r1 q2, Pre3 (a.fdiv (2 ^ n.toNat)) (Builtin.bitAnd (a.fdiv (2 ^ h.toNat)) (1 * 2 ^ h.toNat - 1)) b (b.fdiv (2 ^ h.toNat)) (Builtin.bitAnd b (1 * 2 ^ h.toNat - 1)) h q1 r1 ∧
    Pre3 r1 (Builtin.bitAnd a (1 * 2 ^ h.toNat - 1)) b (b.fdiv (2 ^ h.toNat)) (Builtin.bitAnd b (1 * 2 ^ h.toNat - 1)) h q2 r ∧ Builtin.bitOr (q1 * 2 ^ h.toNat) q2 = q := by
  simp only [fdivP, and_mask]
  obtain ⟨q1, r1, q2, h1, h2, h3⟩ := H.halves hn
  exact ⟨q1, r1, q2, h1, h2, by rw [or_add h2.q0 h2.q1]; exact h3.symm⟩
theorem halves0 (hp : Builtin.bitAnd n 1 = 0) : n = n.fdiv (2 ^ (1 : Int).toNat) * 2 := by
  rw [bitAnd_m1] at hp
  have e : (2 : Int) ^ (1 : Int).toNat = 2 := by decide
  rw [e, Int.fdiv_eq_ediv_of_nonneg _ (by decide)]
  omega
theorem halves1 (hp : Builtin.bitAnd n 1 ≠ 0) : n + 1 = (n + 1).fdiv (2 ^ (1 : Int).toNat) * 2 := by
  rw [bitAnd_m1] at hp
  have e : (2 : Int) ^ (1 : Int).toNat = 2 := by decide
  rw [e, Int.fdiv_eq_ediv_of_nonneg _ (by decide)]
  omega
theorem Pre2.padT (H : Pre2 a b n q r) : Pre2 (a * 2 ^ (1 : Int).toNat) (b * 2 ^ (1 : Int).toNat) (n + 1) q (r * 2) := H.pad
theorem halfLe {n h : Int} {j : Nat} (hn : n = h * 2) (hk : n ≤ 2 ^ (j + 1) + 1) : h ≤ 2 ^ j := by
  rw [Int.pow_succ] at hk; omega
theorem Pre2.fdm (H : Pre2 a b n q r) : a.fdiv b = q ∧ a.fmod b = r := by
  have h1 := H.r0; have h2 := H.r1
  rw [Int.fdiv_eq_ediv_of_nonneg _ (by omega), Int.fmod_eq_emod_of_nonneg _ (by omega)]
  exact kbt_unique (by omega) (by rw [H.e, Int.mul_comm]; omega) h1 h2
end
theorem half_z {prog : Program} {w : World} {A : Around} {E : Value → Shared → Prop} {s : Shared} {Q : Value → Shared → Prop} {n : Int} {t u : Tok} (he : n = n.fdiv (2 ^ (1 : Int).toNat) * 2) (h : ∀ z, n = z * 2 → Q (.int z s.toks) { s with toks := s.toks + 1 }) :
    wpAny (model prog w) A (binaryOp .RShift (.int n t) (.int 1 u)) Q E s := rshift_int (by decide) (h _ he)
theorem ihalf_z {prog : Program} {w : World} {A : Around} {E : Value → Shared → Prop} {s : Shared} {Q : Value → Shared → Prop} {r : Int} {t u : Tok} (h : Q (.int r s.toks) { s with toks := s.toks + 1 }) :
    wpAny (model prog w) A (inplaceOp .RShift (.int (r * 2) t) (.int 1 u)) Q E s := irshift_int (by decide) (by
  have e : (r * 2).fdiv (2 ^ (1 : Int).toNat) = r := by
    have e : (2 : Int) ^ (1 : Int).toNat = 2 := by decide
    rw [e, Int.fdiv_eq_ediv_of_nonneg _ (by decide)]
    omega
  rw [e]; exact h)
abbrev pairO (q r : Int) (t1 t2 : Tok) (c : Nat) : Obj := { cls := .type "tuple", data := .seq #[.int q t1, .int r t2] c }
theorem divmod_D {prog : Program} {w : World} {A : Around} {E : Value → Shared → Prop} {s : Shared} {a b q r : Int} {t u : Tok} {Q : Value → Shared → Prop} {h₀ : Heap} {L : Addr} {m : Str → Option Value} {news : List (Addr × Obj)} (F : Fr h₀ L s.heap m) (N : News h₀ L s.heap news) (hb : b ≠ 0) (hq : a.fdiv b = q ∧ a.fmod b = r)
    (hp : PySem.PylongRoom (model prog w) A s)
    (h : ∀ D t1 t2 h' tk, Fr h₀ L h' m → News h₀ L h' ((D, pairO q r t1 t2 0) :: news) → AllLt D news → Q (.ref D) { s with toks := tk, heap := h' }) :
    wpAny (model prog w) A (call (.builtin "divmod") [.int a t, .int b u]) Q E s := by
  refine divmod_N F N hb (fun h' F' N' => ?_) (Or.inr hp)
  rw [hq.1, hq.2] at N'
  exact h _ _ _ h' _ F' N' (allLt_of fun p hp => Heap.lt_size (N p hp).1)
end Mine
namespace Mine
open PySem.Builtin.Int (intBits)
theorem abs2 (k : Nat) : ((2 : Int) ^ k).natAbs = 2 ^ k := by rw [← kbt_cast, Int.natAbs_natCast]
inductive Abs (z : Int) : Prop where | mk
theorem abs_skip {M : Model} {A : Around} {env : Env} {x : Str} {z : Int} {t : Tok} {Q : Unit → Shared → Prop} {E : Value → Shared → Prop} {s : Shared} (_ : Abs z) (h : wpAny M A (storeName env x (.int z t)) Q E s) : wpAny M A (storeName env x (.int z t)) Q E s := h
theorem abs_store {M : Model} {A : Around} {env : Env} {x : Str} {e : Int} {t : Tok} {Q : Unit → Shared → Prop} {E : Value → Shared → Prop} {s : Shared} {N : Nat} (hb : intBits e ≤ N)
    (h : ∀ z, Abs z → z = e → intBits z ≤ N → wpAny M A (storeName env x (.int z t)) Q E s) : wpAny M A (storeName env x (.int e t)) Q E s := h e .mk rfl hb
section
variable {prog : Program} {w : World} {A : Around} {E : Value → Shared → Prop} {s : Shared} {a b : Int} {t u : Tok} {Q : Value → Shared → Prop}
theorem pow3_z {l : Int} {N : Nat} (hb : intBits l ≤ N) (hN : 2 * N ≤ 100000000) (h : ∀ z, Abs z → z = 3 ^ intBits l → intBits z ≤ 2 * N + 1 → Q (.int z s.toks) { s with toks := s.toks + 1 }) :
    wpAny (model prog w) A (binaryOp .Pow (.int 3 t) (.int (intBits l : Int) u)) Q E s := by
  refine pow_int (by omega) ?_ ?_
  · have e : intBits (3 : Int) = 2 := by decide
    rw [e]
    have : (2 : Int) ^ 27 = 134217728 := by decide
    omega
  · have e : ((intBits l : Int)).toNat = intBits l := by omega
    rw [e]
    refine h _ .mk rfl ?_
    refine Nat.le_trans (intBits_pow_le (m := 2) (by decide) _) ?_
    omega
theorem mod_p {N : Nat} (hc : 0 < b) (hb : intBits b ≤ N) (h : ∀ z, Abs z → z = a.fmod b → 0 ≤ z → z < b → intBits z ≤ N → Q (.int z s.toks) { s with toks := s.toks + 1 }) : wpAny (model prog w) A (binaryOp .Mod (.int a t) (.int b u)) Q E s := by
  have e : a.fmod b = a % b := Int.fmod_eq_emod_of_nonneg _ (Int.le_of_lt hc)
  have h0 := Int.emod_nonneg a (show b ≠ 0 by omega)
  have h1 := Int.emod_lt_of_pos a hc
  rw [← e] at h0 h1
  exact mod_int' (by omega) (h _ .mk rfl h0 h1 (bits_fmod_by (by omega) hb))
theorem pow2_p {e : Int} {N : Nat} (h0 : 0 ≤ e) (h1 : e ≤ N) (hN : N ≤ 10000000) (h : ∀ z, Abs z → z = 2 ^ e.toNat → 0 < z → intBits z ≤ N + 1 → Q (.int z s.toks) { s with toks := s.toks + 1 }) :
    wpAny (model prog w) A (binaryOp .Pow (.int 2 t) (.int e u)) Q E s := by
  refine pow_int h0 ?_ (h _ .mk rfl (kbt_pos _) ?_)
  · have e : intBits (2 : Int) = 2 := by decide
    rw [e]
    have : (2 : Int) ^ 27 = 134217728 := by decide
    omega
  · refine intBits_le_iff.mpr ?_
    have e1 := abs2 e.toNat
    rw [e1]
    exact Nat.pow_lt_pow_right (by decide) (by omega)
theorem shl_p {e x : Int} {N m : Nat} (h0 : 0 ≤ e) (hx : intBits x ≤ m) (h1 : e ≤ N) (hN : m + N ≤ 100000000) (h : ∀ z, Abs z → z = x * 2 ^ e.toNat → intBits z ≤ m + N → Q (.int z s.toks) { s with toks := s.toks + 1 }) :
    wpAny (model prog w) A (binaryOp .LShift (.int x t) (.int e u)) Q E s := by
  refine lshift_int h0 ?_ (h _ .mk rfl ?_)
  · have : (2 : Int) ^ 27 = 134217728 := by decide
    omega
  · by_cases hx0 : x = 0
    · subst hx0
      rw [Int.zero_mul]
      exact Nat.zero_le _
    refine intBits_le_iff.mpr ?_
    have e1 := abs2 e.toNat
    rw [Int.natAbs_mul, e1]
    have h2 := intBits_le_iff.mp hx
    have h3 : x.natAbs * 2 ^ e.toNat < 2 ^ m * 2 ^ e.toNat := Nat.mul_lt_mul_of_pos_right h2 (Nat.two_pow_pos _)
    rw [← Nat.pow_add] at h3
    exact Nat.lt_of_lt_of_le h3 (Nat.pow_le_pow_right (by decide) (by omega))
theorem shr_p {e x : Int} {m : Nat} (h0 : 0 ≤ e) (hx : intBits x ≤ m) (h : ∀ z, Abs z → z = x / 2 ^ e.toNat → intBits z ≤ m → Q (.int z s.toks) { s with toks := s.toks + 1 }) :
    wpAny (model prog w) A (binaryOp .RShift (.int x t) (.int e u)) Q E s := by
  have e1 := fdivP x e.toNat
  exact rshift_int h0 (by rw [e1]; exact h _ .mk rfl (by rw [← e1]; exact bits_fdiv hx))
theorem fdv_p {m : Nat} (hc : 0 < b) (hx : intBits a ≤ m) (hp : PySem.PylongRoom (model prog w) A s) (h : ∀ z, Abs z → z = a / b → intBits z ≤ m → Q (.int z s.toks) { s with toks := s.toks + 1 }) :
    wpAny (model prog w) A (binaryOp .FloorDiv (.int a t) (.int b u)) Q E s := by
  have e1 : a.fdiv b = a / b := Int.fdiv_eq_ediv_of_nonneg _ (Int.le_of_lt hc)
  exact floordiv_int (by omega) (by rw [e1]; exact h _ .mk rfl (by rw [← e1]; exact bits_fdiv hx)) (Or.inr hp)
end
theorem fmodB (a : Int) {b : Int} (h : 0 < b) : 0 ≤ a.fmod b ∧ a.fmod b < b := by
  rw [Int.fmod_eq_emod_of_nonneg _ (Int.le_of_lt h)]
  exact ⟨Int.emod_nonneg _ (by omega), Int.emod_lt_of_pos _ h⟩
theorem fdivE (a : Int) {b : Int} (h : 0 < b) : a.fdiv b = a / b := Int.fdiv_eq_ediv_of_nonneg _ (Int.le_of_lt h)
theorem fmodE (a : Int) {b : Int} (h : 0 < b) : a.fmod b = a % b := Int.fmod_eq_emod_of_nonneg _ (Int.le_of_lt h)
theorem Pre2.bq {a b n q r : Int} (H : Pre2 a b n q r) {N : Nat} (hn : n ≤ N) : intBits q ≤ N := Nat.le_trans (bits_of_lt H.q0 H.q1) (by have := H.n1; omega)
theorem Pre2.br {a b n q r : Int} (H : Pre2 a b n q r) {N : Nat} (hn : n ≤ N) : intBits r ≤ N := Nat.le_trans (bits_of_lt H.r0 (Int.lt_trans H.r1 H.b2)) (by have := H.n1; omega)
theorem eq_t {prog : Program} {w : World} {A : Around} {E : Value → Shared → Prop} {s : Shared} {a b : Int} {t u : Tok} {Q : Value → Shared → Prop} (e : a = b) (h : Q (.bool true) s) : wpAny (model prog w) A (compareOp .Eq (.int a t) (.int b u)) Q E s :=
  eq_int (by rw [e, beq_self_eq_true]; exact h)
theorem gen_toks {α : Type} {M : Model} {A : Around} {m : Sem α} {Q : α → Shared → Prop} {E : Value → Shared → Prop} {h : Heap} {g : Array GenState} {d : Drawn} {X : Nat} {o : OsState}
    (H : ∀ tk, wpAny M A m Q E { heap := h, gens := g, drawn := d, toks := tk, os := o }) : wpAny M A m Q E { heap := h, gens := g, drawn := d, toks := X, os := o } := H X
theorem mul_p {prog : Program} {w : World} {A : Around} {E : Value → Shared → Prop} {s : Shared} {a b : Int} {t u : Tok} {Q : Value → Shared → Prop} {m n : Nat} (ha : intBits a ≤ m) (hb : intBits b ≤ n) (h : m + n ≤ 134217728) (hq : Q (.int (a * b) s.toks) { s with toks := s.toks + 1 }) :
    wpAny (model prog w) A (binaryOp .Mult (.int a t) (.int b u)) Q E s := mul_int hq (mulOk_of_bits ha hb h)
end Mine
namespace Mine
section
variable {prog : Program} {w : World} {A : Around} {E : Value → Shared → Prop} {s : Shared} {env : Env} {h₀ : Heap} {x : Str} {body : List Stmt} {Q : Flow → Shared → Prop}
/-- a loop from behind over a list of ints that the call has made, by an invariant over the state -/
theorem kst_rev {σ : Type} {I l : Addr} {vs : List Value} {ns : List Int} {nn : Nat} {m₀ : Str → Option Value} (Led : σ → List (Addr × Obj)) (ps : σ → List (Str × Value)) (Facts : σ → Prop) (stored : List Str) (P : List Int → σ → Prop) (c₀ : σ) {all : List (Addr × Obj)}
    (hh : A.handled = none) (hi : IntsAre vs ns) (F : Fr h₀ env.locals s.heap m₀) (NA : News h₀ env.locals s.heap all) (hI : (I, revObj l ((vs.length : Int) - 1)) ∈ all) (hl : (l, listOf vs.toArray nn) ∈ all) (hne : l ≠ I) (N : News h₀ env.locals s.heap (Led c₀)) (hoff : ∀ p ∈ Led c₀, p.1 ≠ I ∧ p.1 ≠ l) (hf : Facts c₀) (hk : ∀ p ∈ ps c₀, m₀ p.1 = some p.2) (hp : P [] c₀)
    (turn : ∀ (c : σ) pre post n t (u : Str → Option Value) h tk own, ns.reverse = pre ++ n :: post → n ∈ ns → OwnOff own ((Led c₀).map (·.1)) → Facts c → P pre c →
      Fr h₀ env.locals h (fun y => if y = x then some (.int n t) else kstB (fun z => if stored.contains z then u z else m₀ z) (ps c) y) → News h₀ env.locals h (Led c ++ own) →
      wpAny (model prog w) A (execs body env) (InvPostN h₀ env.locals (KstS Led ps Facts x stored m₀ P (pre ++ [n])) own ((Led c₀).map (·.1)) { s with heap := h, toks := tk } Q) E { s with heap := h, toks := tk })
    (done : ∀ (c : σ) (u : Str → Option Value) h tk, Facts c → P ns.reverse c → Fr h₀ env.locals h (fun y => if y = x then u y else kstB (fun z => if stored.contains z then u z else m₀ z) (ps c) y) → News h₀ env.locals h (Led c) → Q .next { s with heap := h, toks := tk }) :
    wpAny (model prog w) A (pyIter (.ref I)) (fun it s₂ => LoopAtV prog w A h₀ env x body Q E it s₂) E s := by
  have hIx := NA _ hI
  have hlx := NA _ hl
  have hL : s.heap.IsList l vs.toArray := ⟨_, hlx.1, rfl, nn, rfl⟩
  have hit : s.heap.IsRevIter I l ((vs.length : Int) - 1) := ⟨_, hIx.1, rfl, rfl⟩
  refine wpAny_pyIter_revIter hit ?_
  have W := Walks.listRev (prog := prog) (w := w) hh I l hne vs.toArray
  have hlen : vs.toArray.size = ns.length := by simp [hi.length]
  rw [hlen] at W
  have hr : ns.reverse.length = ns.length := List.length_reverse
  refine loop_invN (fun i m nx => KstS Led ps Facts x stored m₀ P (ns.reverse.take i) m nx) W ?_ ?_ ?_ ?_ ?_ F N ⟨c₀, rfl, hf, hk, fun _ _ _ _ => rfl, by simpa using hp⟩ ?_ ?_
  · intro hm
    rcases List.mem_cons.mp hm with e | hm
    · exact hIx.2.1 e.symm
    · exact hlx.2.1 (List.mem_singleton.mp hm).symm
  · intro b hb
    rw [List.mem_singleton.mp hb]
    exact hIx.2.2
  · intro p hp hm
    exact (hoff p hp).1 (List.mem_singleton.mp hm)
  · intro p hp hm
    rcases List.mem_cons.mp hm with e | hm
    · exact (hoff p hp).1 e
    · exact (hoff p hp).2 (List.mem_singleton.mp hm)
  · refine ⟨Nat.zero_le _, ?_, hL⟩
    have e : ((ns.length : Nat) : Int) - 1 - ((0 : Nat) : Int) = (vs.length : Int) - 1 := by rw [hi.length]; omega
    rw [e]
    exact hit
  · rintro i v m₁ nx h tk own hin hP _ hoff' ⟨c, rfl, hf', h1, h2, hp'⟩ F₁ N₁
    have hlt' : i < ns.reverse.length := by rw [hr]; exact hin
    have hP2 : vs.toArray[ns.length - 1 - i]? = some v := hP
    have hget : ns[ns.length - 1 - i]? = some ns.reverse[i] := by
      rw [List.getElem_reverse]
      exact List.getElem?_eq_getElem (by omega)
    obtain ⟨t, hx⟩ := hi.get _ _ hget
    have hv : v = .int ns.reverse[i] t := by
      have : vs[ns.length - 1 - i]? = some v := by simpa using hP2
      rw [hx] at this; exact (Option.some.inj this).symm
    subst hv
    have hn : ns.reverse[i]? = some ns.reverse[i] := List.getElem?_eq_getElem hlt'
    have hs : ns.reverse.take (i + 1) = ns.reverse.take i ++ [ns.reverse[i]] := by rw [List.take_add_one, hn]; rfl
    have e : ns.reverse = ns.reverse.take i ++ ns.reverse[i] :: ns.reverse.drop (i + 1) := by
      have ht := List.take_append_drop (i + 1) ns.reverse
      rw [hs, List.append_assoc] at ht
      exact ht.symm
    have key := turn c _ _ ns.reverse[i] t m₁ h tk own e (List.mem_reverse.mp (List.getElem_mem hlt')) hoff' hf' hp' (kst_fr h1 h2 F₁) N₁
    have goalE : (fun m nx => KstS Led ps Facts x stored m₀ P (ns.reverse.take (i + 1)) m nx) = KstS Led ps Facts x stored m₀ P (ns.reverse.take i ++ [ns.reverse[i]]) := by rw [hs]
    rw [goalE]
    exact key
  · rintro m₁ nx h tk ⟨c, rfl, hf', h1, h2, hp'⟩ F₁ N₁
    rw [List.take_of_length_le (by rw [hr]; exact Nat.le_refl _)] at hp'
    exact done c m₁ h tk hf' hp' (kst_frOut h1 h2 F₁) N₁
end
end Mine
namespace Mine
section
variable {prog : Program} {w : World} {A : Around} {E : Value → Shared → Prop} {s : Shared} {env : Env} {h₀ : Heap} {x : Str} {body : List Stmt} {Q : Flow → Shared → Prop}
/-- a loop over a range that changes nothing that is asked behind it -/
theorem rng0 {r : Addr} {a₀ b₀ : Int} {t₀ u₀ v₀ : Tok} {n : Nat} {m₀ : Str → Option Value} {news : List (Addr × Obj)} (stored : List Str)
    (hh : A.handled = none) (F : Fr h₀ env.locals s.heap m₀) (N : News h₀ env.locals s.heap news) (hr : IsRange s.heap r a₀ b₀ 1 t₀ u₀ v₀) (hsmall : Builtin.Range.small a₀ b₀ 1 = true) (hn : Builtin.Range.rangeSize a₀ b₀ 1 = (n : Int))
    (turn : ∀ (k : Int) t (u : Str → Option Value) h tk own, a₀ ≤ k → k < a₀ + n → OwnOff own (news.map (·.1)) →
      Fr h₀ env.locals h (fun y => if y = x then some (.int k t) else if stored.contains y then u y else m₀ y) → News h₀ env.locals h (news ++ own) →
      wpAny (model prog w) A (execs body env) (InvPostN h₀ env.locals (KstS (σ := Unit) (fun _ => news) (fun _ => []) (fun _ => True) x stored m₀ (fun _ _ => True) [k]) own (news.map (·.1)) { s with heap := h, toks := tk } Q) E { s with heap := h, toks := tk })
    (done : ∀ (u : Str → Option Value) h tk, Fr h₀ env.locals h (fun y => if y = x then u y else if stored.contains y then u y else m₀ y) → News h₀ env.locals h news → Q .next { s with heap := h, toks := tk }) :
    wpAny (model prog w) A (pyIter (.ref r)) (fun it s₂ => LoopAtV prog w A h₀ env x body Q E it s₂) E s := by
  refine kst_range (σ := Unit) (fun _ => news) (fun _ => []) (fun _ => True) stored (fun _ _ => True) () hh hr hsmall hn F N trivial (List.forall_mem_nil _) trivial ?_ ?_
  · intro c pre k t u h tk own hk hlt hoff _ _ F' N'
    refine wpAny_mono (turn k t u h tk own (by omega) (by omega) hoff F' N') (fun f s₂ p => ?_) fun _ _ e => e
    cases f with
    | ret v => exact p
    | brk => exact p
    | next => exact p
    | cont => exact p
  · intro c u h tk _ _ F' N'
    exact done u h tk F' N'
end
end Mine
namespace Mine
set_option maxRecDepth 100000
set_option maxHeartbeats 8000000
open_top hd for PySem.Challenge.rw_dn0134_09
end Mine
namespace Mine
open PySem.Builtin.Int (intBits)
/-- the same by the divisor -/
def Cg (d a b : Int) : Prop := ∃ k, a = b + k * d
theorem Cg.rfl' (d a : Int) : Cg d a a := ⟨0, by omega⟩
theorem Cg.symm {d a b : Int} (h : Cg d a b) : Cg d b a := by
  obtain ⟨k, h⟩ := h
  exact ⟨-k, by rw [Int.neg_mul]; omega⟩
theorem Cg.trans {d a b c : Int} (h : Cg d a b) (h2 : Cg d b c) : Cg d a c := by
  obtain ⟨k, h⟩ := h
  obtain ⟨j, h2⟩ := h2
  exact ⟨k + j, by rw [Int.add_mul]; omega⟩
theorem Cg.mul {d a b x y : Int} (h : Cg d a b) (h2 : Cg d x y) : Cg d (a * x) (b * y) := by
  obtain ⟨k, h⟩ := h
  obtain ⟨j, h2⟩ := h2
  exact ⟨b * j + k * y + k * j * d, by rw [h, h2]; grind⟩
theorem Cg.eq {d a b : Int} (h : Cg d a b) (a0 : 0 ≤ a) (a1 : a < d) (b0 : 0 ≤ b) (b1 : b < d) : a = b := by
  obtain ⟨k, h⟩ := h
  have := uniqNN (b := d) (q := 0) (r := a) (q' := k) (r' := b) (by omega) a0 a1 b0 b1
  exact this.2
/-- an odd divisor below the power of two, and its inverse -/
structure Mont (d P inv : Int) : Prop where
  d0 : 0 < d
  dP : d < P
  iv : ∃ j, inv * d = 1 + j * P
theorem Mont.cancel {d P inv a b : Int} (H : Mont d P inv) (h : Cg d (a * P) (b * P)) : Cg d a b := by
  obtain ⟨j, hj⟩ := H.iv
  obtain ⟨k, hk⟩ := h
  refine ⟨(a - b) * inv - j * k, ?_⟩
  have e : (a - b) * (inv * d) = (a - b) + j * (a * P - b * P) := by rw [hj]; grind
  have e2 : a * P - b * P = k * d := by omega
  rw [e2] at e
  grind
/-- what a step down tells -/
structure Redc (d P N r : Int) : Prop where
  r0 : 0 ≤ r
  r1 : r < d
  c : Cg d (r * P) N
theorem Mont.redc {d P inv N times made : Int} (H : Mont d P inv) (n0 : 0 ≤ N) (n1 : N < d * P) (ht : times = (-(N * inv)) % P) (hm : made = (N + times * d) / P) :
    (made ≥ d → Redc d P N (made - d)) ∧ (¬ made ≥ d → Redc d P N made) := by
  obtain ⟨d0, dP, j, hj⟩ := H
  have hP : 0 < P := by omega
  have t0 : 0 ≤ times := by rw [ht]; exact Int.emod_nonneg _ (by omega)
  have t1 : times < P := by rw [ht]; exact Int.emod_lt_of_pos _ hP
  have t2 := Int.mul_ediv_add_emod (-(N * inv)) P
  rw [← ht] at t2
  generalize -(N * inv) / P = t at t2
  have key : N + times * d = (-(N * j) - t * d) * P := by
    have e1 : times = -(N * inv) - P * t := by omega
    have e2 : N * (inv * d) = N + N * j * P := by rw [hj]; grind
    rw [e1]
    grind
  have hm' : made = -(N * j) - t * d := by rw [hm, key]; exact Int.mul_ediv_cancel _ (by omega)
  rw [← hm'] at key
  have td : 0 ≤ times * d := Int.mul_nonneg t0 (by omega)
  have td1 : times * d ≤ (P - 1) * d := mul_le_of (by omega) (by omega)
  have td2 : (P - 1) * d = d * P - d := by grind
  have m0 : 0 ≤ made := by
    have : (-1) * P < made * P := by omega
    have := lt_of_mul hP this
    omega
  have m1 : made < 2 * d := by
    refine lt_of_mul hP ?_
    have : 2 * d * P = d * P + d * P := by grind
    omega
  refine ⟨fun h => ⟨by omega, by omega, times - P, ?_⟩, fun h => ⟨m0, by omega, times, by omega⟩⟩
  rw [Int.sub_mul, Int.sub_mul, Int.mul_comm P d]; omega
theorem Redc.bits {d P N r : Int} (H : Redc d P N r) {n : Nat} (h : intBits d ≤ n) : intBits r ≤ n :=
  bits_of_natAbs_le (b := d) (by have := H.r0; have := H.r1; omega) h
/-- the next product -/
theorem Mont.next {d P inv rest other shape kept shape' rest' : Int} (H : Mont d P inv) (h1 : Cg d shape (rest * P)) (h2 : Cg d kept (other * P)) (h3 : Redc d P (shape * kept) shape') (h4 : Redc d P shape' rest') :
    Cg d shape' (rest' * P) ∧ Cg d rest' (rest * other) := by
  refine ⟨h4.c.symm, ?_⟩
  refine H.cancel (H.cancel ?_)
  have e1 := h4.c.mul (Cg.rfl' d P)
  have e2 := h3.c
  have e3 := h1.mul h2
  have e4 : rest * P * (other * P) = rest * other * P * P := by grind
  rw [e4] at e3
  exact e1.trans (e2.trans e3)
/-- the quotient by the low end -/
theorem Mont.quot {d P inv N rest quotient : Int} (H : Mont d P inv) (c : Cg d rest N) (r0 : 0 ≤ rest) (r1 : rest < d) (n0 : 0 ≤ N) (n1 : N < d * P) (hq : quotient = ((N - rest) * inv) % P) :
    N = quotient * d + rest ∧ 0 ≤ quotient ∧ quotient < P := by
  obtain ⟨d0, dP, j, hj⟩ := H
  have hP : 0 < P := by omega
  obtain ⟨k, hk⟩ := c.symm
  have e : (N - rest) * inv = k + k * j * P := by
    have : N - rest = k * d := by omega
    rw [this]
    have : k * d * inv = k * (inv * d) := by grind
    rw [this, hj]; grind
  have k0 : 0 ≤ k := by
    have : (-1) * d < k * d := by omega
    have := lt_of_mul d0 this
    omega
  have k1 : k < P := by
    refine lt_of_mul d0 ?_
    rw [Int.mul_comm P]; omega
  have hk2 : quotient = k := by
    rw [hq, e, Int.add_mul_emod_self_right]; exact Int.emod_eq_of_lt k0 k1
  rw [hk2]
  exact ⟨by omega, k0, k1⟩
/-- a turn of the inverse -/
theorem inv_turn {d f j K : Int} (h : d * f = 1 + j * K) : d * (f * (2 - d * f)) = 1 + -(j * j) * (K * K) := by
  have : d * (f * (2 - d * f)) = (d * f) * (2 - d * f) := by grind
  rw [this, h]; grind
theorem inv_mod {d g j K : Int} (h : d * g = 1 + j * K) : ∃ j', d * (g % K) = 1 + j' * K := by
  have := Int.mul_ediv_add_emod g K
  refine ⟨j - d * (g / K), ?_⟩
  have e : g % K = g - K * (g / K) := by omega
  rw [e, Int.mul_sub, h]; grind
end Mine
namespace Mine
/-- a top that imports nothing -/
def prog0 : Program := { (default : Program) with main := { (default : Module) with body := [] } }
theorem ghost_noseer {h₁ : Heap} {tabs : List (Addr × Addr)} (hT : TabsAt tabs h₁) (x : h₁.NoSeer) : (ghostOf h₁ tabs).NoSeer where
  statics := let ⟨mc, a, b⟩ := x.statics; ⟨mc, ghost_ns hT a, b⟩
  mods := let ⟨mc, a, b⟩ := x.mods; ⟨mc, ghost_ns hT a, b⟩
  imp := let ⟨mc, a, b⟩ := x.imp; ⟨mc, ghost_ns hT a, b⟩
  main := let ⟨mg, bm, ob, a, b, c, d, e⟩ := x.main; ⟨mg, bm, ob, ghost_ns hT a, b, ghost_get hT c (fun q => by rw [q] at d; cases d), d, e⟩
theorem top0 {h : Heap} {loose : List Str} {mean : ExcName → Option Value} {mg mb : Str → Option Value} (T : Top topProg loose mean mg mb h) (S : h.NoSeer) : Top prog0 loose mean mg mb h where
  g := T.g
  b := T.b
  nolimit := T.nolimit
  nodigits := T.nodigits
  fn := fun d hd => absurd (show d ∈ ([] : List DefRec) from hd) List.not_mem_nil
  own := fun o ho => absurd (show o ∈ ([] : List OwnSpec) from ho) List.not_mem_nil
  const := fun x d e => by cases (show (none : Option PyData) = some d from e)
  free := fun x h1 h2 _ _ _ => T.free x h1 h2 (show x ∉ ([] : List Str) from List.not_mem_nil) (show x ∉ ([] : List Str) from List.not_mem_nil) (show x ∉ ([] : List Str) from List.not_mem_nil)
  builtins := T.builtins
  tab := fun d hd => absurd (show d ∈ ([] : List DefRec) from hd) List.not_mem_nil
  bmain := T.bmain
  seer := fun _ => S
theorem prog0_none : importsNone prog0 = true := by decide +kernel
theorem top0_of {h₁ : Heap} {tabs : List (Addr × Addr)} {p : Program} {loose loose' : List Str} {mean mean' : ExcName → Option Value} {mg mb mg' mb' : Str → Option Value} (hT : TabsAt tabs h₁) (T : Top p loose mean mg mb h₁) (hp : importsNone p = true) (T' : Top topProg loose' mean' mg' mb' (ghostOf h₁ tabs)) : Top prog0 loose' mean' mg' mb' (ghostOf h₁ tabs) :=
  top0 T' (ghost_noseer hT (T.seer hp))
end Mine
namespace Mine
theorem room_of {p : Program} {loose : List Str} {mean : ExcName → Option Value} {mg mb : Str → Option Value} {g h : Heap} {L : Addr} {m : Str → Option Value} (T : Top p loose mean mg mb g) (F : Fr g L h m) : h.NoLimit := T.nolimit.keeps F.keep
def PairCall (prog : Program) (w : World) (K : Frag) (p : Program) (loose : List Str) (mean : ExcName → Option Value) (mg mb : Str → Option Value) (f : Addr) (vs : List Value) (q r : Int) (k : Nat) : Prop :=
  ∀ (dp un : Nat) (gd : Option (List Code)) (cn : Str) (cs : Scope) (a : Addr) (ccd : Value) (cl : List (Str × Addr)) (outer : List Env) (A₀ : Around) (base h₀ : Heap) (L : Addr) (m : Str → Option Value) (news : List (Addr × Obj)) (s : Shared)
    (Q E : Value → Shared → Prop),
    Below A₀ base outer h₀ → Fr h₀ L s.heap m → K.In h₀ → News h₀ L s.heap news → Top p loose mean mg mb h₀ → cs.kind = .function → dp + k + 104 < recursionLimit → un + 8 * k + 100 < cLine →
    (∀ D t1 t2 c h' tk', Fr h₀ L h' m → News h₀ L h' ((D, pairO q r t1 t2 c) :: news) → AllLt D news → Q (.ref D) { s with heap := h', toks := tk' }) →
    wpAny (model prog w) (ktrTop dp un gd cn cs L a ccd cl outer) (call (.ref f) vs) Q E s

theorem pair_use {prog : Program} {w : World} {K : Frag} {p : Program} {loose : List Str} {mean : ExcName → Option Value} {mg mb : Str → Option Value} {f : Addr} {vs : List Value} {q r : Int} {k : Nat}
   {dp un : Nat} {gd : Option (List Code)} {cn : Str} {cs : Scope} {a : Addr} {ccd : Value} {cl : List (Str × Addr)} {outer : List Env} {A₀ : Around} {base h₀ : Heap} {L : Addr} {m : Str → Option Value} {news : List (Addr × Obj)} {s : Shared} {Q E : Value → Shared → Prop}
   (B : Below A₀ base outer h₀) (F : Fr h₀ L s.heap m) (X : K.In h₀) (N : News h₀ L s.heap news) (T : Top p loose mean mg mb h₀) (hk : cs.kind = .function) (C : PairCall prog w K p loose mean mg mb f vs q r k)
   (hd : dp + k + 104 < recursionLimit) (hu : un + 8 * k + 100 < cLine)
   (ret : ∀ D t1 t2 c h' tk', Fr h₀ L h' m → News h₀ L h' ((D, pairO q r t1 t2 c) :: news) → AllLt D news → Q (.ref D) { s with heap := h', toks := tk' }) :
    wpAny (model prog w) (ktrTop dp un gd cn cs L a ccd cl outer) (call (.ref f) vs) Q E s := C _ _ _ _ _ _ _ _ _ _ _ _ _ _ _ _ _ _ B F X N T hk hd hu ret

section
variable (w : World) (mean : ExcName → Option Value) (mg mb : Str → Option Value)
abbrev PC := PairCall PySem.Challenge.rw_dn0134_09.row.prog w (hd.heap_39 w.params) prog0 (looseW hd.view_39 [] ++ List.map (fun x => x.name) (recsOf hd.view_39) ++ List.map (fun x => x.fst) (litsOf hd.view_39) ++ List.map (fun x => x.name) (clssOf hd.view_39 (looseW hd.view_39 []))) mean mg mb
def Div2 (k : Nat) : Prop := ∀ (a b n q r : Int) (t u v : Tok), Pre2 a b n q r → n ≤ 2 ^ k → k ≤ 19 → PC w mean mg mb 21 [.int a t, .int b u, .int n v] q r (2 * k + 2)
def Div3 (k : Nat) : Prop := ∀ (a12 a3 b b1 b2 n q r : Int) (t1 t2 t3 t4 t5 t6 : Tok), Pre3 a12 a3 b b1 b2 n q r → n ≤ 2 ^ k → k ≤ 19 → PC w mean mg mb 28 [.int a12 t1, .int a3 t2, .int b t3, .int b1 t4, .int b2 t5, .int n t6] q r (2 * k + 3)
end
end Mine
namespace Mine
open PySem.Builtin.Int (intBits)
local macro_rules | `(tactic| bits_by_make) => `(tactic| with_reducible assumption)
local macro_rules | `(tactic| walk_at "exec While Compare cons cons") => `(tactic| k_extra "mywhile")
local macro_rules | `(tactic| walk_at "exec While Compare cons nil") => `(tactic| k_extra "mywhile")
set_option maxRecDepth 100000 in
set_option maxHeartbeats 8000000 in
theorem div3_step (w : World) (mean : ExcName → Option Value) (mg mb : Str → Option Value) (k : Nat) (H : Div2 w mean mg mb k) : Div3 w mean mg mb k := by
  (have hh : PySem.Challenge.rw_dn0134_09 = PySem.Challenge.rw_dn0134_09 ∧ hd.heap_39 = hd.heap_39 := by (k_fill; exact ⟨rfl, rfl⟩))
  clear hh
  w_top off
  k_with_none
  intro a12 a3 b b1 b2 n q r t1 t2 t3 t4 t5 t6 P hn hk19
  have hn19 : n ≤ 524288 := Int.le_trans hn (pmono hk19)
  have hn1 := P.n1
  have hbp : intBits ((2 : Int) ^ n.toNat) ≤ 600000 := Nat.le_trans (bits_of_lt (k := n.toNat + 1) (Int.le_of_lt (ppos _)) (by rw [Int.pow_succ]; have := ppos n.toNat; omega)) (by omega)
  have hbb1 : intBits b1 ≤ 600000 := Nat.le_trans (bits_of_lt (by have := ppos (n.toNat - 1); have := P.b10; omega) P.b11) (by omega)
  have hbb2 : intBits b2 ≤ 600000 := Nat.le_trans (bits_of_lt P.b20 P.b21) (by omega)
  have hba : intBits a12 ≤ 5000000 := bits_of_natAbs_le (b := b) (by have := P.a12b; omega) (by rw [P.e]; exact Nat.le_trans (bits_add (bits_mul hbb1 hbp) hbb2) (by decide))
  unfold PC PairCall
  intro dp un gd cn cs a ccd cl outer A₀ base h₀ L m news s Q E B F X N T hk hd hu hret
  k_with "call ref" => (
    obtain ⟨q', r', hP'⟩ := P.neCase (by rw [← fdivP]; assumption)
    have hbr : intBits r' ≤ 600000 := Nat.le_trans (bits_of_lt hP'.r0 (Int.lt_trans hP'.r1 hP'.b2)) (by omega)
    have hbq : intBits q' ≤ 600000 := Nat.le_trans (bits_of_lt hP'.q0 hP'.q1) (by omega)
    (refine' pair_use ?k1 ?k2 ?k3 ?k4 ?k5 ?kK (H _ _ _ q' r' _ _ _ hP' hn hk19) ?kd ?ku ?_)
    (case k1 => k_asm)
    (case k2 => k_asm)
    (case k3 => k_asm)
    (case k4 => k_asm)
    (case k5 => k_asm)
    (case kK => exact rfl)
    (case kd => ktr_room)
    (case ku => ktr_units)
    intro D' x1 x2 c' h' tk' F' N' l'
    (try dsimp only)
    (try k_fold))
  k_with "mywhile" => (k_while (fun _ x y => y * b + x = q * b + r ∧ x < b) (fun _ x y => (- x).toNat) "r" "q")
  k_with "state" => (first | exact P.start1 (by assumption) | exact P.start2 (by assumption) | exact d3_turn ⟨by assumption, by assumption⟩ (by assumption))
  have hb0 : 0 < b := by have := P.r0; have := P.r1; omega
  refine wpAny_call ?_
  k_dflt ktr_enter
  k_steps
  all_goals (
    obtain ⟨e1, e2⟩ := P.fin (by assumption) (by assumption) (by assumption)
    subst e1
    subst e2
    refine hret _ _ _ _ _ _ (by k_asm) (news_sub (by k_asm) (sub0 (sub1 subr))) ?_
    first | assumption | exact And.right (by assumption))
end Mine
namespace Mine
open PySem.Builtin.Int (intBits)
local macro_rules | `(tactic| bits_by_make) => `(tactic| with_reducible assumption)
local macro_rules | `(tactic| walk_at "binaryOp RShift int int") => `(tactic| k_extra "half")
local macro_rules | `(tactic| walk_at "inplaceOp RShift int int") => `(tactic| with_reducible refine ihalf_z ?_)
local macro_rules | `(tactic| walk_at "inplaceOp LShift int int") => `(tactic| (with_reducible refine ilshift_int ?kbn ?kbs ?_; (case kbn => decide); (case kbs => refine kbm_shl (m := 2000000) (Nat.le_trans (by with_reducible assumption) ?_) ?_ ?_ <;> decide)))
local macro_rules | `(tactic| walk_at "call builtin:divmod") => `(tactic| k_extra "mydiv")
set_option maxRecDepth 100000 in
set_option maxHeartbeats 8000000 in
theorem div2_step (w : World) (mean : ExcName → Option Value) (mg mb : Str → Option Value) (k : Nat) (H : ∀ j, k = j + 1 → Div3 w mean mg mb j) : Div2 w mean mg mb k := by
  (have hh : PySem.Challenge.rw_dn0134_09 = PySem.Challenge.rw_dn0134_09 ∧ hd.heap_39 = hd.heap_39 := by (k_fill; exact ⟨rfl, rfl⟩))
  clear hh
  w_top off
  k_with_none
  intro a b n q r t1 t2 t3 P hn hk19
  have hn19 : n ≤ 524288 := Int.le_trans hn (pmono hk19)
  have hn1 := P.n1
  have hba : intBits a ≤ 1200000 := Nat.le_trans (bits_of_lt P.a0 P.alt) (by omega)
  have hbb : intBits b ≤ 600000 := Nat.le_trans (bits_of_lt (by have := P.r0; have := P.r1; omega) P.b2) (by omega)
  have hb0 : b ≠ 0 := by have := P.r0; have := P.r1; omega
  unfold PC PairCall
  intro dp un gd cn cs aa ccd cl outer A₀ base h₀ L m news s Q E B F X N T hk hd hu hret
  k_with "half" => (first
    | (with_reducible refine half_z (halves0 (by assumption)) ?_; intro hz ez)
    | (with_reducible refine half_z (halves1 (by assumption)) ?_; intro hz ez))
  k_with "mydiv" => (
    (refine' divmod_D ?k1 ?k2 hb0 P.fdm (PySem.PylongRoom.of (room_of (by assumption) (by assumption)) ?kd) ?_)
    (case k1 => k_asm)
    (case k2 => k_asm)
    (case kd => (simp only [Builtin.pylongFrames]; ktr_room))
    intro D' x1 x2 h' tk' F' N' l'
    (try dsimp only)
    (try k_fold))
  k_with "call ref" => (first
    | (
      (refine' pair_use ?k1 ?k2 ?k3 ?k4 ?k5 ?kK (hJ _ _ _ _ _ _ q2 _ _ _ _ _ _ _ h2 hjz hj19) ?kd ?ku ?_)
      (case k1 => k_asm)
      (case k2 => k_asm)
      (case k3 => k_asm)
      (case k4 => k_asm)
      (case k5 => k_asm)
      (case kK => exact rfl)
      (case kd => ktr_room)
      (case ku => ktr_units)
      intro D' x1 x2 c' h' tk' F' N' l'
      (try dsimp only)
      (try k_fold))
    | (
      obtain ⟨j, hj⟩ : ∃ j, k = j + 1 := ⟨k - 1, by have := P.big (by assumption); have : k ≠ 0 := (by intro e; subst e; simp at hn; omega); omega⟩
      have hJ := H j hj
      have hj19 : j ≤ 19 := by omega
      have hjz : hz ≤ 2 ^ j := halfLe ez (by rw [← hj]; omega)
      obtain ⟨q1, r1, q2, h1, h2, h3⟩ := (by first | exact P.halvesT ez | exact P.padT.halvesT ez : ∃ q1 r1 q2, _ ∧ _ ∧ _)
      have hbq1 : intBits q1 ≤ 600000 := Nat.le_trans (bits_of_lt h1.q0 h1.q1) (by omega)
      (refine' pair_use ?k1 ?k2 ?k3 ?k4 ?k5 ?kK (hJ _ _ _ _ _ _ q1 r1 _ _ _ _ _ _ h1 hjz hj19) ?kd ?ku ?_)
      (case k1 => k_asm)
      (case k2 => k_asm)
      (case k3 => k_asm)
      (case k4 => k_asm)
      (case k5 => k_asm)
      (case kK => exact rfl)
      (case kd => ktr_room)
      (case ku => ktr_units)
      intro D' x1 x2 c' h' tk' F' N' l'
      (try dsimp only)
      (try k_fold)))
  refine wpAny_call ?_
  k_dflt ktr_enter
  k_steps
  all_goals (first
    | exact absurd ‹Builtin.bitAnd n 1 = 0› ‹Builtin.bitAnd n 1 ≠ 0›
    | exact hret _ _ _ _ _ _ (by k_asm) (by k_asm) (by assumption)
    | (subst h3; refine hret _ _ _ _ _ _ (by k_asm) (news_sub (by k_asm) (sub0 (sub1 (sub1 (sub1 subr))))) ?_; exact (And.right (And.right (And.right (by assumption))))))
theorem div_all (w : World) (mean : ExcName → Option Value) (mg mb : Str → Option Value) : ∀ k, Div2 w mean mg mb k ∧ Div3 w mean mg mb k
  | 0 => have h := div2_step w mean mg mb 0 (fun j e => by omega); ⟨h, div3_step w mean mg mb 0 h⟩
  | k + 1 => have h := div2_step w mean mg mb (k + 1) (fun j e => by obtain rfl : k = j := by omega
                                                                     exact (div_all w mean mg mb k).2); ⟨h, div3_step w mean mg mb (k + 1) h⟩
theorem use2 {w : World} {mean : ExcName → Option Value} {mg mb : Str → Option Value} {a b n q r : Int} {t u v : Tok} (h : Pre2 a b n q r) (hn : n ≤ 262144) : PC w mean mg mb 21 [.int a t, .int b u, .int n v] q r 38 := (div_all w mean mg mb 18).1 a b n q r t u v h hn (by decide)
theorem use3 {w : World} {mean : ExcName → Option Value} {mg mb : Str → Option Value} {a12 a3 b b1 b2 n q r : Int} {t1 t2 t3 t4 t5 t6 : Tok} (h : Pre3 a12 a3 b b1 b2 n q r) (hn : n ≤ 262144) : PC w mean mg mb 28 [.int a12 t1, .int a3 t2, .int b t3, .int b1 t4, .int b2 t5, .int n t6] q r 39 := (div_all w mean mg mb 18).2 a12 a3 b b1 b2 n q r t1 t2 t3 t4 t5 t6 h hn (by decide)
end Mine
namespace Mine
def RelCall (prog : Program) (w : World) (K : Frag) (p : Program) (loose : List Str) (mean : ExcName → Option Value) (mg mb : Str → Option Value) (f : Addr) (vs : List Value) (R : Int → Prop) (k : Nat) : Prop :=
  ∀ (dp un : Nat) (gd : Option (List Code)) (cn : Str) (cs : Scope) (a : Addr) (ccd : Value) (cl : List (Str × Addr)) (outer : List Env) (A₀ : Around) (base h₀ : Heap) (L : Addr) (m : Str → Option Value) (news : List (Addr × Obj)) (s : Shared)
    (Q E : Value → Shared → Prop),
    Below A₀ base outer h₀ → Fr h₀ L s.heap m → K.In h₀ → News h₀ L s.heap news → Top p loose mean mg mb h₀ → cs.kind = .function → dp + k + 104 < recursionLimit → un + 8 * k + 100 < cLine →
    (∀ z t h' tk', R z → Fr h₀ L h' m → News h₀ L h' news → Q (.int z t) { s with heap := h', toks := tk' }) →
    wpAny (model prog w) (ktrTop dp un gd cn cs L a ccd cl outer) (call (.ref f) vs) Q E s
theorem rel_use {prog : Program} {w : World} {K : Frag} {p : Program} {loose : List Str} {mean : ExcName → Option Value} {mg mb : Str → Option Value} {f : Addr} {vs : List Value} {R : Int → Prop} {k : Nat}
   {dp un : Nat} {gd : Option (List Code)} {cn : Str} {cs : Scope} {a : Addr} {ccd : Value} {cl : List (Str × Addr)} {outer : List Env} {A₀ : Around} {base h₀ : Heap} {L : Addr} {m : Str → Option Value} {news : List (Addr × Obj)} {s : Shared} {Q E : Value → Shared → Prop}
   (B : Below A₀ base outer h₀) (F : Fr h₀ L s.heap m) (X : K.In h₀) (N : News h₀ L s.heap news) (T : Top p loose mean mg mb h₀) (hk : cs.kind = .function) (C : RelCall prog w K p loose mean mg mb f vs R k)
   (hd : dp + k + 104 < recursionLimit) (hu : un + 8 * k + 100 < cLine)
   (ret : ∀ z t h' tk', R z → Fr h₀ L h' m → News h₀ L h' news → Q (.int z t) { s with heap := h', toks := tk' }) :
    wpAny (model prog w) (ktrTop dp un gd cn cs L a ccd cl outer) (call (.ref f) vs) Q E s := C _ _ _ _ _ _ _ _ _ _ _ _ _ _ _ _ _ _ B F X N T hk hd hu ret
section
variable (w : World) (mean : ExcName → Option Value) (mg mb : Str → Option Value)
abbrev RC := RelCall PySem.Challenge.rw_dn0134_09.row.prog w (hd.heap_39 w.params) prog0 (looseW hd.view_39 [] ++ List.map (fun x => x.name) (recsOf hd.view_39) ++ List.map (fun x => x.fst) (litsOf hd.view_39) ++ List.map (fun x => x.name) (clssOf hd.view_39 (looseW hd.view_39 []))) mean mg mb
end
end Mine
namespace Mine
open PySem.Builtin.Int (intBits)
/-- what a row of digits is worth -/
def evalD (P : Int) : List Int → Int
  | [] => 0
  | d :: r => d + P * evalD P r
theorem evalD_append (P : Int) (xs ys : List Int) : evalD P (xs ++ ys) = evalD P xs + P ^ xs.length * evalD P ys := by
  induction xs with
  | nil => simp [evalD]
  | cons d r ih =>
    rw [List.cons_append, evalD, evalD, ih, List.length_cons, Int.pow_succ]
    grind
/-- the digits from place l on to place r -/
def cutD (ns : List Int) (l r : Nat) : List Int := (ns.drop l).take (r - l)
theorem cutD_one {ns : List Int} {l : Nat} (h : l < ns.length) : cutD ns l (l + 1) = [ns.getD l 0] := by
  unfold cutD
  have e : l + 1 - l = 1 := by omega
  rw [e, List.drop_eq_getElem_cons h, List.getD_eq_getElem?_getD, List.getElem?_eq_getElem h]
  rfl
theorem cutD_split {ns : List Int} {l m r : Nat} (h1 : l ≤ m) (h2 : m ≤ r) (h3 : r ≤ ns.length) : cutD ns l r = cutD ns l m ++ cutD ns m r := by
  unfold cutD
  have e : r - l = (m - l) + (r - m) := by omega
  rw [e, List.take_add, List.drop_drop]
  congr 2
  congr 1
  omega
theorem cutD_len {ns : List Int} {l r : Nat} (h1 : l ≤ r) (h3 : r ≤ ns.length) : (cutD ns l r).length = r - l := by
  unfold cutD
  rw [List.length_take, List.length_drop]; omega
theorem cutD_all (ns : List Int) : cutD ns 0 ns.length = ns := by
  unfold cutD
  rw [List.drop_zero, Nat.sub_zero, List.take_length]
/-- the worth of a part by its two halves, as the program takes it -/
theorem inner_val {ns : List Int} {n l m r : Int} (n0 : 0 ≤ n) (l0 : 0 ≤ l) (h1 : l ≤ m) (h2 : m ≤ r) (h3 : r ≤ ns.length) :
    evalD (2 ^ n.toNat) (cutD ns m.toNat r.toNat) * 2 ^ ((m - l) * n).toNat + evalD (2 ^ n.toNat) (cutD ns l.toNat m.toNat) = evalD (2 ^ n.toNat) (cutD ns l.toNat r.toNat) := by
  rw [cutD_split (l := l.toNat) (m := m.toNat) (r := r.toNat) (by omega) (by omega) (by omega), evalD_append, cutD_len (by omega) (by omega)]
  have e : ((m - l) * n).toNat = n.toNat * (m.toNat - l.toNat) := by
    have h : ((n.toNat * (m.toNat - l.toNat) : Nat) : Int) = (m - l) * n := by
      rw [Int.natCast_mul, Int.toNat_of_nonneg n0, Int.natCast_sub (by omega), Int.toNat_of_nonneg (by omega), Int.toNat_of_nonneg l0, Int.mul_comm]
    omega
  rw [e, Int.pow_mul]
  generalize (2 : Int) ^ n.toNat = P
  rw [Int.mul_comm]; omega
/-- bits of a part -/
theorem inner_bits {ns : List Int} {n : Int} {B : Nat} (n0 : 0 ≤ n) (hb : ∀ x ∈ ns, intBits x ≤ B) : ∀ k l : Nat, l + k + 1 ≤ ns.length → intBits (evalD (2 ^ n.toNat) (cutD ns l (l + (k + 1)))) ≤ B + n.toNat * k + k := by
  intro k
  induction k with
  | zero =>
    intro l h
    rw [show l + (0 + 1) = l + 1 from rfl, cutD_one (by omega), evalD, evalD, Int.mul_zero, Int.add_zero]
    have : ns.getD l 0 ∈ ns := by
      rw [List.getD_eq_getElem?_getD, List.getElem?_eq_getElem (by omega)]
      exact List.getElem_mem _
    have := hb _ this
    omega
  | succ k ih =>
    intro l h
    rw [cutD_split (m := l + 1) (by omega) (by omega) (by omega), evalD_append, cutD_one (by omega)]
    have h1 := ih (l + 1) (by omega)
    have e : l + 1 + (k + 1) = l + (k + 1 + 1) := by omega
    rw [e] at h1
    have h2 : intBits (evalD (2 ^ n.toNat) [ns.getD l 0]) ≤ B := by
      rw [evalD, evalD, Int.mul_zero, Int.add_zero]
      have : ns.getD l 0 ∈ ns := by
        rw [List.getD_eq_getElem?_getD, List.getElem?_eq_getElem (by omega)]
        exact List.getElem_mem _
      exact hb _ this
    rw [show [ns.getD l 0].length = 1 from rfl, Int.pow_succ, Int.pow_zero, Int.one_mul]
    generalize evalD (2 ^ n.toNat) (cutD ns (l + 1) (l + (k + 1 + 1))) = v at *
    have h3 : intBits (2 ^ n.toNat * v) ≤ n.toNat + (B + n.toNat * k + k) := by
      by_cases hv : v = 0
      · rw [hv, Int.mul_zero]; exact Nat.zero_le _
      refine intBits_le_iff.mpr ?_
      rw [Int.natAbs_mul, abs2, Nat.pow_add]
      exact Nat.mul_lt_mul_of_pos_left (intBits_le_iff.mp h1) (Nat.two_pow_pos _)
    refine Nat.le_trans (bits_add h2 h3) ?_
    rw [Nat.mul_succ]
    omega
theorem inner_bits' {ns : List Int} {n l r : Int} {B N : Nat} (n0 : 0 ≤ n) (hb : ∀ x ∈ ns, intBits x ≤ B) (l0 : 0 ≤ l) (h1 : l < r) (h2 : r ≤ ns.length) (hN : (B : Int) + n * ns.length + ns.length ≤ N) :
    intBits (evalD (2 ^ n.toNat) (cutD ns l.toNat r.toNat)) ≤ N := by
  have h := inner_bits n0 hb (r.toNat - l.toNat - 1) l.toNat (by omega)
  have e : l.toNat + (r.toNat - l.toNat - 1 + 1) = r.toNat := by omega
  rw [e] at h
  refine Nat.le_trans h ?_
  have h3 : n.toNat * (r.toNat - l.toNat - 1) ≤ n.toNat * ns.length := Nat.mul_le_mul_left _ (by omega)
  have h4 : ((n.toNat * ns.length : Nat) : Int) = n * ns.length := by rw [Int.natCast_mul, Int.toNat_of_nonneg n0]
  omega
theorem mid_bounds {l r : Int} (h : l + 1 < r) (l0 : 0 ≤ l) : l < (l + r) / 2 ∧ (l + r) / 2 < r := by omega
end Mine
namespace Mine
open PySem.Builtin.Int (intBits)
theorem ne_rest {d e : Addr} {l : List (Addr × Obj)} (h : AllLt d l) (hde : @LE.le Nat _ d e) : ∀ p ∈ l, p.1 ≠ e := fun p hp => Nat.ne_of_lt (Nat.lt_of_lt_of_le (kst_ltOf h p hp) hde)
def InnerC (prog : Program) (w : World) (K : Frag) (p : Program) (loose : List Str) (mean : ExcName → Option Value) (mg mb : Str → Option Value) (fI : Addr) (pre : List (Addr × Obj)) (ns : List Int) (n : Int) (k : Nat) : Prop :=
  ∀ (l r : Int) (t u : Tok) (dp un : Nat) (gd : Option (List Code)) (cn : Str) (cs : Scope) (a : Addr) (ccd : Value) (cl : List (Str × Addr)) (outer : List Env) (A₀ : Around) (base h₀ : Heap) (L : Addr) (m : Str → Option Value) (rest : List (Addr × Obj)) (s : Shared)
    (Q E : Value → Shared → Prop), 0 ≤ l → l < r → r ≤ ns.length → r - l ≤ 2 ^ k →
    Below A₀ base outer h₀ → Fr h₀ L s.heap m → K.In h₀ → News h₀ L s.heap (pre ++ rest) → Top p loose mean mg mb h₀ → cs.kind = .function → dp + k + 104 < recursionLimit → un + 8 * k + 100 < cLine →
    (∀ t' h' tk', Fr h₀ L h' m → News h₀ L h' (pre ++ rest) → Q (.int (evalD (2 ^ n.toNat) (cutD ns l.toNat r.toNat)) t') { s with heap := h', toks := tk' }) →
    wpAny (model prog w) (ktrTop dp un gd cn cs L a ccd cl outer) (call (.ref fI) [.int l t, .int r u]) Q E s
section
variable {prog : Program} {w : World} {K : Frag} {p : Program} {loose : List Str} {mean : ExcName → Option Value} {mg mb : Str → Option Value} {fI : Addr} {pre : List (Addr × Obj)} {ns : List Int} {n : Int}
theorem inner_all (step : ∀ k, (∀ j, k = j + 1 → InnerC prog w K p loose mean mg mb fI pre ns n j) → InnerC prog w K p loose mean mg mb fI pre ns n k) : ∀ k, InnerC prog w K p loose mean mg mb fI pre ns n k
  | 0 => step 0 fun j e => by omega
  | k + 1 => step (k + 1) fun j e => by
      obtain rfl : k = j := by omega
      exact inner_all step k
theorem inner_use {k : Nat} {l r : Int} {t u : Tok} {dp un : Nat} {gd : Option (List Code)} {cn : Str} {cs : Scope} {a : Addr} {ccd : Value} {cl : List (Str × Addr)} {outer : List Env} {A₀ : Around} {base h₀ : Heap} {L : Addr} {m : Str → Option Value} {news : List (Addr × Obj)} {s : Shared}
    {Q E : Value → Shared → Prop} (C : InnerC prog w K p loose mean mg mb fI pre ns n k) (l0 : 0 ≤ l) (lr : l < r) (hr : r ≤ ns.length) (hk2 : r - l ≤ 2 ^ k)
    (B : Below A₀ base outer h₀) (F : Fr h₀ L s.heap m) (X : K.In h₀) (N : News h₀ L s.heap news) (hp : ∀ p ∈ pre, p ∈ news) (T : Top p loose mean mg mb h₀) (hk : cs.kind = .function) (hdp : dp + k + 104 < recursionLimit) (hu : un + 8 * k + 100 < cLine)
    (ret : ∀ t' h' tk', Fr h₀ L h' m → News h₀ L h' news → Q (.int (evalD (2 ^ n.toNat) (cutD ns l.toNat r.toNat)) t') { s with heap := h', toks := tk' }) :
    wpAny (model prog w) (ktrTop dp un gd cn cs L a ccd cl outer) (call (.ref fI) [.int l t, .int r u]) Q E s :=
  C l r t u dp un gd cn cs a ccd cl outer A₀ base h₀ L m news s Q E l0 lr hr hk2 B F X (fun q hq => by
    rcases List.mem_append.mp hq with hq | hq
    · exact N q (hp q hq)
    · exact N q hq) T hk hdp hu fun t' h' tk' F' N' => ret t' h' tk' F' fun q hq => N' q (List.mem_append.mpr (.inr hq))
theorem inner_use6 {nm ql : Str} {prm : Arguments} {bd : List Stmt} {sc : Scope} {clo : List (Str × Addr)} {doc pm ct : Value} {c2 c3 c4 c5 c6 : Addr} {o2 o3 o4 o5 o6 : Obj} {k : Nat} {l r : Int} {t u : Tok} {dp un : Nat} {gd : Option (List Code)} {cn : Str} {cs : Scope} {a : Addr} {ccd : Value} {cl : List (Str × Addr)} {outer : List Env} {A₀ : Around} {base h₀ : Heap} {L : Addr} {m : Str → Option Value} {news : List (Addr × Obj)} {s : Shared}
    {Q E : Value → Shared → Prop} (N : News h₀ L s.heap news) (m1 : (fI, fnMade nm ql prm bd sc clo doc pm c2 ct) ∈ news) (m2 : (c2, o2) ∈ news) (m3 : (c3, o3) ∈ news) (m4 : (c4, o4) ∈ news) (m5 : (c5, o5) ∈ news) (m6 : (c6, o6) ∈ news)
    (C : InnerC prog w K p loose mean mg mb fI [(fI, fnMade nm ql prm bd sc clo doc pm c2 ct), (c2, o2), (c3, o3), (c4, o4), (c5, o5), (c6, o6)] ns n k) (l0 : 0 ≤ l) (lr : l < r) (hr : r ≤ ns.length) (hk2 : r - l ≤ 2 ^ k)
    (B : Below A₀ base outer h₀) (F : Fr h₀ L s.heap m) (X : K.In h₀) (T : Top p loose mean mg mb h₀) (hk : cs.kind = .function) (hdp : dp + k + 104 < recursionLimit) (hu : un + 8 * k + 100 < cLine)
    (ret : ∀ t' h' tk', Fr h₀ L h' m → News h₀ L h' news → Q (.int (evalD (2 ^ n.toNat) (cutD ns l.toNat r.toNat)) t') { s with heap := h', toks := tk' }) :
    wpAny (model prog w) (ktrTop dp un gd cn cs L a ccd cl outer) (call (.ref fI) [.int l t, .int r u]) Q E s :=
  inner_use C l0 lr hr hk2 B F X N (List.forall_mem_cons.mpr ⟨m1, List.forall_mem_cons.mpr ⟨m2, List.forall_mem_cons.mpr ⟨m3, List.forall_mem_cons.mpr ⟨m4, List.forall_mem_cons.mpr ⟨m5, List.forall_mem_cons.mpr ⟨m6, List.forall_mem_nil _⟩⟩⟩⟩⟩⟩) T hk hdp hu ret
end
section
variable {prog : Program} {w : World} {A : Around} {E : Value → Shared → Prop} {s : Shared} {h₀ : Heap} {L : Addr} {news : List (Addr × Obj)} {l : Addr} {vs : List Value} {ns : List Int} {c : Nat}
theorem truth_z {Q : Bool → Shared → Prop} (N : News h₀ L s.heap news) (hm : (l, listOf vs.toArray c) ∈ news) (hi : IntsAre vs ns) (hlen : ns.length ≤ 1000000)
    (h1 : ns ≠ [] → ∀ tk, Q true { s with toks := tk }) (h2 : ns = [] → ∀ tk, Q false { s with toks := tk }) : wpAny (model prog w) A (truthy (.ref l)) Q E s := by
  have hl : s.heap.IsList l vs.toArray := ⟨_, (N _ hm).1, rfl, c, rfl⟩
  have e := hi.length
  refine wpAny_truthy_list hl (by rw [List.size_toArray, e]; omega) ?_
  cases ns with
  | nil =>
    have : vs = [] := List.length_eq_zero_iff.mp (by rw [e]; rfl)
    subst this
    exact h2 rfl _
  | cons x r =>
    cases vs with
    | nil => simp at e
    | cons v vr => exact h1 (by simp) _
end
/-- the table of a def's inner defs: empty, or with the one code object -/
def TabS (P : Addr) (line col : Nat) (ql : Str) (X : Obj) (C : Addr) (Y : Obj) : Prop :=
  (X = tabObj #[] ∧ C = P ∧ Y = X) ∨ (X = tabObj #[rawInt line, rawInt col, .ref C] ∧ C ≠ P ∧ ∃ vs t, Y.data = .fields vs ∧ vs[1]? = some (.str ql t))
theorem TabS.grown {P : Addr} {line col : Nat} {ql : Str} {X Y : Obj} {C : Addr} (h : TabS P line col ql X C Y) : ∃ ps, X = tabObj ps := by
  rcases h with h | h
  · exact ⟨_, h.1⟩
  · exact ⟨_, h.1⟩
/-- the table with the one code object -/
def TabF (P : Addr) (line col : Nat) (ql : Str) (X : Obj) (C : Addr) (Y : Obj) : Prop :=
  X = tabObj #[rawInt line, rawInt col, .ref C] ∧ C ≠ P ∧ ∃ vs t, Y.data = .fields vs ∧ vs[1]? = some (.str ql t)
theorem TabF.toS {P : Addr} {line col : Nat} {ql : Str} {X Y : Obj} {C : Addr} (h : TabF P line col ql X C Y) : TabS P line col ql X C Y := .inr h
theorem TabF.grown {P : Addr} {line col : Nat} {ql : Str} {X Y : Obj} {C : Addr} (h : TabF P line col ql X C Y) : ∃ ps, X = tabObj ps := ⟨_, h.1⟩
/-- its code object lies apart from what is no record -/
theorem TabF.off {P : Addr} {line col : Nat} {ql : Str} {X Y o : Obj} {C a : Addr} {h₀ h : Heap} {L : Addr} {news : List (Addr × Obj)} (H : TabF P line col ql X C Y) (N : News h₀ L h news) (hC : (C, Y) ∈ news) (hO : (a, o) ∈ news) (ho : ∀ vs, o.data ≠ .fields vs) : C ≠ a := by
  obtain ⟨_, _, vs, t, e1, _⟩ := H
  intro e
  have g1 := (N _ hC).1
  have g2 := (N _ hO).1
  rw [e, g2] at g1
  have g3 : o = Y := Option.some.inj g1
  exact ho vs (by rw [g3]; exact e1)
theorem TabS.start (P : Addr) (line col : Nat) (ql : Str) : TabS P line col ql (tabObj #[]) P (tabObj #[]) := .inl ⟨rfl, rfl, rfl⟩
theorem tab_fin {P C' lst : Addr} {line col : Nat} {ql : Str} {X' Y' ol : Obj} {full rest : List (Addr × Obj)} {vs : Array Value} {t : Tok} {h₀ h : Heap} {L : Addr} (N : News h₀ L h full) (hX : (P, X') ∈ full) (e : X' = tabObj #[rawInt line, rawInt col, .ref C']) (hY : (C', Y') ∈ full) (hne : C' ≠ P) (h1 : Y'.data = .fields vs) (h2 : vs[1]? = some (.str ql t))
    (hl : (lst, ol) ∈ full) (hs : ∀ q ∈ rest, q ∈ full) : TabF P line col ql X' C' Y' ∧ News h₀ L h ((P, X') :: (C', Y') :: (lst, ol) :: rest) :=
  ⟨⟨e, hne, vs, t, h1, h2⟩, fun q hq => N q (by
    rcases List.mem_cons.mp hq with rfl | hq
    · exact hX
    rcases List.mem_cons.mp hq with rfl | hq
    · exact hY
    rcases List.mem_cons.mp hq with rfl | hq
    · exact hl
    exact hs q hq)⟩
end Mine
namespace Mine
open PySem.Builtin.Int (intBits)
section
variable {prog : Program} {w : World} {A : Around} {E : Value → Shared → Prop} {s : Shared} {a b : Int} {t u : Tok} {Q : Value → Shared → Prop}
theorem half_p (h : ∀ z, z = a / 2 → Q (.int z s.toks) { s with toks := s.toks + 1 }) : wpAny (model prog w) A (binaryOp .RShift (.int a t) (.int 1 u)) Q E s := by
  refine rshift_int (by decide) (h _ ?_)
  have e : (2 : Int) ^ (1 : Int).toNat = 2 := by decide
  rw [e, Int.fdiv_eq_ediv_of_nonneg _ (by decide)]
theorem mulS_p (a0 : 0 ≤ a) (a1 : a ≤ 1000000) (b0 : 0 ≤ b) (b1 : b ≤ 10000000) (h : ∀ z, z = a * b → Q (.int z s.toks) { s with toks := s.toks + 1 }) : wpAny (model prog w) A (binaryOp .Mult (.int a t) (.int b u)) Q E s :=
  mul_p (m := 20) (n := 24) (bits_of_lt a0 (by have : (2 : Int) ^ 20 = 1048576 := by decide
                                               omega)) (bits_of_lt b0 (by have : (2 : Int) ^ 24 = 16777216 := by decide
                                                                          omega)) (by decide) (h _ rfl)
theorem shlD_p {x e : Int} (h0 : 0 ≤ e) (h1 : e ≤ 10000000) (hx : intBits x ≤ 10000000) (h : ∀ z, z = x * 2 ^ e.toNat → Q (.int z s.toks) { s with toks := s.toks + 1 }) : wpAny (model prog w) A (binaryOp .LShift (.int x t) (.int e u)) Q E s :=
  shl_p (N := 10000000) (m := 10000000) h0 hx h1 (by decide) fun z _ e _ => h z e
end
section
variable {prog : Program} {w : World} {A : Around} {E : Value → Shared → Prop} {s : Shared} {h₀ : Heap} {L : Addr} {news : List (Addr × Obj)} {value slice : Expr} {l : Addr} {vs : List Value} {ns : List Int} {c : Nat} {k : Int} {u : Tok} {Q : Value → Shared → Prop}
theorem itemD (N : News h₀ L s.heap news) (hm : (l, listOf vs.toArray c) ∈ news) (hi : IntsAre vs ns) (h0 : 0 ≤ k) (h1 : k < (ns.length : Int)) (h2 : (ns.length : Int) ≤ 1000000) (h : ∀ t, Q (.int (ns.getD k.toNat 0) t) s)
    (hs : subscripted slice false (.ref l) (.int k u) = operate [.ref l, .int k u] (getItem (.ref l) (.int k u)) := by with_unfolding_all rfl) (hg : ∀ r, letTemporaryGo value (.ref l) r = pure () := by intro _; with_unfolding_all rfl) :
    wpAny (model prog w) A (subscriptTail value slice (.ref l) (.int k u)) Q E s :=
  item_list_ints ⟨_, (N _ hm).1, rfl, c, rfl⟩ hi h0 h1 (by omega) h hs hg
end
theorem half_le {l r : Int} {k : Nat} (h : r - l ≤ 2 ^ k) (h1 : l + 1 < r) : ∃ j, k = j + 1 ∧ r - (l + r) / 2 ≤ 2 ^ j ∧ (l + r) / 2 - l ≤ 2 ^ j := by
  cases k with
  | zero => simp at h; omega
  | succ j => exact ⟨j, rfl, by rw [Int.pow_succ] at h; omega, by rw [Int.pow_succ] at h; omega⟩
theorem shift_le {l m r n : Int} {ns : List Int} {B : Nat} (n0 : 0 ≤ n) (l0 : 0 ≤ l) (h1 : l ≤ m) (h2 : m ≤ r) (h3 : r ≤ ns.length) (hN : (B : Int) + n * ns.length + ns.length ≤ 10000000) : 0 ≤ (m - l) * n ∧ (m - l) * n ≤ 10000000 := by
  have h4 : (m - l) * n ≤ ns.length * n := mul_le_of n0 (by omega)
  rw [Int.mul_comm (ns.length : Int)] at h4
  have : 0 ≤ n * ns.length := Int.mul_nonneg n0 (by omega)
  exact ⟨Int.mul_nonneg (by omega) n0, by omega⟩
theorem evalD_one (P x : Int) : evalD P [x] = x := by rw [evalD, evalD, Int.mul_zero, Int.add_zero]
local macro_rules | `(tactic| k_all) => `(tactic| first | assumption | exact ne_rest (by assumption) (by omega))
local macro_rules | `(tactic| walk_at "truthy ref") => `(tactic| k_extra "truth")
local macro_rules | `(tactic| walk_at "call ref") => `(tactic| k_extra "mycall")
local macro_rules | `(tactic| walk_at "eval Name") => `(tactic| (k_here; k_dflt (refine' nameX_F ?N ?c ?m ?d ?_ ?a ?b; (case a => rfl); (case b => rfl); (case N => k_asm); (case c => rfl); (case m => k_mem); (case d => k_asm); k_whole)))
local macro_rules | `(tactic| walk_at "binaryOp RShift int int") => `(tactic| k_extra "half")
local macro_rules | `(tactic| walk_at "binaryOp Mult int int") => `(tactic| k_extra "mul")
local macro_rules | `(tactic| walk_at "binaryOp LShift int int") => `(tactic| k_extra "shl")
local macro_rules | `(tactic| walk_at "subscriptTail Name Name ref int") => `(tactic| k_extra "item")
set_option maxRecDepth 100000 in
set_option maxHeartbeats 8000000 in
theorem dig_c (w : World) (mean : ExcName → Option Value) (mg mb : Str → Option Value) {n : Int} {vs : List Value} {ns : List Int} {c Bd : Nat} {lst : Addr} {t : Tok} {Xo Yo : Obj} {Co : Addr} (hI : IntsAre vs ns) (hlen : ns.length ≤ 1000000) (n0 : 0 ≤ n) (hB : ∀ x ∈ ns, intBits x ≤ Bd) (hN : (Bd : Int) + n * ns.length + ns.length ≤ 10000000) (n1 : n ≤ 10000000)
    {dp un : Nat} {gd : Option (List Code)} {cn : Str} {cs : Scope} {a : Addr} {ccd : Value} {cl : List (Str × Addr)} {outer : List Env} {A₀ : Around} {base h₀ : Heap} {L : Addr} {m : Str → Option Value} {rest : List (Addr × Obj)} {s : Shared}
    {Q E : Value → Shared → Prop} (B : Below A₀ base outer h₀) (F : Fr h₀ L s.heap m) (X : (hd.heap_39 w.params).In h₀) (N : News h₀ L s.heap ((37, Xo) :: (Co, Yo) :: (lst, listOf vs.toArray c) :: rest)) (T : Top prog0 (looseW hd.view_39 [] ++ List.map (fun x => x.name) (recsOf hd.view_39) ++ List.map (fun x => x.fst) (litsOf hd.view_39) ++ List.map (fun x => x.name) (clssOf hd.view_39 (looseW hd.view_39 []))) mean mg mb h₀) (hC : CodeHd h₀ 41 37) (hr : ∀ p ∈ rest, p.1 ≠ 37) (hlp : lst ≠ 37) (hTab : TabS 37 47 4 (Str.ofString "_digits2int.<locals>.inner") Xo Co Yo) (hk : cs.kind = .function) (hdp : dp + 22 + 104 < recursionLimit) (hu : un + 8 * 22 + 100 < cLine)
    (hret : ∀ X' C' Y' t' h' tk', TabF 37 47 4 (Str.ofString "_digits2int.<locals>.inner") X' C' Y' → Fr h₀ L h' m → News h₀ L h' ((37, X') :: (C', Y') :: (lst, listOf vs.toArray c) :: rest) → Q (.int (evalD (2 ^ n.toNat) ns) t') { s with heap := h', toks := tk' }) :
    wpAny (model PySem.Challenge.rw_dn0134_09.row.prog w) (ktrTop dp un gd cn cs L a ccd cl outer) (call (.ref 42) [.ref lst, .int n t]) Q E s := by
  (have hh : PySem.Challenge.rw_dn0134_09 = PySem.Challenge.rw_dn0134_09 ∧ hd.heap_39 = hd.heap_39 := by (k_fill; exact ⟨rfl, rfl⟩))
  clear hh
  w_top off
  k_with_none
  k_with "truth" => (k_dflt (refine' truth_z ?zN ?zm hI hlen ?_ ?_; (case zN => k_asm); (case zm => k_mem)); rotate_left; (intro hnil tk1); rotate_left; (intro hne tk1; have hpos := List.length_pos_iff.mpr hne))
  k_with "half" => ((with_reducible refine half_p ?_); intro mid hmid)
  k_with "mul" => ((with_reducible refine' mulS_p ?za ?zb n0 n1 ?_); (case za => omega); (case zb => omega); intro sh hsh)
  k_with "shl" => (have hsl := shift_le (l := il) (m := mid) (r := ir) n0 (by omega) (by omega) (by omega) (by omega) hN; rw [← hsh] at hsl; (k_dflt (refine' shlD_p hsl.1 hsl.2 (inner_bits' (N := 10000000) n0 hB ?za ?zb ?zc (by exact hN)) ?_)); (case za => omega); (case zb => omega); (case zc => omega); intro zl hzl)
  k_with "item" => (k_dflt (refine' itemD ?zN ?zm hI ?za ?zb ?zc ?_; (case zN => k_asm); (case zm => k_mem); (case za => omega); (case zb => omega); (case zc => omega)); intro ti)
  k_with "mycall" => (first
    | (obtain ⟨j, hj, hj1, hj2⟩ := half_le (l := il) (r := ir) ik (by omega)
       k_dflt (refine' inner_use6 (k := j) ?zN ?zm1 ?zm2 ?zm3 ?zm4 ?zm5 ?zm6 (hIH j hj) ?l0 ?lr ?hr2 ?hk2 ?zB ?zF ?zX ?zT ?kK ?zd ?zu ?_)
       (case zN => k_asm)
       (case zm1 => k_dflt k_mem)
       (case zm2 => k_dflt k_mem)
       (case zm3 => k_dflt k_mem)
       (case zm4 => k_dflt k_mem)
       (case zm5 => k_dflt k_mem)
       (case zm6 => k_dflt k_mem)
       (case l0 => omega)
       (case lr => omega)
       (case hr2 => omega)
       (case hk2 => omega)
       (case zB => k_asm)
       (case zF => k_asm)
       (case zX => k_asm)
       (case zT => k_asm)
       (case kK => exact rfl)
       (case zd => ktr_room)
       (case zu => ktr_units)
       intro ti h' tk' F' N'
       (try dsimp only)
       (try k_fold))
    | ((fail_if_success (have h9 := hIH)); k_dflt (refine' inner_use6 (c3 := L' + 1 + 1 + 1) (c4 := L' + 1 + 1) (c5 := L' + 1) (c6 := lst) (o6 := listOf vs.toArray c) (ns := ns) (n := n) (k := 20) ?zN ?zm1 ?zm2 ?zm3 ?zm4 ?zm5 ?zm6 (inner_all ?step 20) ?l0 ?lr ?hr2 ?hk2 ?zB ?zF ?zX ?zT ?kK ?zd ?zu ?_)
       (case zN => k_asm)
       (case zm1 => k_dflt k_mem)
       (case zm2 => k_dflt k_mem)
       (case zm3 => k_dflt k_mem)
       (case zm4 => k_dflt k_mem)
       (case zm5 => k_dflt k_mem)
       (case zm6 => k_dflt k_mem)
       (case l0 => decide)
       (case lr => omega)
       (case hr2 => omega)
       (case hk2 => (simp; omega))
       (case zB => k_asm)
       (case zF => k_asm)
       (case zX => k_asm)
       (case zT => k_asm)
       (case kK => exact rfl)
       (case zd => ktr_room)
       (case zu => ktr_units)
       (case step => (
         intro k hIH
         unfold InnerC
         intro il ir ti ui dp2 un2 gd2 cn2 cs2 a2 ccd2 cl2 outer2 A2 base2 h2 L2 m2 rest2 s2 Q2 E2 il0 ilr irn ik IB IF IX IN IT Ik Id Iu Iret
         simp only [List.cons_append, List.nil_append] at IN Iret
         refine wpAny_call ?_
         k_dflt (refine' code_nest ?k1 ?k2 ?k3 ?k4 ?k5 ?kA ?kF ?kK ?k6 ?k7 ?k8 ?k9 ?kB ?_ ?c2 ?c3 ?c4 ?c5; (case kA => exact rfl); (case kF => exact rfl); (case kK => assumption); (case k1 => k_asm); (case k2 => k_asm); (case k3 => k_asm); (case k4 => k_asm); (case k5 => k_asm); (case k6 => k_mem); (case k7 => exact codeRec_news (by k_asm) (by k_mem) (by assumption) (by assumption)); (case k8 => ktr_room); (case k9 => exact BindsTo.of_eq rfl); (case c5 => decide); (case kB => exact locs rfl); (case c2 => exact rfl); (case c3 => exact rfl); (case c4 => exact rfl); k_whole; intro g2' L2' h2' FG2' F2' N2' B2' X2' T2'; (try dsimp only); (try k_fold))
         k_dflt (k_steps)
         all_goals (first
           | ((have e9 : evalD (2 ^ n.toNat) (cutD ns il.toNat ir.toNat) = ns.getD il.toNat 0 := by rw [show ir.toNat = il.toNat + 1 by omega, cutD_one (by omega), evalD_one]); rw [← e9]; exact Iret _ _ _ (by k_asm) (by k_asm))
           | ((have e9 := inner_val (ns := ns) (l := il) (m := mid) (r := ir) n0 il0 (by omega) (by omega) irn); rw [← hsh] at e9; rw [hzl, e9]; exact Iret _ _ _ (by k_asm) (by k_asm)))))
       intro ti h' tk' F' N'
       (try dsimp only)
       (try k_fold)))
  rcases hTab with ⟨rfl, rfl, rfl⟩ | ⟨rfl, hCne, vsC, tC, hY1, hY2⟩
  · replace N := news_sub N (sub0 (sub1 subr))
    refine wpAny_call ?_
    k_dflt (refine' code_defC ?k1 ?k2 ?k3 ?k4 ?k5 ?kA ?kF ?kK ?k6 ?k7 ?k8 ?k9 ?kB ?kD ?_ ?c2 ?c3 ?c4; (case kA => exact rfl); (case kF => exact rfl); (case kK => assumption); (case k1 => k_asm); (case k2 => k_asm); (case k3 => k_asm); (case k4 => k_asm); (case k5 => k_asm); (case k6 => k_is); (case k7 => k_is); (case k8 => ktr_room); (case k9 => exact BindsTo.of_eq rfl); (case kB => exact rfl); (case kD => decide); (case c2 => exact rfl); (case c3 => exact rfl); (case c4 => exact rfl); k_whole; intro g' L' h' tk' cells' FG' F' N' Y' B' X' T' l1)
    (try k_lt l1); (first | obtain ⟨l1a, l1e, l1b, l1c⟩ := l1 | obtain ⟨l1a, l1b, l1c⟩ := l1); have hC' := hC.keeps FG'.keep; k_cells Y'; (try simp only [List.cons_append, List.nil_append] at N'); (try dsimp only); (try k_fold)
    k_steps
    all_goals (
      (obtain ⟨hf1, hf2⟩ := tab_fin (P := 37) (line := 47) (col := 4) (ql := Str.ofString "_digits2int.<locals>.inner") (h₀ := h₀) (L := L) (lst := lst) (ol := listOf vs.toArray c) (rest := rest) (by k_asm) (by k_mem) rfl (by k_mem) (by first | assumption | k_ne) (by assumption) (by assumption) (by k_mem) (by (repeat' (first | exact subr | (refine sub1 ?_)))))
      first
        | ((have e9 : evalD (2 ^ n.toNat) (cutD ns (Int.toNat 0) ((ns.length : Int)).toNat) = evalD (2 ^ n.toNat) ns := (by rw [Int.toNat_natCast]; exact congrArg _ (cutD_all ns))); rw [e9]; exact hret _ _ _ _ _ _ hf1 (by k_asm) hf2)
        | (subst hnil; exact hret _ _ _ _ _ _ hf1 (by k_asm) hf2))
  ·
    refine wpAny_call ?_
    k_dflt (refine' code_defC ?k1 ?k2 ?k3 ?k4 ?k5 ?kA ?kF ?kK ?k6 ?k7 ?k8 ?k9 ?kB ?kD ?_ ?c2 ?c3 ?c4; (case kA => exact rfl); (case kF => exact rfl); (case kK => assumption); (case k1 => k_asm); (case k2 => k_asm); (case k3 => k_asm); (case k4 => k_asm); (case k5 => k_asm); (case k6 => k_is); (case k7 => k_is); (case k8 => ktr_room); (case k9 => exact BindsTo.of_eq rfl); (case kB => exact rfl); (case kD => decide); (case c2 => exact rfl); (case c3 => exact rfl); (case c4 => exact rfl); k_whole; intro g' L' h' tk' cells' FG' F' N' Y' B' X' T' l1)
    (try k_lt l1); (first | obtain ⟨l1a, l1e, l1b, l1c⟩ := l1 | obtain ⟨l1a, l1b, l1c⟩ := l1); have hC' := hC.keeps FG'.keep; k_cells Y'; (try simp only [List.cons_append, List.nil_append] at N'); (try dsimp only); (try k_fold)
    k_steps
    all_goals (
      (obtain ⟨hf1, hf2⟩ := tab_fin (P := 37) (line := 47) (col := 4) (ql := Str.ofString "_digits2int.<locals>.inner") (h₀ := h₀) (L := L) (lst := lst) (ol := listOf vs.toArray c) (rest := rest) (by k_asm) (by k_mem) rfl (by k_mem) (by first | assumption | k_ne) (by assumption) (by assumption) (by k_mem) (by (repeat' (first | exact subr | (refine sub1 ?_)))))
      first
        | ((have e9 : evalD (2 ^ n.toNat) (cutD ns (Int.toNat 0) ((ns.length : Int)).toNat) = evalD (2 ^ n.toNat) ns := (by rw [Int.toNat_natCast]; exact congrArg _ (cutD_all ns))); rw [e9]; exact hret _ _ _ _ _ _ hf1 (by k_asm) hf2)
        | (subst hnil; exact hret _ _ _ _ _ _ hf1 (by k_asm) hf2))
end Mine
namespace Mine
open PySem.Builtin.Int (intBits)
theorem and_self_z (x : Int) : Builtin.bitAnd x x = x := by
  have h1 := bitXor_and x x
  have h2 := bitXor_self x
  omega
theorem and_high : ∀ (k : Nat) (u v : Int), 0 ≤ v → v < 2 ^ k → Builtin.bitAnd (u * 2 ^ k + v) (u * 2 ^ k) = u * 2 ^ k := by
  intro k
  induction k with
  | zero =>
    intro u v h0 h1
    have : v = 0 := by rw [Int.pow_zero] at h1; omega
    subst this
    rw [Int.add_zero, and_self_z]
  | succ k ih =>
    intro u v h0 h1
    rw [Int.pow_succ] at h1
    rw [kbt_halves]
    have e1 : (u * 2 ^ (k + 1) + v) / 2 = u * 2 ^ k + v / 2 := by
      rw [Int.pow_succ, ← Int.mul_assoc]; omega
    have e2 : u * 2 ^ (k + 1) / 2 = u * 2 ^ k := by
      rw [Int.pow_succ, ← Int.mul_assoc]; omega
    rw [e1, e2, ih u (v / 2) (by omega) (by omega)]
    have ep : u * 2 ^ (k + 1) = u * 2 ^ k * 2 := by rw [Int.pow_succ, Int.mul_assoc]
    rw [ep]
    generalize u * 2 ^ k = z
    split <;> omega
/-- the low end, as the program takes it -/
theorem xor_low (x : Int) (k : Nat) : Builtin.bitXor x (x / 2 ^ k * 2 ^ k) = x % 2 ^ k := by
  have hp := ppos k
  have h0 := Int.emod_nonneg x (show (2 : Int) ^ k ≠ 0 by omega)
  have h1 := Int.emod_lt_of_pos x hp
  have e : x / 2 ^ k * 2 ^ k + x % 2 ^ k = x := by rw [Int.mul_comm]; exact Int.mul_ediv_add_emod _ _
  have h := and_high k (x / 2 ^ k) (x % 2 ^ k) h0 h1
  rw [e] at h
  rw [bitXor_and, h]
  omega
/-- the k lowest digits of x -/
def digs (P : Int) : Nat → Int → List Int
  | 0, _ => []
  | k + 1, x => x % P :: digs P k (x / P)
theorem digs_len (P : Int) : ∀ (k : Nat) (x : Int), (digs P k x).length = k
  | 0, _ => rfl
  | k + 1, x => by rw [digs, List.length_cons, digs_len]
theorem digs_add {P : Int} (hP : 0 < P) : ∀ (j k : Nat) (x : Int), digs P (j + k) x = digs P j (x % P ^ j) ++ digs P k (x / P ^ j)
  | 0, k, x => by rw [Nat.zero_add, Int.pow_zero, Int.ediv_one]; rfl
  | j + 1, k, x => by
    have e : j + 1 + k = j + k + 1 := by omega
    have hp : 0 < P ^ j := Int.pow_pos hP
    rw [e, digs, digs_add hP j k, digs, List.cons_append]
    have e1 : x % P ^ (j + 1) % P = x % P := Int.emod_emod_of_dvd x ⟨P ^ j, by rw [Int.pow_succ, Int.mul_comm]⟩
    have e2 : x % P ^ (j + 1) / P = x / P % P ^ j := by
      have h0 : P ^ (j + 1) = P * P ^ j := by rw [Int.pow_succ, Int.mul_comm]
      rw [h0]
      have hx := Int.mul_ediv_add_emod x P
      have hr := Int.emod_nonneg x (show P ≠ 0 by omega)
      have hr1 := Int.emod_lt_of_pos x hP
      have hy := Int.mul_ediv_add_emod (x / P) (P ^ j)
      have hs := Int.emod_nonneg (x / P) (show P ^ j ≠ 0 by omega)
      have hs1 := Int.emod_lt_of_pos (x / P) hp
      generalize x % P = r at *
      generalize hq : x / P = q at *
      generalize q % P ^ j = s at *
      generalize q / P ^ j = t at *
      generalize P ^ j = R at *
      have ex : x = (P * s + r) + P * R * t := by rw [← hx, ← hy]; grind
      have hlt : P * s + r < P * R := by
        have : P * (s + 1) ≤ P * R := Int.mul_le_mul_of_nonneg_left (by omega) (by omega)
        rw [Int.mul_add, Int.mul_one] at this
        omega
      have h0' : 0 ≤ P * s + r := by
        have := Int.mul_nonneg (Int.le_of_lt hP) hs
        omega
      rw [ex, Int.add_mul_emod_self_left, Int.emod_eq_of_lt h0' hlt, Int.add_comm, Int.add_mul_ediv_left _ _ (by omega), Int.ediv_eq_zero_of_lt hr hr1]
      omega
    have e3 : x / P ^ (j + 1) = x / P / P ^ j := by rw [Int.pow_succ, Int.mul_comm]; exact (Int.ediv_ediv_of_nonneg (by omega)).symm
    rw [e1, e2, e3]
theorem digs_one {P x : Int} (h0 : 0 ≤ x) (h1 : x < P) : digs P 1 x = [x] := by
  rw [digs, digs, Int.emod_eq_of_lt h0 h1]
theorem digs_eval {P : Int} (hP : 0 < P) : ∀ (k : Nat) (x : Int), 0 ≤ x → x < P ^ k → evalD P (digs P k x) = x
  | 0, x, h0, h1 => by rw [Int.pow_zero] at h1; rw [digs, evalD]; omega
  | k + 1, x, h0, h1 => by
    rw [digs, evalD, digs_eval hP k (x / P) (Int.ediv_nonneg h0 (by omega)) (Int.ediv_lt_of_lt_mul hP (by rw [← Int.pow_succ]; exact h1))]
    have := Int.mul_ediv_add_emod x P
    omega
theorem digs_lt {P : Int} (hP : 0 < P) : ∀ (k : Nat) (x : Int), ∀ d ∈ digs P k x, 0 ≤ d ∧ d < P
  | 0, _, d, h => by rw [digs] at h; cases h
  | k + 1, x, d, h => by
    rw [digs] at h
    rcases List.mem_cons.mp h with rfl | h
    · exact ⟨Int.emod_nonneg _ (by omega), Int.emod_lt_of_pos _ hP⟩
    · exact digs_lt hP k _ d h
end Mine
namespace Mine
open PySem.Builtin.Int (intBits)
/-- the row with the digits of x from place l on to place r -/
def putD (P : Int) (ns : List Int) (l r : Nat) (x : Int) : List Int := ns.take l ++ (digs P (r - l) x ++ ns.drop r)
theorem putD_len {P x : Int} {ns : List Int} {l r : Nat} (h : l ≤ r) (h2 : r ≤ ns.length) : (putD P ns l r x).length = ns.length := by
  unfold putD
  rw [List.length_append, List.length_append, List.length_take, digs_len, List.length_drop]; omega
theorem putD_one {P x : Int} {ns : List Int} {l : Nat} (h0 : 0 ≤ x) (h1 : x < P) (h : l < ns.length) : ns.set l x = putD P ns l (l + 1) x := by
  unfold putD
  have e : l + 1 - l = 1 := by omega
  rw [e, digs_one h0 h1, List.set_eq_take_append_cons_drop, if_pos h]
  rfl
theorem putD_split {P x : Int} {ns : List Int} {l m r : Nat} (hP : 0 < P) (h1 : l ≤ m) (h2 : m ≤ r) (h3 : r ≤ ns.length) :
    putD P (putD P ns l m (x % P ^ (m - l))) m r (x / P ^ (m - l)) = putD P ns l r x := by
  have e : r - l = (m - l) + (r - m) := by omega
  have hl : (ns.take l ++ digs P (m - l) (x % P ^ (m - l))).length = m := by
    rw [List.length_append, List.length_take, digs_len]; omega
  have e1 : putD P ns l m (x % P ^ (m - l)) = (ns.take l ++ digs P (m - l) (x % P ^ (m - l))) ++ ns.drop m := by
    unfold putD; rw [List.append_assoc]
  have e2 : (putD P ns l m (x % P ^ (m - l))).take m = ns.take l ++ digs P (m - l) (x % P ^ (m - l)) := by
    rw [e1]; exact List.take_left' hl
  have e3 : (putD P ns l m (x % P ^ (m - l))).drop r = ns.drop r := by
    have : r = m + (r - m) := by omega
    rw [e1, this, ← List.drop_drop, List.drop_left' hl, List.drop_drop]
  unfold putD at e2 e3 ⊢
  rw [e2, e3, e, digs_add hP, List.append_assoc, List.append_assoc]
theorem putD_all {P x : Int} {ns : List Int} : putD P ns 0 ns.length x = digs P ns.length x := by
  unfold putD
  rw [List.take_zero, List.nil_append, Nat.sub_zero, List.drop_length, List.append_nil]
def InnerM (prog : Program) (w : World) (K : Frag) (p : Program) (loose : List Str) (mean : ExcName → Option Value) (mg mb : Str → Option Value) (fI lst : Addr) (c : Nat) (pre : List (Addr × Obj)) (n : Int) (len k : Nat) : Prop :=
  ∀ (x l r : Int) (t u v : Tok) (vs : List Value) (ns : List Int) (dp un : Nat) (gd : Option (List Code)) (cn : Str) (cs : Scope) (a : Addr) (ccd : Value) (cl : List (Str × Addr)) (outer : List Env) (A₀ : Around) (base h₀ : Heap) (L : Addr) (m : Str → Option Value) (rest : List (Addr × Obj)) (s : Shared)
    (Q E : Value → Shared → Prop), 0 ≤ x → x < (2 ^ n.toNat) ^ (r.toNat - l.toNat) → 0 ≤ l → l < r → r ≤ ns.length → ns.length = len → r - l ≤ 2 ^ k → IntsAre vs ns → (∀ p ∈ rest, p.1 ≠ lst) →
    Below A₀ base outer h₀ → Fr h₀ L s.heap m → K.In h₀ → News h₀ L s.heap ((lst, listOf vs.toArray c) :: (pre ++ rest)) → Top p loose mean mg mb h₀ → cs.kind = .function → dp + k + 104 < recursionLimit → un + 8 * k + 100 < cLine →
    (∀ vs' h' tk', IntsAre vs' (putD (2 ^ n.toNat) ns l.toNat r.toNat x) → Fr h₀ L h' m → News h₀ L h' ((lst, listOf vs'.toArray c) :: (pre ++ rest)) → Q .none { s with heap := h', toks := tk' }) →
    wpAny (model prog w) (ktrTop dp un gd cn cs L a ccd cl outer) (call (.ref fI) [.int x t, .int l u, .int r v]) Q E s
section
variable {prog : Program} {w : World} {K : Frag} {p : Program} {loose : List Str} {mean : ExcName → Option Value} {mg mb : Str → Option Value} {fI lst : Addr} {c : Nat} {pre : List (Addr × Obj)} {n : Int} {len : Nat}
theorem innerM_all (step : ∀ k, (∀ j, k = j + 1 → InnerM prog w K p loose mean mg mb fI lst c pre n len j) → InnerM prog w K p loose mean mg mb fI lst c pre n len k) : ∀ k, InnerM prog w K p loose mean mg mb fI lst c pre n len k
  | 0 => step 0 fun j e => by omega
  | k + 1 => step (k + 1) fun j e => by
      obtain rfl : k = j := by omega
      exact innerM_all step k
theorem innerM_use {nm ql : Str} {prm : Arguments} {bd : List Stmt} {sc : Scope} {clo : List (Str × Addr)} {doc pm ct : Value} {c2 c3 c4 c5 : Addr} {o2 o3 o4 o5 : Obj} {k : Nat} {x l r : Int} {t u v : Tok} {vs : List Value} {ns : List Int} {dp un : Nat} {gd : Option (List Code)} {cn : Str} {cs : Scope} {a : Addr} {ccd : Value} {cl : List (Str × Addr)} {outer : List Env} {A₀ : Around} {base h₀ : Heap} {L : Addr} {m : Str → Option Value} {news : List (Addr × Obj)} {g : Obj → List (Addr × Obj)} {s : Shared}
    {Q E : Value → Shared → Prop} (N : News h₀ L s.heap news) (U : UpdF lst (listOf vs.toArray c) news g) (m1 : (fI, fnMade nm ql prm bd sc clo doc pm c2 ct) ∈ news) (m2 : (c2, o2) ∈ news) (m3 : (c3, o3) ∈ news) (m4 : (c4, o4) ∈ news) (m5 : (c5, o5) ∈ news)
    (n1 : fI ≠ lst) (n2 : c2 ≠ lst) (n3 : c3 ≠ lst) (n4 : c4 ≠ lst) (n5 : c5 ≠ lst)
    (C : InnerM prog w K p loose mean mg mb fI lst c [(fI, fnMade nm ql prm bd sc clo doc pm c2 ct), (c2, o2), (c3, o3), (c4, o4), (c5, o5)] n len k) (x0 : 0 ≤ x) (x1 : x < (2 ^ n.toNat) ^ (r.toNat - l.toNat)) (l0 : 0 ≤ l) (lr : l < r) (hr : r ≤ ns.length) (hlen : ns.length = len) (hk2 : r - l ≤ 2 ^ k) (hI : IntsAre vs ns)
    (B : Below A₀ base outer h₀) (F : Fr h₀ L s.heap m) (X : K.In h₀) (T : Top p loose mean mg mb h₀) (hk : cs.kind = .function) (hdp : dp + k + 104 < recursionLimit) (hu : un + 8 * k + 100 < cLine)
    (ret : ∀ vs' h' tk', IntsAre vs' (putD (2 ^ n.toNat) ns l.toNat r.toNat x) → Fr h₀ L h' m → News h₀ L h' (g (listOf vs'.toArray c)) → Q .none { s with heap := h', toks := tk' }) :
    wpAny (model prog w) (ktrTop dp un gd cn cs L a ccd cl outer) (call (.ref fI) [.int x t, .int l u, .int r v]) Q E s := by
  obtain ⟨pr, post, rfl, hg, h1, h2⟩ := U.split
  refine C x l r t u v vs ns dp un gd cn cs a ccd cl outer A₀ base h₀ L m (pr ++ post) s Q E x0 x1 l0 lr hr hlen hk2 hI ?_ B F X ?_ T hk hdp hu ?_
  · intro q hq
    rcases List.mem_append.mp hq with hq | hq
    · exact h1 q hq
    · exact h2 q hq
  · intro q hq
    rcases List.mem_cons.mp hq with rfl | hq
    · exact N _ (List.mem_append_right _ (.head _))
    rcases List.mem_append.mp hq with hq | hq
    · simp only [List.mem_cons, List.not_mem_nil, or_false] at hq
      rcases hq with rfl | rfl | rfl | rfl | rfl
      · exact N _ m1
      · exact N _ m2
      · exact N _ m3
      · exact N _ m4
      · exact N _ m5
    rcases List.mem_append.mp hq with hq | hq
    · exact N q (List.mem_append_left _ hq)
    · exact N q (List.mem_append_right _ (.tail _ hq))
  · intro vs' h' tk' hI' F' N'
    refine ret vs' h' tk' hI' F' fun q hq => ?_
    rw [hg] at hq
    rcases List.mem_append.mp hq with hq | hq
    · exact N' _ (.tail _ (List.mem_append_right _ (List.mem_append_left _ hq)))
    rcases List.mem_cons.mp hq with rfl | hq
    · exact N' _ (.head _)
    · exact N' _ (.tail _ (List.mem_append_right _ (List.mem_append_right _ hq)))
end
/-- the halves of a number, as the program takes them -/
theorem sh_pow {n l m sh : Int} (n0 : 0 ≤ n) (l0 : 0 ≤ l) (h1 : l ≤ m) (hs : sh = (m - l) * n) : (2 : Int) ^ sh.toNat = (2 ^ n.toNat) ^ (m.toNat - l.toNat) := by
  rw [← Int.pow_mul]
  congr 1
  have h : ((n.toNat * (m.toNat - l.toNat) : Nat) : Int) = (m - l) * n := by
    rw [Int.natCast_mul, Int.toNat_of_nonneg n0, Int.natCast_sub (by omega), Int.toNat_of_nonneg (by omega), Int.toNat_of_nonneg l0, Int.mul_comm]
  omega
theorem half_facts {n l m r sh x up low : Int} (n0 : 0 ≤ n) (l0 : 0 ≤ l) (h1 : l ≤ m) (h2 : m ≤ r) (hs : sh = (m - l) * n) (x0 : 0 ≤ x) (x1 : x < (2 ^ n.toNat) ^ (r.toNat - l.toNat)) (hu : up = x / 2 ^ sh.toNat) (hl : low = x % 2 ^ sh.toNat) :
    0 ≤ low ∧ low < (2 ^ n.toNat) ^ (m.toNat - l.toNat) ∧ 0 ≤ up ∧ up < (2 ^ n.toNat) ^ (r.toNat - m.toNat) ∧ low = x % (2 ^ n.toNat) ^ (m.toNat - l.toNat) ∧ up = x / (2 ^ n.toNat) ^ (m.toNat - l.toNat) := by
  have e := sh_pow n0 l0 h1 hs
  rw [e] at hu hl
  have hP : (0 : Int) < 2 ^ n.toNat := ppos _
  have hp : 0 < ((2 : Int) ^ n.toNat) ^ (m.toNat - l.toNat) := Int.pow_pos hP
  have e2 : ((2 : Int) ^ n.toNat) ^ (r.toNat - l.toNat) = (2 ^ n.toNat) ^ (r.toNat - m.toNat) * (2 ^ n.toNat) ^ (m.toNat - l.toNat) := by rw [← Int.pow_add]; congr 1; omega
  rw [e2] at x1
  refine ⟨?_, ?_, ?_, ?_, hl, hu⟩
  · rw [hl]; exact Int.emod_nonneg _ (by omega)
  · rw [hl]; exact Int.emod_lt_of_pos _ hp
  · rw [hu]; exact Int.ediv_nonneg x0 (by omega)
  · rw [hu]; exact Int.ediv_lt_of_lt_mul hp x1
theorem putD_halves {n l m r x up low : Int} {ns : List Int} (l0 : 0 ≤ l) (h1 : l ≤ m) (h2 : m ≤ r) (h3 : r ≤ ns.length) (hl : low = x % (2 ^ n.toNat) ^ (m.toNat - l.toNat)) (hu : up = x / (2 ^ n.toNat) ^ (m.toNat - l.toNat)) :
    putD (2 ^ n.toNat) (putD (2 ^ n.toNat) ns l.toNat m.toNat low) m.toNat r.toNat up = putD (2 ^ n.toNat) ns l.toNat r.toNat x := by
  rw [hl, hu]
  exact putD_split (ppos _) (by omega) (by omega) (by omega)
theorem up_bits {n l r x : Int} (x0 : 0 ≤ x) (x1 : x < (2 ^ n.toNat) ^ (r.toNat - l.toNat)) (n0 : 0 ≤ n) (l0 : 0 ≤ l) (lr : l ≤ r) {len : Int} (hr : r ≤ len) (hN : n * len ≤ 10000000) : intBits x ≤ 10000000 := by
  rw [← Int.pow_mul] at x1
  refine Nat.le_trans (bits_of_lt x0 x1) ?_
  have h : ((n.toNat * (r.toNat - l.toNat) : Nat) : Int) = n * (r - l) := by
    rw [Int.natCast_mul, Int.toNat_of_nonneg n0, Int.natCast_sub (by omega), Int.toNat_of_nonneg (by omega), Int.toNat_of_nonneg l0]
  have h2 : n * (r - l) ≤ n * len := Int.mul_le_mul_of_nonneg_left (by omega) n0
  omega
/-- how many digits -/
def ndig (x n : Int) : Int := ((intBits x : Int) + n - 1) / n
theorem ndig_eq {x n z : Int} (h : z = ((intBits x : Int) + n - 1) / n) : z = ndig x n := h
theorem ndig_bounds {x n : Int} (n1 : 1 ≤ n) : 0 ≤ ndig x n ∧ ndig x n ≤ intBits x ∧ (intBits x : Int) ≤ n * ndig x n := by
  unfold ndig
  have h0 : (0 : Int) ≤ (intBits x : Int) := by omega
  generalize (intBits x : Int) = b at *
  have hd := Int.mul_ediv_add_emod (b + n - 1) n
  have hm := Int.emod_nonneg (b + n - 1) (show n ≠ 0 by omega)
  have hm1 := Int.emod_lt_of_pos (b + n - 1) (show 0 < n by omega)
  refine ⟨Int.ediv_nonneg (by omega) (by omega), ?_, by omega⟩
  have : (b + n - 1) / n < b + 1 := by
    refine Int.ediv_lt_of_lt_mul (by omega) ?_
    have : b * 1 ≤ b * n := Int.mul_le_mul_of_nonneg_left n1 h0
    rw [Int.add_mul, Int.one_mul]; omega
  omega
theorem ndig_le {x n z : Int} (n1 : 1 ≤ n) (hz : z = ndig x n) : n * z ≤ intBits x + n - 1 := by
  subst hz
  unfold ndig
  have hd := Int.mul_ediv_add_emod ((intBits x : Int) + n - 1) n
  have hm := Int.emod_nonneg ((intBits x : Int) + n - 1) (show n ≠ 0 by omega)
  omega
theorem sh_le {n l m len sh : Int} (n0 : 0 ≤ n) (l0 : 0 ≤ l) (h1 : l ≤ m) (h2 : m ≤ len) (hN : n * len ≤ 10000000) (hs : sh = (m - l) * n) : 0 ≤ sh ∧ sh ≤ 10000000 := by
  have h4 : (m - l) * n ≤ len * n := mul_le_of n0 (by omega)
  rw [Int.mul_comm len] at h4
  have := Int.mul_nonneg (show 0 ≤ m - l by omega) n0
  omega
theorem putD_base {P x : Int} {ns : List Int} {l r : Int} {vs : List Value} (x0 : 0 ≤ x) (x1 : x < P ^ (r.toNat - l.toNat)) (l0 : 0 ≤ l) (e : l + 1 = r) (h : r ≤ ns.length) (hi : IntsAre vs (ns.set l.toNat x)) : IntsAre vs (putD P ns l.toNat r.toNat x) := by
  have e1 : r.toNat = l.toNat + 1 := by omega
  have e2 : r.toNat - l.toNat = 1 := by omega
  rw [e2, Int.pow_succ, Int.pow_zero, Int.one_mul] at x1
  rw [e1, ← putD_one x0 x1 (by omega)]
  exact hi
theorem ndig_lt {x n : Int} (x0 : 0 ≤ x) (n1 : 1 ≤ n) : x < (2 ^ n.toNat) ^ (ndig x n).toNat := by
  have h := ndig_bounds (x := x) n1
  refine Int.lt_of_lt_of_le (lt_of_bits (Nat.le_refl (intBits x))) ?_
  rw [← Int.pow_mul]
  refine pmono ?_
  have e : ((n.toNat * (ndig x n).toNat : Nat) : Int) = n * ndig x n := by rw [Int.natCast_mul, Int.toNat_of_nonneg (by omega), Int.toNat_of_nonneg h.1]
  omega
theorem ndig_lt' {x n z : Int} (x0 : 0 ≤ x) (n1 : 1 ≤ n) (hz : z = ndig x n) : x < (2 ^ n.toNat) ^ (((z.toNat : Nat) : Int).toNat - (0 : Int).toNat) := by
  subst hz
  rw [Int.toNat_natCast]
  exact ndig_lt x0 n1
theorem ndig_pos {x n z : Int} (x0 : 0 ≤ x) (hx : x ≠ 0) (n1 : 1 ≤ n) (hz : z = ndig x n) : 1 ≤ z := by
  subst hz
  have h := ndig_bounds (x := x) n1
  rcases Int.lt_or_le 0 (ndig x n) with h1 | h1
  · omega
  · have e : ndig x n = 0 := by omega
    have hb := h.2.2
    rw [e, Int.mul_zero] at hb
    have h2 := lt_of_bits (x := x) (k := 0) (by omega)
    simp at h2
    omega
theorem put_all {P x z : Int} {vs : List Value} (h : IntsAre vs (putD P (List.replicate z.toNat 0) (0 : Int).toNat ((z.toNat : Nat) : Int).toNat x)) : IntsAre vs (digs P z.toNat x) := by
  have e := putD_all (P := P) (x := x) (ns := List.replicate z.toNat 0)
  rw [List.length_replicate] at e
  rw [← e]
  exact h
theorem put_none {P x n z : Int} {vs : List Value} (hx : x = 0) (hz : z = ndig x n) (n1 : 1 ≤ n) (h : IntsAre vs (List.replicate z.toNat 0)) : IntsAre vs (digs P (ndig x n).toNat x) := by
  have h1 := ndig_bounds (x := x) n1
  have e : intBits x = 0 := by rw [hx]; rfl
  have e2 : ndig x n = 0 := by omega
  rw [hz, e2] at h
  rw [e2]
  exact h
section
variable {prog : Program} {w : World} {A : Around} {E : Value → Shared → Prop} {s : Shared} {h₀ : Heap} {L : Addr} {m : Str → Option Value} {news : List (Addr × Obj)} {l : Addr} {x : Int} {u t0 : Tok} {c : Nat} {Q : Value → Shared → Prop}
theorem rep0 (Fm : Fr h₀ L s.heap m) (N : News h₀ L s.heap news) (hm : (l, listOf #[.int 0 t0] c) ∈ news) (h0 : 0 ≤ x) (h1 : x ≤ 1048576)
    (h : ∀ D vs' h', Fr h₀ L h' m → News h₀ L h' ((D, listOf (List.toArray vs') 0) :: news) → (∀ p ∈ news, p.1 < D) → IntsAre vs' (List.replicate x.toNat 0) → Q (.ref D) { s with heap := h' }) :
    wpAny (model prog w) A (binaryOp .Mult (.ref l) (.int x u)) Q E s := by
  refine KM.mul (vs := [.int 0 t0]) (ns := [0]) Fm N ⟨_, (N _ hm).1, rfl, c, rfl⟩ (.cons 0 t0 .nil) (by omega) (by omega) ?_ ?_
  · rw [List.length_singleton, Nat.one_mul]; omega
  · intro D h' F' N' hl hi _ _ _ _ _
    rw [krep_flat] at hi
    exact h D _ h' F' N' hl hi
end
end Mine
namespace Mine
open PySem.Builtin.Int (intBits)
local macro_rules | `(tactic| k_all) => `(tactic| first | assumption | exact ne_rest (by assumption) (by omega))
local macro_rules | `(tactic| bits_by_make) => `(tactic| with_reducible assumption)
local macro_rules | `(tactic| walk_at "call ref") => `(tactic| k_extra "mycall")
local macro_rules | `(tactic| walk_at "eval Name") => `(tactic| (k_here; k_dflt (refine' nameX_F ?N ?c ?m ?d ?_ ?a ?b; (case a => rfl); (case b => rfl); (case N => k_asm); (case c => rfl); (case m => k_mem); (case d => k_asm); k_whole)))
section
variable {prog : Program} {w : World} {A : Around} {E : Value → Shared → Prop} {s : Shared} {a b : Int} {t u : Tok} {Q : Value → Shared → Prop}
theorem shrD_p {x e : Int} (h0 : 0 ≤ e) (h : ∀ z, z = x / 2 ^ e.toNat → Q (.int z s.toks) { s with toks := s.toks + 1 }) : wpAny (model prog w) A (binaryOp .RShift (.int x t) (.int e u)) Q E s :=
  rshift_int h0 (h _ (fdivP x e.toNat))
theorem xorD_p {x y z : Int} {k : Nat} (hy : y = z * 2 ^ k) (hz : z = x / 2 ^ k) (h : ∀ r, r = x % 2 ^ k → Q (.int r s.toks) { s with toks := s.toks + 1 }) : wpAny (model prog w) A (binaryOp .BitXor (.int x t) (.int y u)) Q E s :=
  xor_int (h _ (by rw [hy, hz, xor_low]))
end
local macro_rules | `(tactic| walk_at "binaryOp RShift int int") => `(tactic| k_extra "shr")
local macro_rules | `(tactic| walk_at "binaryOp Mult int int") => `(tactic| k_extra "mul")
local macro_rules | `(tactic| walk_at "binaryOp LShift int int") => `(tactic| k_extra "shl")
local macro_rules | `(tactic| walk_at "binaryOp BitXor int int") => `(tactic| k_extra "xor")
local macro_rules | `(tactic| walk_at "binaryOp Mult ref int") => `(tactic| k_extra "rep")
local macro_rules | `(tactic| walk_at "call builtin:len") => `(tactic| k_extra "len")
local macro_rules | `(tactic| walk_at "binaryOp FloorDiv int int") => `(tactic| k_extra "floordiv")
set_option maxRecDepth 100000 in
set_option maxHeartbeats 8000000 in
theorem i2d_c (w : World) (mean : ExcName → Option Value) (mg mb : Str → Option Value) {x n : Int} {t u : Tok} {Xo Yo : Obj} {Co : Addr} (x0 : 0 ≤ x) (n1 : 1 ≤ n) (n2 : n ≤ 1000000) (hb : intBits x ≤ 1000000)
    {dp un : Nat} {gd : Option (List Code)} {cn : Str} {cs : Scope} {a : Addr} {ccd : Value} {cl : List (Str × Addr)} {outer : List Env} {A₀ : Around} {base h₀ : Heap} {L : Addr} {m : Str → Option Value} {rest : List (Addr × Obj)} {s : Shared}
    {Q E : Value → Shared → Prop} (B : Below A₀ base outer h₀) (F : Fr h₀ L s.heap m) (X : (hd.heap_39 w.params).In h₀) (N : News h₀ L s.heap ((30, Xo) :: (Co, Yo) :: rest)) (T : Top prog0 (looseW hd.view_39 [] ++ List.map (fun x => x.name) (recsOf hd.view_39) ++ List.map (fun x => x.fst) (litsOf hd.view_39) ++ List.map (fun x => x.name) (clssOf hd.view_39 (looseW hd.view_39 []))) mean mg mb h₀) (hC : CodeHd h₀ 34 30) (hr : ∀ p ∈ rest, p.1 ≠ 30) (hTab : TabS 30 32 4 (Str.ofString "_int2digits.<locals>.inner") Xo Co Yo) (hk : cs.kind = .function) (hdp : dp + 22 + 104 < recursionLimit) (hu : un + 8 * 22 + 100 < cLine)
    (hret : ∀ X' C' Y' D vs' h' tk', TabF 30 32 4 (Str.ofString "_int2digits.<locals>.inner") X' C' Y' → IntsAre vs' (digs (2 ^ n.toNat) (ndig x n).toNat x) → Fr h₀ L h' m → News h₀ L h' ((30, X') :: (C', Y') :: (D, listOf (List.toArray vs') 0) :: rest) → AllLt D rest → @LT.lt Nat _ 30 D → Q (.ref D) { s with heap := h', toks := tk' }) :
    wpAny (model PySem.Challenge.rw_dn0134_09.row.prog w) (ktrTop dp un gd cn cs L a ccd cl outer) (call (.ref 35) [.int x t, .int n u]) Q E s := by
  (have hh : PySem.Challenge.rw_dn0134_09 = PySem.Challenge.rw_dn0134_09 ∧ hd.heap_39 = hd.heap_39 := by (k_fill; exact ⟨rfl, rfl⟩))
  clear hh
  w_top off
  k_with_none
  k_with "shr" => (first
    | ((with_reducible refine half_p ?_); intro mid hmid)
    | ((with_reducible refine' shrD_p ?za ?_); (case za => exact hsl.1); intro up hup))
  k_with "mul" => ((with_reducible refine' mulS_p ?za ?zb ?zc ?ze ?_); (case za => omega); (case zb => omega); (case zc => omega); (case ze => omega); intro sh hsh; have hsl := sh_le (n := n) (l := il) (m := mid) (len := zd) (by omega) il0 (by omega) (by omega) hnz hsh)
  k_with "shl" => ((k_dflt (refine' shlD_p hsl.1 hsl.2 ?za ?_)); (case za => (rw [hup, ← fdivP]; exact bits_fdiv (up_bits ix0 ix1 (by omega) il0 (by omega) (len := zd) (by omega) hnz))); intro zl hzl)
  k_with "xor" => ((k_dflt (refine' xorD_p hzl hup ?_)); intro low hlow; have hhf := half_facts (by omega) il0 (by omega) (by omega) hsh ix0 ix1 hup hlow)
  k_with "len" => (k_dflt (refine' kst_len (k := zd.toNat) ?zN ?zm ?ze ?zf ?_; (case zN => k_asm); (case zm => k_mem); (case ze => (rw [hI.length, List.length_replicate])); (case zf => omega)))
  k_with "mycall" => (first
    | (obtain ⟨j, hj, hj1, hj2⟩ := half_le (l := il) (r := ir) ik (by omega)
       k_dflt (refine' innerM_use (lst := lst) (c := 0) (n := n) (len := zd.toNat) (k := j) ?zN ?zU ?zm1 ?zm2 ?zm3 ?zm4 ?zm5 ?zn1 ?zn2 ?zn3 ?zn4 ?zn5 (hIH j hj) ?x0 ?x1 ?l0 ?lr ?hr2 ?hlen ?hk2 ?hI ?zB ?zF ?zX ?zT ?kK ?zd ?zu ?_)
       (case zN => k_asm)
       (case zU => k_dflt k_updF)
       (case zm1 => k_dflt k_mem)
       (case zm2 => k_dflt k_mem)
       (case zm3 => k_dflt k_mem)
       (case zm4 => k_dflt k_mem)
       (case zm5 => k_dflt k_mem)
       (case zn1 => k_ne)
       (case zn2 => k_ne)
       (case zn3 => k_ne)
       (case zn4 => k_ne)
       (case zn5 => k_ne)
       (case hI => assumption)
       (case x0 => (first | exact hhf.1 | exact hhf.2.2.1))
       (case x1 => (first | exact hhf.2.1 | exact hhf.2.2.2.1))
       (case l0 => omega)
       (case lr => omega)
       (case hr2 => (first | omega | (rw [putD_len (by omega) (by omega)]; omega)))
       (case hlen => (first | exact ilen | (rw [putD_len (by omega) (by omega)]; exact ilen)))
       (case hk2 => omega)
       (case zB => k_asm)
       (case zF => k_asm)
       (case zX => k_asm)
       (case zT => k_asm)
       (case kK => exact rfl)
       (case zd => ktr_room)
       (case zu => ktr_units)
       intro vs2 h' tk' hI2 F' N'
       (try dsimp only)
       (try k_fold))
    | (k_dflt (refine' innerM_use (lst := lst) (c := 0) (c3 := L' + 1 + 1 + 1) (c4 := L' + 1 + 1) (c5 := L' + 1) (n := n) (len := zd.toNat) (k := 20) (ns := List.replicate zd.toNat 0) ?zN ?zU ?zm1 ?zm2 ?zm3 ?zm4 ?zm5 ?zn1 ?zn2 ?zn3 ?zn4 ?zn5 (innerM_all ?step 20) x0 ?x1 ?l0 ?lr ?hr2 ?hlen ?hk2 hI ?zB ?zF ?zX ?zT ?kK ?zd ?zu ?_)
       (case zN => k_asm)
       (case zU => k_dflt k_updF)
       (case zm1 => k_dflt k_mem)
       (case zm2 => k_dflt k_mem)
       (case zm3 => k_dflt k_mem)
       (case zm4 => k_dflt k_mem)
       (case zm5 => k_dflt k_mem)
       (case zn1 => k_ne)
       (case zn2 => k_ne)
       (case zn3 => k_ne)
       (case zn4 => k_ne)
       (case zn5 => k_ne)
       (case x1 => (exact ndig_lt' x0 n1 hzn))
       (case l0 => decide)
       (case lr => (have hp9 := ndig_pos x0 (by assumption) n1 hzn; omega))
       (case hr2 => (rw [List.length_replicate]; omega))
       (case hlen => (exact List.length_replicate))
       (case hk2 => omega)
       (case zB => k_asm)
       (case zF => k_asm)
       (case zX => k_asm)
       (case zT => k_asm)
       (case kK => exact rfl)
       (case zd => ktr_room)
       (case zu => ktr_units)
       (case step => (
         intro k hIH
         unfold InnerM
         intro ix il ir t1 t2 t3 ivs ins dp2 un2 gd2 cn2 cs2 a2 ccd2 cl2 outer2 A2 base2 h2 L2 m2 rest2 s2 Q2 E2 ix0 ix1 il0 ilr irn ilen ik hIi hrst IB IF IX IN IT Ik Id Iu Iret
         simp only [List.cons_append, List.nil_append] at IN Iret
         refine wpAny_call ?_
         k_dflt (refine' code_nest ?k1 ?k2 ?k3 ?k4 ?k5 ?kA ?kF ?kK ?k6 ?k7 ?k8 ?k9 ?kB ?_ ?c2 ?c3 ?c4 ?c5; (case kA => exact rfl); (case kF => exact rfl); (case kK => assumption); (case k1 => k_asm); (case k2 => k_asm); (case k3 => k_asm); (case k4 => k_asm); (case k5 => k_asm); (case k6 => k_mem); (case k7 => exact codeRec_news (by k_asm) (by k_mem) (by assumption) (by assumption)); (case k8 => ktr_room); (case k9 => exact BindsTo.of_eq rfl); (case c5 => decide); (case kB => exact locs rfl); (case c2 => exact rfl); (case c3 => exact rfl); (case c4 => exact rfl); k_whole; intro g2' L2' h2' FG2' F2' N2' B2' X2' T2'; (try dsimp only); (try k_fold))
         k_dflt (k_steps)
         all_goals (first
           | exact Iret _ _ _ (putD_base ix0 ix1 il0 (by assumption) irn (by assumption)) (by k_asm) (by k_asm)
           | (rw [putD_halves il0 (by omega) (by omega) irn hhf.2.2.2.2.1 hhf.2.2.2.2.2] at hI2; exact Iret _ _ _ hI2 (by k_asm) (by k_asm)))))
       intro vs2 h' tk' hI2 F' N'
       (try dsimp only)
       (try k_fold)))
  k_with "rep" => (k_dflt (refine' rep0 ?zF ?zN ?zm ?za ?zb ?_; (case zF => k_asm); (case zN => k_asm); (case zm => k_mem); (case za => omega); (case zb => omega)); intro lst vsA h' F' N' lA hI; (try k_lt lA))
  k_with "floordiv" => (
    (with_reducible refine' fdv_p (m := 100) ?ka ?kb ?kc ?_)
    (case ka => omega)
    (case kb => (exact bits_of_lt (by omega) (by (have e100 : (2 : Int) ^ 100 = 1267650600228229401496703205376 := by decide); omega)))
    (case kc => (k_dflt (exact PySem.PylongRoom.of (room_of (by assumption) (by assumption)) (by (simp only [Builtin.pylongFrames]; ktr_room)))))
    intro zd azd hzd bzd; have hzn := ndig_eq hzd; have hnd := ndig_bounds (x := x) n1; rw [← hzn] at hnd; have hnz : n * zd ≤ 10000000 := (by have := ndig_le n1 hzn; omega))
  rcases hTab with ⟨rfl, rfl, rfl⟩ | ⟨rfl, hCne, vsC, tC, hY1, hY2⟩
  · replace N := news_sub N (sub0 (sub1 subr))
    refine wpAny_call ?_
    k_dflt (refine' code_defC ?k1 ?k2 ?k3 ?k4 ?k5 ?kA ?kF ?kK ?k6 ?k7 ?k8 ?k9 ?kB ?kD ?_ ?c2 ?c3 ?c4; (case kA => exact rfl); (case kF => exact rfl); (case kK => assumption); (case k1 => k_asm); (case k2 => k_asm); (case k3 => k_asm); (case k4 => k_asm); (case k5 => k_asm); (case k6 => k_is); (case k7 => k_is); (case k8 => ktr_room); (case k9 => exact BindsTo.of_eq rfl); (case kB => exact rfl); (case kD => decide); (case c2 => exact rfl); (case c3 => exact rfl); (case c4 => exact rfl); k_whole; intro g' L' h' tk' cells' FG' F' N' Y' B' X' T' l1)
    (try k_lt l1); (first | obtain ⟨l1a, l1e, l1c⟩ := l1 | obtain ⟨l1a, l1c⟩ := l1); have hC' := hC.keeps FG'.keep; k_cells Y'; (try simp only [List.cons_append, List.nil_append] at N'); (try dsimp only); (try k_fold)
    k_steps
    all_goals (
      (obtain ⟨hf1, hf2⟩ := tab_fin (P := 30) (line := 32) (col := 4) (ql := Str.ofString "_int2digits.<locals>.inner") (h₀ := h₀) (L := L) (lst := lst) (rest := rest) (by k_asm) (by k_mem) rfl (by k_mem) (by first | assumption | k_ne) (by assumption) (by assumption) (by k_mem) (by (repeat' (first | exact subr | (refine sub1 ?_)))))
      have hAl : AllLt lst rest := (by first | exact lA.2.2.2.2.2 | exact lA.2.2.2.2.2.2)
      (refine hret _ _ _ _ _ _ _ hf1 ?_ (by k_asm) hf2 hAl (by omega))
      first
        | (rw [← hzn]; exact put_all hI2)
        | (exact put_none (by assumption) hzn n1 hI))
  ·
    refine wpAny_call ?_
    k_dflt (refine' code_defC ?k1 ?k2 ?k3 ?k4 ?k5 ?kA ?kF ?kK ?k6 ?k7 ?k8 ?k9 ?kB ?kD ?_ ?c2 ?c3 ?c4; (case kA => exact rfl); (case kF => exact rfl); (case kK => assumption); (case k1 => k_asm); (case k2 => k_asm); (case k3 => k_asm); (case k4 => k_asm); (case k5 => k_asm); (case k6 => k_is); (case k7 => k_is); (case k8 => ktr_room); (case k9 => exact BindsTo.of_eq rfl); (case kB => exact rfl); (case kD => decide); (case c2 => exact rfl); (case c3 => exact rfl); (case c4 => exact rfl); k_whole; intro g' L' h' tk' cells' FG' F' N' Y' B' X' T' l1)
    (try k_lt l1); (first | obtain ⟨l1a, l1e, l1c⟩ := l1 | obtain ⟨l1a, l1c⟩ := l1); have hC' := hC.keeps FG'.keep; k_cells Y'; (try simp only [List.cons_append, List.nil_append] at N'); (try dsimp only); (try k_fold)
    k_steps
    all_goals (
      (obtain ⟨hf1, hf2⟩ := tab_fin (P := 30) (line := 32) (col := 4) (ql := Str.ofString "_int2digits.<locals>.inner") (h₀ := h₀) (L := L) (lst := lst) (rest := rest) (by k_asm) (by k_mem) rfl (by k_mem) (by first | assumption | k_ne) (by assumption) (by assumption) (by k_mem) (by (repeat' (first | exact subr | (refine sub1 ?_)))))
      have hAl : AllLt lst rest := (by first | exact lA.2.2.2.2.2 | exact lA.2.2.2.2.2.2)
      (refine hret _ _ _ _ _ _ _ hf1 ?_ (by k_asm) hf2 hAl (by omega))
      first
        | (rw [← hzn]; exact put_all hI2)
        | (exact put_none (by assumption) hzn n1 hI))
end Mine
namespace Mine
open PySem.Builtin.Int (intBits)
theorem bits_range {x : Int} (h : 0 < x) : 1 ≤ intBits x ∧ 2 ^ (intBits x - 1) ≤ x ∧ x < 2 ^ intBits x := by
  have h1 := lt_of_bits (Nat.le_refl (intBits x))
  have h0 : 1 ≤ intBits x := by
    rcases Nat.eq_zero_or_pos (intBits x) with e | e
    · rw [e] at h1; simp at h1; omega
    · exact e
  refine ⟨h0, ?_, h1⟩
  rcases Int.lt_or_le x (2 ^ (intBits x - 1)) with h2 | h2
  · have := bits_of_lt (by omega) h2; omega
  · exact h2
/-- a row from the top down -/
def valR (P : Int) (xs : List Int) : Int := xs.foldl (fun v d => v * P + d) 0
theorem valR_snoc (P : Int) (xs : List Int) (d : Int) : valR P (xs ++ [d]) = valR P xs * P + d := by
  unfold valR
  rw [List.foldl_append]
  rfl
theorem evalD_rev (P : Int) (xs : List Int) : evalD P xs.reverse = valR P xs := by
  have key : ∀ (ys : List Int), valR P ys.reverse = evalD P ys := by
    intro ys
    induction ys with
    | nil => rfl
    | cons d r ih =>
      rw [List.reverse_cons, valR_snoc, ih, evalD]
      rw [Int.mul_comm]; omega
  have := key xs.reverse
  rw [List.reverse_reverse] at this
  exact this.symm
structure DmInv (P b : Int) (pre qs : List Int) (r : Int) : Prop where
  e : valR P pre = valR P qs * b + r
  r0 : 0 ≤ r
  r1 : r < b
  q : ∀ x ∈ qs, 0 ≤ x ∧ x < P
  len : qs.length = pre.length
theorem DmInv.start {P b : Int} (hb : 0 < b) : DmInv P b [] [] 0 := ⟨by simp [valR], by omega, hb, (fun _ hx => nomatch hx), rfl⟩
theorem DmInv.turn {P b r d q r' : Int} {pre qs : List Int} (H : DmInv P b pre qs r) (e : r * P + d = q * b + r') (q0 : 0 ≤ q) (q1 : q < P) (r0 : 0 ≤ r') (r1 : r' < b) : DmInv P b (pre ++ [d]) (qs ++ [q]) r' := by
  refine ⟨?_, r0, r1, ?_, by rw [List.length_append, List.length_append, H.len]; rfl⟩
  · rw [valR_snoc, valR_snoc, H.e]
    grind
  · intro x hx
    rcases List.mem_append.mp hx with hx | hx
    · exact H.q x hx
    · rw [List.mem_singleton.mp hx]; exact ⟨q0, q1⟩
theorem DmInv.fin {P b r a : Int} {ds qs : List Int} (H : DmInv P b ds.reverse qs r) (ha : evalD P ds = a) : evalD P qs.reverse = a / b ∧ r = a % b := by
  have e := H.e
  rw [← evalD_rev, List.reverse_reverse, ha, ← evalD_rev] at e
  have h0 := H.r0; have h1 := H.r1
  have hu := kbt_unique (a := a) (b := b) (q := evalD P qs.reverse) (r := r) (by omega) (by rw [Int.mul_comm]; omega) h0 h1
  exact ⟨hu.1.symm, hu.2.symm⟩
/-- the one table's code object is not the other table -/
theorem TabS.apart {P P2 : Addr} {l1 c1 l2 c2 : Nat} {q1 q2 : Str} {X Y X2 Y2 : Obj} {C C2 : Addr} {h₀ h : Heap} {L : Addr} {news : List (Addr × Obj)} (N : News h₀ L h news) (H : TabS P l1 c1 q1 X C Y) (H2 : TabS P2 l2 c2 q2 X2 C2 Y2) (hC : (C, Y) ∈ news) (hP : (P2, X2) ∈ news) (hne : P ≠ P2) : C ≠ P2 := by
  rcases H with ⟨_, h1, _⟩ | ⟨_, _, vs, t, e1, e2⟩
  · rw [h1]; exact hne
  · intro e
    have g1 := (N _ hC).1
    have g2 := (N _ hP).1
    rw [e, g2] at g1
    have g3 : X2 = Y := Option.some.inj g1
    rcases H2 with ⟨h2, _⟩ | ⟨h2, _⟩
    · rw [← g3, h2] at e1
      cases e1
      cases e2
    · rw [← g3, h2] at e1
      cases e1
      cases e2
end Mine
namespace Mine
open PySem.Builtin.Int (intBits)
theorem dm_len {x n : Int} {P : Int} {pre post : List Int} {d : Int} (n1 : 1 ≤ n) (h : (digs P (ndig x n).toNat x).reverse = pre ++ d :: post) : pre.length ≤ intBits x := by
  have h1 := congrArg List.length h
  have h2 := ndig_bounds (x := x) n1
  rw [List.length_reverse, digs_len, List.length_append, List.length_cons] at h1
  omega
theorem dm_all {x n P b r : Int} {qs : List Int} (n1 : 1 ≤ n) (H : DmInv P b (digs P (ndig x n).toNat x).reverse qs r) : (qs.length : Int) = ndig x n ∧ ((200000 : Nat) : Int) + n * qs.reverse.length + qs.reverse.length ≤ 200000 + intBits x + n + intBits x ∧ qs.reverse.length ≤ intBits x := by
  have h1 := H.len
  have h2 := ndig_bounds (x := x) n1
  have h3 := ndig_le (x := x) n1 rfl
  rw [List.length_reverse, digs_len] at h1
  have e : (qs.length : Int) = ndig x n := by omega
  rw [List.length_reverse, e]
  exact ⟨rfl, by omega, by omega⟩
theorem dm_end {x b r : Int} {qs : List Int} (x0 : 0 ≤ x) (hb : 1 ≤ b) (H : DmInv (2 ^ intBits b) b (digs (2 ^ intBits b) (ndig x (intBits b)).toNat x).reverse qs r) : evalD (2 ^ intBits b) qs.reverse = x / b ∧ r = x % b := by
  have hbp := bits_range (x := b) (by omega)
  exact H.fin (digs_eval (ppos _) _ _ x0 (ndig_lt (n := (intBits b : Int)) x0 (by omega)))
/-- a table's code object is no list -/
theorem TabS.neList {P : Addr} {l1 c1 : Nat} {q1 : Str} {X Y : Obj} {C lst : Addr} {arr : Array Value} {cc : Nat} {h₀ h : Heap} {L : Addr} {news : List (Addr × Obj)} (N : News h₀ L h news) (H : TabS P l1 c1 q1 X C Y) (hC : (C, Y) ∈ news) (hP : (lst, listOf arr cc) ∈ news) (hne : @LT.lt Nat _ P lst) : C ≠ lst := by
  rcases H with ⟨_, h1, _⟩ | ⟨_, _, vs, t, e1, e2⟩
  · rw [h1]; exact Nat.ne_of_lt hne
  · intro e
    have g1 := (N _ hC).1
    have g2 := (N _ hP).1
    rw [e, g2] at g1
    have g3 : listOf arr cc = Y := Option.some.inj g1
    rw [← g3] at e1
    cases e1
theorem dm_pre {b r d : Int} {k : Nat} (hb : 2 ^ (k - 1) ≤ b) (hb2 : b < 2 ^ k) (hk : 1 ≤ k) (r0 : 0 ≤ r) (r1 : r < b) (d0 : 0 ≤ d) (d1 : d < 2 ^ k) : ∃ q r', Pre2 (r * 2 ^ k + d) b (k : Int) q r' := by
  have hp := ppos (k - 1)
  have hP := ppos k
  have hb0 : 0 < b := by omega
  have hx0 : 0 ≤ r * 2 ^ k := Int.mul_nonneg r0 (by omega)
  refine ⟨(r * 2 ^ k + d) / b, (r * 2 ^ k + d) % b, by omega, ?_, Int.ediv_nonneg (by omega) (by omega), ?_, Int.emod_nonneg _ (by omega), Int.emod_lt_of_pos _ hb0, hb, hb2⟩
  · exact (Int.ediv_mul_add_emod _ _).symm
  · refine Int.ediv_lt_of_lt_mul hb0 ?_
    have h1 : r * 2 ^ k ≤ (b - 1) * 2 ^ k := mul_le_of (by omega) (by omega)
    have h2 : (b - 1) * 2 ^ k = 2 ^ k * b - 2 ^ k := by rw [Int.sub_mul, Int.one_mul, Int.mul_comm]
    show r * 2 ^ k + d < 2 ^ k * b
    omega
section
variable {prog : Program} {w : World} {A : Around} {E : Value → Shared → Prop} {s : Shared} {h₀ : Heap} {L : Addr} {m : Str → Option Value} {news : List (Addr × Obj)} {g : Obj → List (Addr × Obj)} {D : Addr} {vs : List Value} {n : Nat} {x : Value} {Q : Value → Shared → Prop}
theorem updF_upd {D : Addr} {o o' : Obj} {news : List (Addr × Obj)} {g : Obj → List (Addr × Obj)} (U : UpdF D o news g) : Upd D o o' news (g o') := by
  induction U with
  | head h => exact .head h
  | tail h _ ih => exact .tail h ih
theorem append_L (F : Fr h₀ L s.heap m) (N : News h₀ L s.heap news) (U : UpdF D (listOf vs.toArray n) news g) (hz : vs.length ≤ 1000000)
    (h : ∀ h', Fr h₀ L h' m → News h₀ L h' (g (listOf (vs ++ [x]).toArray (n + 1))) → Q .none { s with heap := h' }) : wpAny (model prog w) A (call (.builtin "list.append") [.ref D, x]) Q E s := by
  refine append_K F N (updF_upd U) (fun h' F' N' => h h' F' ?_) ?_
  · rw [List.push_toArray] at N'
    exact N'
  · rw [List.size_toArray]; exact Nat.le_trans hz (by decide)
theorem reverse_L (F : Fr h₀ L s.heap m) (N : News h₀ L s.heap news) (U : UpdF D (listOf vs.toArray n) news g) (hz : vs.length ≤ 1000000)
    (h : ∀ h', Fr h₀ L h' m → News h₀ L h' (g (listOf vs.reverse.toArray n)) → Q .none { s with heap := h' }) : wpAny (model prog w) A (call (.builtin "list.reverse") [.ref D]) Q E s :=
  kl_reverse F N rfl (updF_upd U) (Nat.le_trans hz (by decide)) h
end
local macro_rules | `(tactic| k_all) => `(tactic| first | assumption | exact ne_rest (by assumption) (by omega))
local macro_rules | `(tactic| bits_by_make) => `(tactic| with_reducible assumption)
local macro_rules | `(tactic| walk_at "pyIter ref") => `(tactic| k_extra "rev")
local macro_rules | `(tactic| walk_at "call ref") => `(tactic| k_extra "mycall")
local macro_rules | `(tactic| walk_at "binaryOp LShift int int") => `(tactic| k_extra "shl")
local macro_rules | `(tactic| kc_close) => `(tactic| k_extra "good")
local macro_rules | `(tactic| walk_at "call builtin:list.append") => `(tactic| k_extra "append")
local macro_rules | `(tactic| walk_at "call builtin:list.reverse") => `(tactic| k_extra "reverse")
set_option maxRecDepth 100000 in
set_option maxHeartbeats 8000000 in
theorem dm_c (w : World) (mean : ExcName → Option Value) (mg mb : Str → Option Value) {x b : Int} {t u : Tok} {XI YI XD YD : Obj} {Ci Cd : Addr} (x0 : 0 ≤ x) (b1 : 1 ≤ b) (hbx : intBits x ≤ 900000) (hbb : intBits b ≤ 200000)
    {dp un : Nat} {gd : Option (List Code)} {cn : Str} {cs : Scope} {a : Addr} {ccd : Value} {cl : List (Str × Addr)} {outer : List Env} {A₀ : Around} {base h₀ : Heap} {L : Addr} {m : Str → Option Value} {rest : List (Addr × Obj)} {s : Shared}
    {Q E : Value → Shared → Prop} (B : Below A₀ base outer h₀) (F : Fr h₀ L s.heap m) (X : (hd.heap_39 w.params).In h₀) (N : News h₀ L s.heap ((30, XI) :: (Ci, YI) :: (37, XD) :: (Cd, YD) :: rest)) (T : Top prog0 (looseW hd.view_39 [] ++ List.map (fun x => x.name) (recsOf hd.view_39) ++ List.map (fun x => x.fst) (litsOf hd.view_39) ++ List.map (fun x => x.name) (clssOf hd.view_39 (looseW hd.view_39 []))) mean mg mb h₀) (hCI : CodeHd h₀ 34 30) (hCD : CodeHd h₀ 41 37)
    (hrI : ∀ p ∈ rest, p.1 ≠ 30) (hrD : ∀ p ∈ rest, p.1 ≠ 37) (hTI : TabS 30 32 4 (Str.ofString "_int2digits.<locals>.inner") XI Ci YI) (hTD : TabS 37 47 4 (Str.ofString "_digits2int.<locals>.inner") XD Cd YD) (hk : cs.kind = .function) (hdp : dp + 44 + 104 < recursionLimit) (hu : un + 8 * 44 + 100 < cLine)
    (hret : ∀ XI' Ci' YI' XD' Cd' YD' D t1 t2 c h' tk', TabF 30 32 4 (Str.ofString "_int2digits.<locals>.inner") XI' Ci' YI' → TabF 37 47 4 (Str.ofString "_digits2int.<locals>.inner") XD' Cd' YD' → Fr h₀ L h' m → News h₀ L h' ((D, pairO (x / b) (x % b) t1 t2 c) :: (30, XI') :: (Ci', YI') :: (37, XD') :: (Cd', YD') :: rest) → AllLt D ((30, XI') :: (Ci', YI') :: (37, XD') :: (Cd', YD') :: rest) → Q (.ref D) { s with heap := h', toks := tk' }) :
    wpAny (model PySem.Challenge.rw_dn0134_09.row.prog w) (ktrTop dp un gd cn cs L a ccd cl outer) (call (.ref 49) [.int x t, .int b u]) Q E s := by
  (have hh : PySem.Challenge.rw_dn0134_09 = PySem.Challenge.rw_dn0134_09 ∧ hd.heap_39 = hd.heap_39 := by (k_fill; exact ⟨rfl, rfl⟩))
  clear hh
  w_top off
  k_with_none
  have hCdI : Cd ≠ 30 := hTD.apart N hTI (.tail _ (.tail _ (.tail _ (.head _)))) (.head _) (by decide)
  have hCiD : Ci ≠ 37 := hTI.apart N hTD (.tail _ (.head _)) (.tail _ (.tail _ (.head _))) (by decide)
  have hbp := bits_range (x := b) (by omega)
  k_with "mycall" => (first
    | ((with_reducible show wpAny _ _ (call (Value.ref 35) _ _) _ _ _)
       k_dflt (refine' i2d_c _ _ _ _ x0 ?zn1 ?zn2 ?zbx ?zB ?zF ?zX ?zN ?zT ?zC ?zr hTI ?kK ?zd ?zu ?_)
       (case zn1 => omega)
       (case zn2 => omega)
       (case zbx => omega)
       (case zB => k_asm)
       (case zF => k_asm)
       (case zX => k_asm)
       (case zN => k_asm)
       (case zT => k_asm)
       (case zC => (exact hCI.keeps (Fr.keep (by assumption))))
       (case zr => (exact List.forall_mem_cons.mpr ⟨(by decide : (37 : Nat) ≠ 30), List.forall_mem_cons.mpr ⟨hCdI, hrI⟩⟩))
       (case kK => exact rfl)
       (case zd => ktr_room)
       (case zu => ktr_units)
       intro XI2 Ci2 YI2 lst vsA h' tk' hTI2 hIA F' N' lA lP
       have lA1 : @LT.lt Nat _ 37 lst := lA.1
       have lA2 : @LT.lt Nat _ Cd lst := lA.2.1
       have lA3 : AllLt lst rest := lA.2.2
       (try dsimp only)
       (try k_fold))
    | ((with_reducible show wpAny _ _ (call (Value.ref 21) _ _) _ _ _)
       rw [hzs]
       k_dflt (refine' pair_use ?k1 ?k2 ?k3 ?k4 ?k5 ?kK (use2 hP2 ?kn) ?kd ?ku ?_)
       (case k1 => k_asm)
       (case k2 => k_asm)
       (case k3 => k_asm)
       (case k4 => k_asm)
       (case k5 => k_asm)
       (case kK => exact rfl)
       (case kd => ktr_room)
       (case ku => ktr_units)
       (case kn => omega)
       intro D' x1 x2 c' h' tk' F' N' l'
       simp only [AllLt] at l'
       (try dsimp only)
       (try k_fold))
    | ((with_reducible show wpAny _ _ (call (Value.ref 42) _ _) _ _ _)
       (rename News _ _ _ _ => lN9)
       have hCi9 := hTI2.toS.apart lN9 hTD (by k_dflt k_mem) (by k_dflt k_mem) (by decide)
       k_dflt (refine' dig_c _ _ _ _ (Bd := 200000) (rest := (30, XI2) :: (Ci2, YI2) :: rest) hIr ?zlen ?zn0 ?zB ?zN ?zn1 ?k1 ?k2 ?k3 ?k4 ?k5 ?kC ?zr ?zlp hTD ?kK ?kd ?ku ?_)
       (case zlen => omega)
       (case zn0 => omega)
       (case zB => (intro z9 hz9; exact hqb z9 (List.mem_reverse.mp hz9)))
       (case zN => (exact Int.le_trans hda.2.1 (by omega)))
       (case zn1 => omega)
       (case k1 => k_asm)
       (case k2 => k_dflt k_asm)
       (case k3 => k_asm)
       (case k4 => (with_unfolding_all exact news_sub lN9 (List.forall_mem_cons.mpr ⟨by k_mem, List.forall_mem_cons.mpr ⟨by k_mem, List.forall_mem_cons.mpr ⟨by k_mem, List.forall_mem_cons.mpr ⟨by k_mem, List.forall_mem_cons.mpr ⟨by k_mem, by (repeat' (first | exact subr | (refine sub1 ?_)))⟩⟩⟩⟩⟩)))
       (case k5 => k_asm)
       (case kC => (exact hCD.keeps (Fr.keep (by assumption))))
       (case zr => (exact List.forall_mem_cons.mpr ⟨(by decide : (30 : Nat) ≠ 37), List.forall_mem_cons.mpr ⟨hCi9, hrD⟩⟩))
       (case zlp => k_ne)
       (case kK => exact rfl)
       (case kd => ktr_room)
       (case ku => ktr_units)
       clear lN9
       intro XD2 Cd2 YD2 tq h' tk' hTD2 F' N'
       (try dsimp only)
       (try k_fold)))
  k_with "append" => ((k_dflt (refine' append_L ?zF ?zN ?zU ?zz ?_; (case zF => k_asm); (case zN => k_asm); (case zU => k_updF); (case zz => omega))); intro h' F' N')
  k_with "reverse" => ((k_dflt (refine' reverse_L ?zF ?zN ?zU ?zz ?_; (case zF => k_asm); (case zN => k_asm); (case zU => k_updF); (case zz => (rw [List.length_reverse] at hda; omega)))); intro h' F' N'; have hIr := kFacts.reverse)
  k_with "shl" => ((with_reducible refine' shl_p (N := 200000) (m := 200000) ?zs1 ?zs2 ?zs3 ?zs4 ?_); (case zs1 => omega); (case zs2 => assumption); (case zs3 => omega); (case zs4 => decide); intro zs as hzs bzs)
  k_with "rev" => (
    (rename Fr _ _ _ _ => lF'); (rename News _ _ _ _ => lN')
    (with_unfolding_all refine' kst_rev (σ := List Value × List Int × Int × Nat × Nat) (fun c => (_, listOf (List.toArray c.1) c.2.2.2.2) :: (30, XI2) :: (Ci2, YI2) :: (37, XD) :: (Cd, YD) :: rest) (fun c => [(Str.ofString "r", Value.int c.2.2.1 c.2.2.2.1)]) (fun c => IntsAre c.1 c.2.1) [Str.ofString "q_digit"] (fun pre c => DmInv (2 ^ intBits b) b pre c.2.1 c.2.2.1) ([], [], 0, _, 0) (by rfl) hIA lF' lN' (List.Mem.head _) ?khl ?kne ?kN ?koff .nil ?kk ?kp ?_ ?_)
    (case khl => k_dflt k_mem)
    (case kne => k_ne)
    (case kN => (with_unfolding_all exact news_sub lN' (List.forall_mem_cons.mpr ⟨by k_mem, List.forall_mem_cons.mpr ⟨by k_mem, List.forall_mem_cons.mpr ⟨by k_mem, List.forall_mem_cons.mpr ⟨by k_mem, List.forall_mem_cons.mpr ⟨by k_mem, by (repeat' (first | exact subr | (refine sub1 ?_)))⟩⟩⟩⟩⟩)))
    (case koff => (
      (rename _ ∧ _ ∧ _ ∧ _ ∧ _ ∧ _ ∧ AllLt _ rest => l9)
      have hc9 := hTI2.toS.neList lN' (by k_dflt k_mem) (by k_dflt k_mem) lP
      refine List.forall_mem_cons.mpr ⟨⟨by k_ne, by k_ne⟩, List.forall_mem_cons.mpr ⟨⟨by k_ne, by k_ne⟩, List.forall_mem_cons.mpr ⟨⟨by k_ne, hc9⟩, List.forall_mem_cons.mpr ⟨⟨by k_ne, by k_ne⟩, List.forall_mem_cons.mpr ⟨⟨by k_ne, by k_ne⟩, ?_⟩⟩⟩⟩⟩
      exact fun p hp => ⟨ne_rest l9.2.2.2.2.2.2 (Nat.le_refl _) p hp, ne_rest lA3 (Nat.le_refl _) p hp⟩))
    (case kk => kst_all)
    (case kp => (exact DmInv.start (by omega)))
    (all_goals (try clear lF' lN'))
    rotate_left
    (
      rintro ⟨qvs, qs, r, tr0, vr0⟩ kU kH kTk kFacts kInv kFr kNews
      have kMark := kstMark
      dsimp only [kstB] at kFr
      dsimp only at kNews kInv kFacts
      have hdl := kFacts.length
      have hda := dm_all (n := (intBits b : Int)) (by omega) kInv
      have hqb : ∀ z ∈ qs, intBits z ≤ 200000 := fun z hz => Nat.le_trans (bits_of_lt (kInv.q z hz).1 (kInv.q z hz).2) hbb
      have hde := dm_end x0 b1 kInv)
    rotate_left
    (
      rintro ⟨qvs, qs, r, tr0, vr0⟩ kPre kPost kN kT kU kH kTk kOwn kEq kMem kOff kFacts kInv kFr kNews
      have kMark := kstMark
      dsimp only [kstB] at kFr
      dsimp only at kNews kInv kFacts
      simp only [List.nil_append, List.cons_append] at kNews
      have aR : Abs r := .mk
      have hdl := kFacts.length
      have hdm := kInv.len
      (rename _ ∧ _ ∧ _ ∧ _ ∧ _ ∧ AllLt _ rest => l8)
      have hro := fun p (hp : p ∈ rest ++ kOwn) => (List.mem_append.mp hp).elim (fun h => ne_rest l8.2.2.2.2.2 (Nat.le_refl _) p h) (fun h => kOff p h _ (List.Mem.head _))
      have hdn := dm_len (n := (intBits b : Int)) (by omega) kEq
      have hdr := digs_lt (ppos (intBits b)) _ _ kN kMem
      obtain ⟨q1, r1, hP2⟩ := dm_pre hbp.2.1 hbp.2.2 hbp.1 kInv.r0 kInv.r1 hdr.1 hdr.2
      have hPn := kInv.turn hP2.e hP2.q0 hP2.q1 hP2.r0 hP2.r1
      have bR : intBits r ≤ 200000 := bits_of_natAbs_le (b := b) (by have := kInv.r0; have := kInv.r1; omega) hbb)
    (all_goals (try dsimp only))
    (all_goals (try k_fold)))
  refine wpAny_call ?_
  k_dflt ktr_enter
  k_steps
  all_goals (
    (rename News h₀ _ _ _ => lN9)
    (rename _ ∧ _ ∧ _ ∧ _ ∧ _ ∧ AllLt _ rest => l8)
    obtain ⟨e1, e2⟩ := hde
    subst e2
    rw [Int.toNat_natCast, e1] at lN9
    refine hret _ _ _ _ _ _ _ tq tr0 0 _ _ hTI2 hTD2 (by k_asm) (news_sub lN9 ?_) ?_
    · with_unfolding_all exact List.forall_mem_cons.mpr ⟨by k_mem, List.forall_mem_cons.mpr ⟨by k_mem, List.forall_mem_cons.mpr ⟨by k_mem, List.forall_mem_cons.mpr ⟨by k_mem, List.forall_mem_cons.mpr ⟨by k_mem, by (repeat' (first | exact subr | (refine sub1 ?_)))⟩⟩⟩⟩⟩
    · exact ⟨l8.2.2.2.1, l8.2.2.2.2.1, l8.1, l8.2.1, l8.2.2.2.2.2⟩)
end Mine
namespace Mine
section
variable {prog : Program} {w : World} {A : Around} {E : Value → Shared → Prop} {s : Shared} {h₀ : Heap} {L l : Addr} {m : Str → Option Value} {news : List (Addr × Obj)} {value slice : PySem.Expr} {vs : List Value} {ns : List Int} {x y : Int} {t u : Tok} {Q : Value → Shared → Prop}
theorem cutL_from (F : Fr h₀ L s.heap m) (N : News h₀ L s.heap news) (hl : s.heap.IsList l vs.toArray) (hi : IntsAre vs ns) (x0 : 0 ≤ x) (hz : ns.length ≤ 1000000)
    (h : ∀ D ws h', Fr h₀ L h' m → News h₀ L h' ((D, listOf (List.toArray ws) 0) :: news) → (∀ p ∈ news, p.1 < D) → IntsAre ws (ns.drop x.toNat) → Q (.ref D) { s with heap := h' })
    (hs : subscripted slice false (.ref l) (.ref s.heap.objs.size) = operate [.ref s.heap.objs.size, .ref l] (getItem (.ref l) (.ref s.heap.objs.size)) := by with_unfolding_all rfl) :
    wpAny (model prog w) A (subscriptTail value slice (.ref l) (.ref s.heap.objs.size)) Q E { s with heap := s.heap.push { cls := .type "slice", data := .fields #[.int x t, .none, .none] } } :=
  kba_turn (value' := PySem.Expr.Name (PySem.Str.ofString "_") ⟨0, 0, 0, 0⟩) (fun _ => rfl) (kmk_slice_ints F N hl (.int _ _) .none hi (kmk_from hi x0) rfl (fun D ws h' F' N' l' I' _ _ => h D ws h' F' N' l' I') hs (fun _ => rfl) (by rw [List.size_toArray, hi.length]; exact Nat.le_trans hz (by decide)))
theorem cutL_upto (F : Fr h₀ L s.heap m) (N : News h₀ L s.heap news) (hl : s.heap.IsList l vs.toArray) (hi : IntsAre vs ns) (x0 : 0 ≤ x) (hz : ns.length ≤ 1000000)
    (h : ∀ D ws h', Fr h₀ L h' m → News h₀ L h' ((D, listOf (List.toArray ws) 0) :: news) → (∀ p ∈ news, p.1 < D) → IntsAre ws (ns.take x.toNat) → Q (.ref D) { s with heap := h' })
    (hs : subscripted slice false (.ref l) (.ref s.heap.objs.size) = operate [.ref s.heap.objs.size, .ref l] (getItem (.ref l) (.ref s.heap.objs.size)) := by with_unfolding_all rfl) :
    wpAny (model prog w) A (subscriptTail value slice (.ref l) (.ref s.heap.objs.size)) Q E { s with heap := s.heap.push { cls := .type "slice", data := .fields #[.none, .int x t, .none] } } :=
  kba_turn (value' := PySem.Expr.Name (PySem.Str.ofString "_") ⟨0, 0, 0, 0⟩) (fun _ => rfl) (kmk_slice_ints F N hl .none (.int _ _) hi (kmk_upto hi x0) rfl (fun D ws h' F' N' l' I' _ _ => h D ws h' F' N' l' I') hs (fun _ => rfl) (by rw [List.size_toArray, hi.length]; exact Nat.le_trans hz (by decide)))
theorem cutL_run (F : Fr h₀ L s.heap m) (N : News h₀ L s.heap news) (hl : s.heap.IsList l vs.toArray) (hi : IntsAre vs ns) (x0 : 0 ≤ x) (y0 : 0 ≤ y) (hz : ns.length ≤ 1000000)
    (h : ∀ D ws h', Fr h₀ L h' m → News h₀ L h' ((D, listOf (List.toArray ws) 0) :: news) → (∀ p ∈ news, p.1 < D) → IntsAre ws ((ns.drop x.toNat).take (min y.toNat ns.length - x.toNat)) → Q (.ref D) { s with heap := h' })
    (hs : subscripted slice false (.ref l) (.ref s.heap.objs.size) = operate [.ref s.heap.objs.size, .ref l] (getItem (.ref l) (.ref s.heap.objs.size)) := by with_unfolding_all rfl) :
    wpAny (model prog w) A (subscriptTail value slice (.ref l) (.ref s.heap.objs.size)) Q E { s with heap := s.heap.push { cls := .type "slice", data := .fields #[.int x t, .int y u, .none] } } :=
  kba_turn (value' := PySem.Expr.Name (PySem.Str.ofString "_") ⟨0, 0, 0, 0⟩) (fun _ => rfl) (kmk_slice_ints F N hl (.int _ _) (.int _ _) hi (kmk_run hi x0 y0) rfl (fun D ws h' F' N' l' I' _ _ => h D ws h' F' N' l' I') hs (fun _ => rfl) (by rw [List.size_toArray, hi.length]; exact Nat.le_trans hz (by decide)))
end
/-- a script's first numbers, the written ones where it has none -/
theorem len3 {l : List Int} (h : l.length = 3) : ∃ a b c, l = [a, b, c] := by
  match l, h with
  | [a, b, c], _ => exact ⟨a, b, c, rfl⟩
theorem len2 {l : List Int} (h : l.length = 2) : ∃ a b, l = [a, b] := by
  match l, h with
  | [a, b], _ => exact ⟨a, b, rfl⟩
theorem head3 (s : List Int) (a b c : Int) : ∃ x y z, List.take (3 : Int).toNat (s ++ List.drop ((s.length : Int)).toNat [a, b, c]) = [x, y, z] := by
  refine len3 ?_
  rw [Int.toNat_natCast, List.length_take, List.length_append, List.length_drop]
  show min 3 (s.length + (3 - s.length)) = 3
  omega
theorem head2 (s : List Int) (a b : Int) : ∃ x y, List.take (2 : Int).toNat (s ++ List.drop ((s.length : Int)).toNat [a, b]) = [x, y] := by
  refine len2 ?_
  rw [Int.toNat_natCast, List.length_take, List.length_append, List.length_drop]
  show min 2 (s.length + (2 - s.length)) = 2
  omega
theorem head_bits {s l ys : List Int} {k j : Nat} (h : PyData.layable0 (.list (s.map .int)) = true) (hl : ∀ x ∈ l, PySem.Builtin.Int.intBits x ≤ 1048576) (e : List.take k (s ++ List.drop j l) = ys) : ∀ x ∈ ys, PySem.Builtin.Int.intBits x ≤ 1048576 := by
  subst e
  intro x hx
  rcases List.mem_append.mp (List.mem_of_mem_take hx) with hx | hx
  · exact intBits_le_of_item hx h
  · exact hl x (List.mem_of_mem_drop hx)
theorem ints3 {vs : List Value} {a b c : Int} (h : IntsAre vs [a, b, c]) : ∃ t u v, vs = [.int a t, .int b u, .int c v] := by
  obtain ⟨t, v1, e1, h1⟩ := h.cons_inv
  obtain ⟨u, v2, e2, h2⟩ := h1.cons_inv
  obtain ⟨v, v3, e3, h3⟩ := h2.cons_inv
  exact ⟨t, u, v, by rw [e1, e2, e3, h3.nil_inv]⟩
theorem ints2 {vs : List Value} {a b : Int} (h : IntsAre vs [a, b]) : ∃ t u, vs = [.int a t, .int b u] := by
  obtain ⟨t, v1, e1, h1⟩ := h.cons_inv
  obtain ⟨u, v2, e2, h2⟩ := h1.cons_inv
  exact ⟨t, u, by rw [e1, e2, h2.nil_inv]⟩
end Mine
namespace Mine
open PySem.Builtin.Int (intBits)
/-- a place: base and digit -/
structure Ok9 (p : Int × Int) : Prop where
  b1 : 1 ≤ p.1
  d0 : 0 ≤ p.2
  d1 : p.2 < p.1
  bb : intBits p.1 ≤ 4600
theorem Ok9.bd {p : Int × Int} (h : Ok9 p) : intBits p.2 ≤ 4600 := by
  refine bits_of_natAbs_le (b := p.1) ?_ h.bb
  have := h.d0
  have := h.d1
  omega
def up9 : List (Int × Int) → Int → Int
  | [], a => a
  | p :: r, a => up9 r a * p.1 + p.2
def wt9 : List (Int × Int) → Int
  | [] => 1
  | p :: r => p.1 * wt9 r
def lo9 : List (Int × Int) → Int
  | [] => 0
  | p :: r => lo9 r * p.1 + p.2
theorem up9_lo (a : Int) : ∀ S : List (Int × Int), up9 S a = a * wt9 S + lo9 S
  | [] => by simp [up9, wt9, lo9]
  | p :: r => by
    rw [up9, wt9, lo9, up9_lo a r]
    grind
theorem lo9_range : ∀ S : List (Int × Int), (∀ p ∈ S, Ok9 p) → 0 ≤ lo9 S ∧ lo9 S < wt9 S
  | [], _ => ⟨by simp [lo9], by simp [lo9, wt9]⟩
  | p :: r, h => by
    have ih := lo9_range r fun q hq => h q (.tail _ hq)
    have hp := h p (.head _)
    have h0 := hp.d0
    have h1 := hp.d1
    rw [lo9, wt9]
    have h2 : 0 ≤ lo9 r * p.1 := Int.mul_nonneg ih.1 (by omega)
    have h3 : lo9 r * p.1 ≤ (wt9 r - 1) * p.1 := Int.mul_le_mul_of_nonneg_right (by omega) (by omega)
    rw [Int.sub_mul, Int.one_mul, Int.mul_comm (wt9 r)] at h3
    exact ⟨by omega, by omega⟩
theorem wt9_snoc (p : Int × Int) : ∀ S : List (Int × Int), wt9 (S ++ [p]) = wt9 S * p.1
  | [] => by simp [wt9]
  | q :: r => by
    rw [List.cons_append, wt9, wt9, wt9_snoc p r, Int.mul_assoc]
theorem lo9_snoc (p : Int × Int) : ∀ S : List (Int × Int), lo9 (S ++ [p]) = p.2 * wt9 S + lo9 S
  | [] => by simp [lo9, wt9]
  | q :: r => by
    rw [List.cons_append, lo9, lo9, wt9, lo9_snoc p r]
    grind
theorem up9_bits {a : Int} (ha : intBits a ≤ 4700) : ∀ S : List (Int × Int), (∀ p ∈ S, Ok9 p) → intBits (up9 S a) ≤ 4700 * (S.length + 1)
  | [], _ => by rw [up9]; exact Nat.le_trans ha (by simp)
  | p :: r, h => by
    have ih := up9_bits ha r fun q hq => h q (.tail _ hq)
    have hp := h p (.head _)
    rw [up9]
    refine Nat.le_trans (bits_add (bits_mul ih hp.bb) hp.bd) ?_
    rw [List.length_cons]; omega
theorem wt9_bits : ∀ S : List (Int × Int), (∀ p ∈ S, Ok9 p) → intBits (wt9 S) ≤ 4700 * (S.length + 1)
  | [], _ => by rw [wt9]; exact Nat.le_trans (show intBits 1 ≤ 1 by decide) (by simp)
  | p :: r, h => by
    have ih := wt9_bits r fun q hq => h q (.tail _ hq)
    have hp := h p (.head _)
    rw [wt9]
    refine Nat.le_trans (bits_mul hp.bb ih) ?_
    rw [List.length_cons]; omega
theorem wt9_pos : ∀ S : List (Int × Int), (∀ p ∈ S, Ok9 p) → 1 ≤ wt9 S := fun S h => by
  have := lo9_range S h; omega
theorem up9_nonneg {a : Int} (ha : 0 ≤ a) (S : List (Int × Int)) (h : ∀ p ∈ S, Ok9 p) : 0 ≤ up9 S a := by
  rw [up9_lo]
  have h1 := lo9_range S h
  have := Int.mul_nonneg ha (show 0 ≤ wt9 S by omega)
  omega
theorem drop9 {S : List (Int × Int)} {i : Nat} {p : Int × Int} (h : S[i]? = some p) : S.drop i = p :: S.drop (i + 1) := by
  obtain ⟨hi, e⟩ := List.getElem?_eq_some_iff.mp h
  rw [← List.getElem_cons_drop hi, e]
theorem take9 {S : List (Int × Int)} {i : Nat} {p : Int × Int} (h : S[i]? = some p) : S.take (i + 1) = S.take i ++ [p] := by
  rw [List.take_add_one, h]; rfl
theorem divmod9 {r q b d : Int} (e : r = q * b + d) (d0 : 0 ≤ d) (d1 : d < b) : r / b = q ∧ r % b = d := by
  have e2 : r = d + b * q := by rw [e, Int.mul_comm, Int.add_comm]
  rw [e2]
  refine ⟨?_, ?_⟩
  · rw [Int.add_mul_ediv_left _ _ (by omega), Int.ediv_eq_zero_of_lt d0 d1, Int.zero_add]
  · rw [Int.add_mul_emod_self_left, Int.emod_eq_of_lt d0 d1]
/-- the row of the weights -/
def W9 (S : List (Int × Int)) (i : Nat) : List Int := (List.range i).map fun j => wt9 (S.take j)
theorem W9_len (S : List (Int × Int)) (i : Nat) : (W9 S i).length = i := by simp [W9]
theorem W9_next (S : List (Int × Int)) (i : Nat) : W9 S i ++ [wt9 (S.take i)] = W9 S (i + 1) := by
  rw [W9, W9, List.range_succ, List.map_append]; rfl
theorem W9_at {S : List (Int × Int)} {n i : Nat} (h : i < n) : (W9 S n).getD i 0 = wt9 (S.take i) := by
  rw [List.getD_eq_getElem?_getD, W9, List.getElem?_map, List.getElem?_range h]; rfl
/-- the first loop: the number grows -/
structure Up9 (S : List (Int × Int)) (a : Int) (i : Nat) (z : Int) : Prop where
  e : z = up9 (S.drop (S.length - i)) a
theorem Up9.start {S : List (Int × Int)} {a : Int} : Up9 S a 0 a := ⟨by rw [Nat.sub_zero, List.drop_length]; rfl⟩
theorem Up9.turn {S : List (Int × Int)} {a z b d y : Int} {i : Nat} (H : Up9 S a i z) (hi : i < S.length) (h : S[S.length - 1 - i]? = some (b, d)) (hy : y = z * b + d) : Up9 S a (i + 1) y := by
  refine ⟨?_⟩
  have e1 : S.length - (i + 1) = S.length - 1 - i := by omega
  have e2 : S.length - 1 - i + 1 = S.length - i := by omega
  rw [e1, drop9 h, up9, e2, ← H.e, hy]
theorem Up9.done {S : List (Int × Int)} {a z : Int} (H : Up9 S a S.length z) : z = up9 S a := by
  have := H.e
  rwa [Nat.sub_self, List.drop_zero] at this
theorem Up9.bits {S : List (Int × Int)} {a z : Int} {i : Nat} (H : Up9 S a i z) (ha : intBits a ≤ 4700) (hS : ∀ p ∈ S, Ok9 p) (hl : S.length ≤ 11) : intBits z ≤ 60000 := by
  rw [H.e]
  refine Nat.le_trans (up9_bits ha _ fun p hp => hS p (List.mem_of_mem_drop hp)) ?_
  rw [List.length_drop]; omega
/-- the second loop: the number is taken apart -/
structure Dn9 (S : List (Int × Int)) (a : Int) (i : Nat) (r w : Int) (ws : List Int) : Prop where
  r : r = up9 (S.drop i) a
  w : w = wt9 (S.take i)
  ws : ws = W9 S i
theorem Dn9.start {S : List (Int × Int)} {a z : Int} (h : z = up9 S a) : Dn9 S a 0 z 1 [] := ⟨by rw [List.drop_zero]; exact h, rfl, rfl⟩
theorem Dn9.bounds {S : List (Int × Int)} {a r w : Int} {ws : List Int} {i : Nat} (H : Dn9 S a i r w ws) (a0 : 0 ≤ a) (ha : intBits a ≤ 4700) (hS : ∀ p ∈ S, Ok9 p) (hl : S.length ≤ 11) : 0 ≤ r ∧ intBits r ≤ 60000 ∧ 1 ≤ w ∧ intBits w ≤ 60000 := by
  rw [H.r, H.w]
  refine ⟨up9_nonneg a0 _ fun p hp => hS p (List.mem_of_mem_drop hp), Nat.le_trans (up9_bits ha _ fun p hp => hS p (List.mem_of_mem_drop hp)) ?_, wt9_pos _ fun p hp => hS p (List.mem_of_mem_take hp), Nat.le_trans (wt9_bits _ fun p hp => hS p (List.mem_of_mem_take hp)) ?_⟩
  · rw [List.length_drop]; omega
  · rw [List.length_take]; omega
theorem Dn9.dm {S : List (Int × Int)} {a r w b d : Int} {ws : List Int} {i : Nat} (H : Dn9 S a i r w ws) (hS : ∀ p ∈ S, Ok9 p) (h : S[i]? = some (b, d)) : r / b = up9 (S.drop (i + 1)) a ∧ r % b = d := by
  have hp := hS _ (List.mem_of_getElem? h)
  exact divmod9 (by rw [H.r, drop9 h, up9]) hp.d0 hp.d1
theorem Dn9.turn {S : List (Int × Int)} {a r w b d q v : Int} {ws : List Int} {i : Nat} (H : Dn9 S a i r w ws) (hS : ∀ p ∈ S, Ok9 p) (h : S[i]? = some (b, d)) (hq : q = r / b) (hv : v = w * b) : Dn9 S a (i + 1) q v (ws ++ [w]) := by
  refine ⟨by rw [hq]; exact (H.dm hS h).1, ?_, ?_⟩
  · rw [take9 h, wt9_snoc, hv, H.w]
  · rw [H.ws, H.w, W9_next]
theorem Dn9.rest {S : List (Int × Int)} {a r w : Int} {ws : List Int} (H : Dn9 S a S.length r w ws) : r = a := by
  have := H.r
  rwa [List.drop_length] at this
theorem Dn9.last {S : List (Int × Int)} {a r w z : Int} {ws : List Int} (H : Dn9 S a S.length r w ws) (hS : ∀ p ∈ S, Ok9 p) (hz : z = up9 S a) : z / w = a ∧ z % w = lo9 S := by
  have h := lo9_range S hS
  have hw : w = wt9 S := by have := H.w; rwa [List.take_length] at this
  rw [hw]
  exact divmod9 (by rw [hz, up9_lo]) h.1 h.2
/-- the third loop: the digits from above -/
structure Lo9 (S : List (Int × Int)) (j : Nat) (r : Int) : Prop where
  e : r = lo9 (S.take (S.length - j))
theorem Lo9.start {S : List (Int × Int)} {r : Int} (h : r = lo9 S) : Lo9 S 0 r := ⟨by rw [Nat.sub_zero, List.take_length]; exact h⟩
theorem Lo9.fin {S : List (Int × Int)} {r : Int} (H : Lo9 S S.length r) : r = 0 := by
  have := H.e
  rwa [Nat.sub_self] at this
theorem idx9 {n j : Nat} {i : Int} (hj : j < n) (hi : i = ((n : Int) - 1) + (j : Int) * (-1)) : i.toNat = n - 1 - j ∧ 0 ≤ i ∧ i < (n : Int) := by omega
theorem Lo9.bounds {S : List (Int × Int)} {r : Int} {j : Nat} (H : Lo9 S j r) (hS : ∀ p ∈ S, Ok9 p) (hl : S.length ≤ 11) : 0 ≤ r ∧ intBits r ≤ 60000 := by
  have h := lo9_range (S.take (S.length - j)) fun p hp => hS p (List.mem_of_mem_take hp)
  have hb := wt9_bits (S.take (S.length - j)) fun p hp => hS p (List.mem_of_mem_take hp)
  rw [H.e]
  refine ⟨h.1, Nat.le_trans (bits_of_natAbs_le (b := wt9 (S.take (S.length - j))) (by omega) hb) ?_⟩
  rw [List.length_take]; omega
theorem Lo9.dm {S : List (Int × Int)} {r b d w : Int} {j i : Nat} (H : Lo9 S j r) (hS : ∀ p ∈ S, Ok9 p) (hj : j < S.length) (hi : i = S.length - 1 - j) (h : S[i]? = some (b, d)) (hw : w = wt9 (S.take i)) : r / w = d ∧ r % w = lo9 (S.take i) := by
  have e : S.length - j = i + 1 := by omega
  have hr := lo9_range (S.take i) fun p hp => hS p (List.mem_of_mem_take hp)
  rw [hw]
  exact divmod9 (by rw [H.e, e, take9 h, lo9_snoc]) hr.1 hr.2
theorem Lo9.turn {S : List (Int × Int)} {r b d w q : Int} {j i : Nat} (H : Lo9 S j r) (hS : ∀ p ∈ S, Ok9 p) (hj : j < S.length) (hi : i = S.length - 1 - j) (h : S[i]? = some (b, d)) (hw : w = wt9 (S.take i)) (hq : q = r % w) : Lo9 S (j + 1) q := by
  refine ⟨?_⟩
  have e : S.length - (j + 1) = i := by omega
  rw [e, hq]
  exact (H.dm hS hj hi h hw).2
theorem Lo9.first {S : List (Int × Int)} {r b d : Int} {j : Nat} (H : Lo9 S j r) (hj : j < S.length) (hi : 0 = S.length - 1 - j) (h : S[0]? = some (b, d)) : r = d := by
  have e : S.length - j = 0 + 1 := by omega
  rw [H.e, e, take9 h]
  simp [lo9]
theorem wAt9 {S : List (Int × Int)} {i : Nat} {k : Int} (hk : k = (i : Int)) (hi : i < S.length) : (W9 S S.length).getD k.toNat 0 = wt9 (S.take i) := by
  subst hk
  exact W9_at hi
theorem ok9_new {far x m base v dg : Int} (hf : far = 2 ^ m.toNat) (m0 : 0 ≤ m) (m1 : m < 4500) (hx : x = v.fmod (1000 * far + 1)) (hb : base = far + x) {z : Int} (hd : dg = z.fmod base) : Ok9 (base, dg) := by
  have hf1 : 1 ≤ far := by have := ppos m.toNat; omega
  have hx1 := fmodB v (show 0 < 1000 * far + 1 by omega)
  rw [← hx] at hx1
  have hd1 := fmodB z (show 0 < base by omega)
  rw [← hd] at hd1
  refine ⟨show 1 ≤ base by omega, hd1.1, hd1.2, ?_⟩
  refine bits_of_lt (show 0 ≤ base by omega) ?_
  have h2 : far ≤ 2 ^ 4500 := by rw [hf]; exact pmono (by omega)
  have h3 : (2 : Int) ^ 4600 = 2 ^ 4500 * 2 ^ 100 := by rw [← Int.pow_add]
  have h4 : (2 : Int) ^ 4500 * 2000 ≤ 2 ^ 4500 * 2 ^ 100 := Int.mul_le_mul_of_nonneg_left (by decide) (Int.le_of_lt (ppos _))
  rw [h3]
  show base < _
  generalize (2 : Int) ^ 4500 = y at h2 h4 ⊢
  generalize (2 : Int) ^ 100 = u at h4 ⊢
  have hy : 1 ≤ y := by omega
  omega
theorem ok9_lit {far m : Int} (hf : far = 2 ^ m.toNat) (m0 : 0 ≤ m) (m1 : m < 4500) {b d : Int} (hb : far ≤ b ∧ b ≤ far + 2) (hd : 0 ≤ d ∧ d < b) : Ok9 (b, d) := by
  have hf1 : 1 ≤ far := by have := ppos m.toNat; omega
  refine ⟨show 1 ≤ b by omega, hd.1, hd.2, ?_⟩
  refine bits_of_lt (show 0 ≤ b by omega) ?_
  have h2 : far ≤ 2 ^ 4500 := by rw [hf]; exact pmono (by omega)
  have h3 : (2 : Int) ^ 4600 = 2 ^ 4500 * 2 ^ 100 := by rw [← Int.pow_add]
  have h4 : (2 : Int) ^ 4500 * 2000 ≤ 2 ^ 4500 * 2 ^ 100 := Int.mul_le_mul_of_nonneg_left (by decide) (Int.le_of_lt (ppos _))
  rw [h3]
  show b < _
  generalize (2 : Int) ^ 4500 = y at h2 h4 ⊢
  generalize (2 : Int) ^ 100 = u at h4 ⊢
  have hy : 1 ≤ y := by omega
  omega
theorem above9 {far m x v : Int} (hf : far = 2 ^ m.toNat) (m0 : 0 ≤ m) (m1 : m < 4500) (hx : x = v.fmod (1000 * far + 1)) : 0 ≤ x ∧ intBits x ≤ 4700 := by
  have h := ok9_new (z := 0) hf m0 m1 hx rfl rfl
  have hf1 : 1 ≤ far := by have := ppos m.toNat; omega
  have hx1 := fmodB v (show 0 < 1000 * far + 1 by omega)
  rw [← hx] at hx1
  refine ⟨hx1.1, Nat.le_trans (bits_of_natAbs_le (b := far + x) (by omega) h.bb) (by omega)⟩
end Mine
namespace Mine
/-- no record with a text in its second place -/
def IterO (o : Obj) : Prop := ∀ vs (ql : Str) (t : Tok), o.data = .fields vs → vs[1]? ≠ some (.str ql t)
theorem TabS.offI {P : Addr} {line col : Nat} {ql : Str} {X Y : Obj} {C : Addr} {h₀ h : Heap} {L : Addr} {news : List (Addr × Obj)} {p : Addr × Obj} (H : TabS P line col ql X C Y) (N : News h₀ L h news) (hC : (C, Y) ∈ news) (hp : p ∈ news) (hI : IterO p.2) (hP : p.1 ≠ P) : p.1 ≠ C := by
  rcases H with ⟨_, h1, _⟩ | ⟨_, _, vs, t, e1, e2⟩
  · rw [h1]; exact hP
  · intro e
    have g1 := (N _ hC).1
    have g2 := (N _ hp).1
    rw [← e, g2] at g1
    have g3 : p.2 = Y := Option.some.inj g1
    exact hI vs ql t (by rw [g3]; exact e1) e2
/-- the state of a loop whose ledger's addresses may turn -/
def KxS {σ : Type} (Led : σ → List (Addr × Obj)) (ps : σ → List (Str × Value)) (Facts : σ → Prop) (x : Str) (stored : List Str) (m₀ : Str → Option Value) (P : Nat → σ → Prop) (i : Nat) (m : Str → Option Value) (nx : List (Addr × Obj)) : Prop :=
  ∃ c : σ, nx = Led c ∧ Facts c ∧ (∀ p ∈ ps c, m p.1 = some p.2) ∧ (∀ z, z ≠ x → (∀ p ∈ ps c, z ≠ p.1) → stored.contains z = false → m z = m₀ z) ∧ P i c
section
variable {prog : Program} {w : World} {A : Around} {E : Value → Shared → Prop} {s : Shared} {env : Env} {h₀ : Heap} {x : Str} {body : List Stmt} {Q : Flow → Shared → Prop}
theorem kx_range {σ : Type} {r : Addr} {a₀ b₀ st : Int} {t₀ u₀ v₀ : Tok} {n : Nat} {m₀ : Str → Option Value} (Led : σ → List (Addr × Obj)) (ps : σ → List (Str × Value)) (Facts : σ → Prop) (stored : List Str) (P : Nat → σ → Prop) (c₀ : σ)
    (hh : A.handled = none) (hr : IsRange s.heap r a₀ b₀ st t₀ u₀ v₀) (hsmall : Builtin.Range.small a₀ b₀ st = true) (hn : Builtin.Range.rangeSize a₀ b₀ st = (n : Int)) (F : Fr h₀ env.locals s.heap m₀) (N : News h₀ env.locals s.heap (Led c₀)) (hf : Facts c₀) (hk : ∀ p ∈ ps c₀, m₀ p.1 = some p.2) (hp : P 0 c₀)
    (turn : ∀ (c : σ) (i : Nat) (k : Int) t (u : Str → Option Value) h tk own, i < n → k = a₀ + i * st → (∀ p ∈ own, IterO p.2) → OwnOff own ((Led c).map (·.1)) → Facts c → P i c →
      Fr h₀ env.locals h (fun y => if y = x then some (.int k t) else kstB (fun z => if stored.contains z then u z else m₀ z) (ps c) y) → News h₀ env.locals h (Led c ++ own) →
      wpAny (model prog w) A (execs body env) (InvPostG h₀ env.locals (KxS Led ps Facts x stored m₀ P (i + 1)) own { s with heap := h, toks := tk } Q) E { s with heap := h, toks := tk })
    (done : ∀ (c : σ) (u : Str → Option Value) h tk, Facts c → P n c → Fr h₀ env.locals h (fun y => if y = x then u y else kstB (fun z => if stored.contains z then u z else m₀ z) (ps c) y) → News h₀ env.locals h (Led c) → Q .next { s with heap := h, toks := tk }) :
    wpAny (model prog w) A (pyIter (.ref r)) (fun it s₂ => LoopAtV prog w A h₀ env x body Q E it s₂) E s := by
  refine wpAny_pyIter_range hr hsmall ?_
  have W : Walks prog w A s.heap.objs.size [s.heap.objs.size] [s.heap.objs.size] n (fun i v => i < n ∧ ∃ t, v = .int (a₀ + i * st) t)
      (fun i h => IsRangeIter h s.heap.objs.size (a₀ + (i : Nat) * st) ((n : Int) - (i : Nat)) st) := (Walks.range hh _ a₀ st n).bound
  refine ⟨s.heap.objs.size, _, _, n, _, _, m₀, Led c₀, (fun i m nx => KxS Led ps Facts x stored m₀ P i m nx), rfl, W, ?_, ?_, ?_, ?_, F.push _, fun q hq => ⟨Heap.get?_push_of_some _ (N q hq).1, (N q hq).2⟩, ⟨c₀, rfl, hf, hk, fun _ _ _ _ => rfl, hp⟩, ?_, ?_⟩
  · intro hm
    exact absurd F.ns.lt ((List.mem_singleton.mp hm) ▸ Nat.lt_irrefl _)
  · intro b hb
    rw [List.mem_singleton.mp hb]
    exact next_is_new F
  · intro q hq hI
    exact absurd (Heap.lt_size (N q hq).1) ((List.mem_singleton.mp hI) ▸ Nat.lt_irrefl _)
  · show IsRangeIter _ _ _ _ _
    rw [hn]
    simpa using Heap.get?_push_size _ rfl
  · rintro i v m₁ news₁ s₁ own ⟨hh', tk', rfl⟩ hin ⟨_, t, rfl⟩ ⟨c, rfl, hf', h1, h2, hp'⟩ hoff hown _ hmem hst' F₁ N₁
    have hst9 : hh'.get? s.heap.objs.size = some _ := hst'
    have hio : ∀ q ∈ own, IterO q.2 := by
      intro q hq vs ql t9 e1 e2
      have e3 := (N₁ q (List.mem_append_left _ hq)).1
      rw [List.mem_singleton.mp (hown q hq), hst9] at e3
      rw [← Option.some.inj e3] at e1
      cases e1
      cases e2
    have hsep : OwnOff own ((Led c).map (·.1)) := by
      intro q hq b hb e
      obtain ⟨q2, hq2, rfl⟩ := List.mem_map.mp hb
      exact hoff q2 hq2 (e ▸ hown q hq)
    have N₂ : News h₀ env.locals hh' (Led c ++ own) := fun q hq => N₁ q ((List.mem_append.mp hq).elim (fun h => List.mem_append.mpr (.inr h)) fun h => List.mem_append.mpr (.inl h))
    refine wpAny_mono (turn c i _ t m₁ hh' tk' own hin rfl hio hsep hf' hp' (kst_fr h1 h2 F₁) N₂) (fun f s₂ q => ?_) fun _ _ e => e
    have fin : InvEndG h₀ env.locals (KxS Led ps Facts x stored m₀ P (i + 1)) own { s with heap := hh', toks := tk' } s₂ → LoopStepU h₀ env.locals [s.heap.objs.size] own (KxS Led ps Facts x stored m₀ P (i + 1)) { s with heap := hh', toks := tk' } .next s₂ := by
      rintro ⟨h', tk, m', news', nx, e, F', N', hn', ho, ha, hm⟩
      refine ⟨rfl, h', tk, m', nx, e, F', fun q hq => N' q ((List.mem_append.mp hq).elim (ho q) (hn' q)), fun q hq hb => ?_, hm⟩
      exact ha _ (hmem _ (List.mem_singleton.mpr rfl) (next_is_new F) _ hst9) q.1 (List.mem_map.mpr ⟨q, hq, rfl⟩) (List.mem_singleton.mp hb).symm
    cases f with
    | ret v => exact .ret q
    | brk => exact .brk q
    | next => exact .next (fin q)
    | cont => exact .cont (fin q)
  · rintro h' tk m' news' F' N' _ ⟨c, rfl, hf', h1, h2, hp'⟩
    exact done c m' h' tk hf' hp' (kst_frOut h1 h2 F') N'
theorem kx_end {σ : Type} {Led : σ → List (Addr × Obj)} {ps : σ → List (Str × Value)} {Facts : σ → Prop} {stored : List Str} {m₀ : Str → Option Value} {P : Nat → σ → Prop} {i : Nat} (c : σ) {L : Addr} {m' : Str → Option Value} {own news' : List (Addr × Obj)} {s₁ : Shared} {h' : Heap} {tk : Nat}
    (F : Fr h₀ L h' m') (N : News h₀ L h' news') (hn : ∀ p ∈ Led c, p ∈ news') (ho : ∀ p ∈ own, p ∈ news') (ha : OwnOff own ((Led c).map (·.1))) (hf : Facts c) (hk : ∀ p ∈ ps c, m' p.1 = some p.2) (hr : ∀ z, z ≠ x → (∀ p ∈ ps c, z ≠ p.1) → stored.contains z = false → m' z = m₀ z) (hp : P i c) :
    InvEndG h₀ L (KxS Led ps Facts x stored m₀ P i) own s₁ { s₁ with heap := h', toks := tk } :=
  ⟨h', tk, m', news', Led c, rfl, F, N, hn, ho, ha, c, rfl, hf, hk, hr, hp⟩
end
end Mine
namespace Mine
abbrev tupO (its : Array Value) (k : Nat) : Obj := { cls := .type "tuple", data := .seq its k }
def pd (p : Int × Int) : W.Dat := .tuple [.int p.1, .int p.2]
theorem pd_open {L9 : List (Addr × Obj)} {v : Value} {x y : Int} (h : W.DatIn L9 v (.tuple [.int x, .int y])) : ∃ a n t1 t2, v = .ref a ∧ (a, tupO #[.int x t1, .int y t2] n) ∈ L9 := by
  cases h with
  | tuple hm hr =>
    cases hr with
    | cons h1 hr =>
      cases hr with
      | cons h2 hr =>
        cases hr
        cases h1
        cases h2
        exact ⟨_, _, _, _, rfl, hm⟩
theorem pair_at {L9 : List (Addr × Obj)} {us : List Value} {S : List (Int × Int)} (hd : W.DatAll L9 us (S.map pd)) {i : Nat} {b d : Int} (hi : S[i]? = some (b, d)) : ∃ a n t1 t2, us[i]? = some (.ref a) ∧ (a, tupO #[.int b t1, .int d t2] n) ∈ L9 := by
  obtain ⟨hl, e⟩ := List.getElem?_eq_some_iff.mp hi
  have hk : i < (S.map pd).length := by rw [List.length_map]; exact hl
  obtain ⟨v, hv, hD⟩ := hd.get hk
  rw [List.getElem_map, e] at hD
  obtain ⟨a, n, t1, t2, rfl, hm⟩ := pd_open hD
  exact ⟨a, n, t1, t2, hv, hm⟩
section
variable {prog : Program} {w : World} {A : Around} {E : Value → Shared → Prop} {s : Shared} {h₀ : Heap} {L l : Addr} {value slice : PySem.Expr} {news L9 : List (Addr × Obj)} {us : List Value} {S : List (Int × Int)} {n : Nat} {k : Int} {u : Tok} {Q : Value → Shared → Prop}
theorem pair_item (N : News h₀ L s.heap news) (hm : (l, listOf us.toArray n) ∈ news) (hd : W.DatAll L9 us (S.map pd)) {j : Nat} (hj : k = (j : Int)) {x y : Int} (hx : S[j]? = some (x, y)) (hz : S.length ≤ 1000000) (h : ∀ a c t1 t2, (a, tupO #[.int x t1, .int y t2] c) ∈ L9 → Q (.ref a) s)
    (hs : subscripted slice false (.ref l) (.int k u) = operate [.ref l, .int k u] (getItem (.ref l) (.int k u)) := by with_unfolding_all rfl) :
    wpAny (model prog w) A (subscriptTail value slice (.ref l) (.int k u)) Q E s := by
  obtain ⟨a, c, t1, t2, e2, hm2⟩ := pair_at hd hx
  have hl := (List.getElem?_eq_some_iff.mp hx).1
  have hls : s.heap.IsList l us.toArray := ⟨_, (N _ hm).1, rfl, n, rfl⟩
  subst hj
  exact tail_any hls.typeIs slot_list_getitem.lookup (wpAny_getItem_list hls (by omega) (by omega) (by simpa using e2) (h a c t1 t2 hm2)) hs
theorem letGo_reviter {target : Expr} {I t : Addr} {i : Int} {v : Value} {Q' : Unit → Shared → Prop} {s' : Shared} (hit : s'.heap.IsRevIter I t i) (h : Q' () s') :
    wpAny (model prog w) A (letOwnedTupleGo target (.ref I) v) Q' E s' := by
  obtain ⟨o, ho, hc, hd⟩ := hit
  unfold letOwnedTupleGo
  cases target <;> first
    | exact wpAny_pure h
    | (cases v <;> first
        | exact wpAny_pure h
        | (refine wpAny_bind (wpAny_load ho ?_)
           rw [hc, hd]
           exact wpAny_pure h))
end
section
variable {prog : Program} {w : World} {A : Around} {E : Value → Shared → Prop} {s : Shared} {env : Env} {h₀ : Heap} {body : List Stmt} {Q : Flow → Shared → Prop}
theorem assign_pair {xb xd : Str} {pb pq pt : Pos} {x1 : Nat} {b d : Int} {t1 t2 : Tok} {a : Addr} {n : Nat} {news : List (Addr × Obj)} {m : Str → Option Value} {Q : Unit → Shared → Prop} (hh : A.handled = none) (hxb : env.kindOf xb = some .local) (hxd : env.kindOf xd = some .local)
    (hp : (env.scope.kind == .class || (env.scope.kind == .module && env.locals != env.globals)) = false) (F : Fr h₀ env.locals s.heap m) (N : News h₀ env.locals s.heap news) (hm : (a, tupO #[.int b t1, .int d t2] n) ∈ news)
    (h : ∀ h' tk, Fr h₀ env.locals h' (fun y => if y = xd then some (.int d t2) else if y = xb then some (.int b t1) else m y) → News h₀ env.locals h' news → Q () { s with heap := h', toks := tk }) :
    wpAny (model prog w) A (assign (.Tuple [.Name xb pb, .Name xd pq] x1 pt) env (.ref a)) Q E s := by
  have ht : s.heap.IsTuple a #[.int b t1, .int d t2] := ⟨_, (N _ hm).1, rfl, _, rfl⟩
  refine wpAny_assign_Tuple hh ht rfl rfl fun h₃ hx₃ => ?_
  replace hx₃ : Heap.ExtBut s.heap.objs.size s.heap h₃ := hx₃
  have up₃ : ∀ q o, s.heap.get? q = some o → h₃.get? q = some o := fun q o e => hx₃ q o (Nat.ne_of_lt (Heap.lt_size e)) e
  have F₃ : Fr h₀ env.locals h₃ m := ⟨F.ns.at fun o e => up₃ _ o e, fun q o e => up₃ q o (F.keep q o e), F.above⟩
  have N₃ : News h₀ env.locals h₃ news := fun p hp => ⟨up₃ _ _ (N p hp).1, (N p hp).2⟩
  show wpAny _ _ (do holding [Value.int d t2] (assign (.Name xb pb) env (.int b t1)); do holding [] (assign (.Name xd pq) env (.int d t2)); pure ()) _ _ _
  refine wpAny_bind (wpAny_holding (wpAny_assign_Name (wpAny_storeName_local hxb F₃.ns (fun h₄ hn₄ hs₄ => ?_) hp)))
  replace hs₄ : Heap.SameBut env.locals h₃ h₄ := hs₄
  have F₄ := F₃.set hn₄ hs₄
  refine wpAny_bind (wpAny_holding (wpAny_assign_Name (wpAny_storeName_local hxd F₄.ns (fun h₅ hn₅ hs₅ => wpAny_pure ?_) hp)))
  replace hs₅ : Heap.SameBut env.locals h₄ h₅ := hs₅
  exact h h₅ _ (F₄.set hn₅ hs₅) ((N₃.set hs₄).set hs₅)
theorem kst_fr2 {xb xd : Str} {L : Addr} {h : Heap} {ps : List (Str × Value)} {stored : List Str} {m₀ m₁ : Str → Option Value} {v v2 : Value} (h1 : ∀ p ∈ ps, m₁ p.1 = some p.2) (h2 : ∀ z, z ≠ xd → (∀ p ∈ ps, z ≠ p.1) → stored.contains z = false → m₁ z = m₀ z)
    (F : Fr h₀ L h (fun y => if y = xd then some v else if y = xb then some v2 else m₁ y)) : Fr h₀ L h (fun y => if y = xd then some v else if y = xb then some v2 else kstB (fun z => if stored.contains z then m₁ z else m₀ z) ps y) := by
  have em : (fun y => if y = xd then some v else if y = xb then some v2 else kstB (fun z => if stored.contains z then m₁ z else m₀ z) ps y) = fun y => if y = xd then some v else if y = xb then some v2 else m₁ y := by
    funext y
    by_cases hy : y = xd
    · rw [if_pos hy, if_pos hy]
    · rw [if_neg hy, if_neg hy]
      by_cases hz : y = xb
      · rw [if_pos hz, if_pos hz]
      · rw [if_neg hz, if_neg hz]
        exact kst_off h1 h2 hy
  rw [em]
  exact F
/-- a turn that neither leaves nor goes on -/
def PostP (h₀ : Heap) (L : Addr) (J : (Str → Option Value) → List (Addr × Obj) → Prop) (own : List (Addr × Obj)) (s₁ : Shared) (f : Flow) (s₂ : Shared) : Prop :=
  match f with
  | .next => InvEndG h₀ L J own s₁ s₂
  | _ => False
/-- a loop over a list of pairs, its state with a ledger of its own -/
theorem kxp_list {σ : Type} {l : Addr} {us : List Value} {S : List (Int × Int)} {nn : Nat} {tl : List (Addr × Obj)} {m₀ : Str → Option Value} (Led : σ → List (Addr × Obj)) (ps : σ → List (Str × Value)) (Facts : σ → Prop) (stored : List Str) (P : Nat → σ → Prop) (c₀ : σ) {xb xd : Str} {pb pq pt : Pos} {x1 : Nat}
    (hh : A.handled = none) (hxb : env.kindOf xb = some .local) (hxd : env.kindOf xd = some .local) (hcl : (env.scope.kind == .class || (env.scope.kind == .module && env.locals != env.globals)) = false)
    (hl : ∀ c, (l, listOf us.toArray nn) ∈ Led c) (hd : W.DatAll tl us (S.map pd)) (htl : ∀ c, ∀ p ∈ tl, p ∈ Led c) (F : Fr h₀ env.locals s.heap m₀) (N : News h₀ env.locals s.heap (Led c₀)) (hf : Facts c₀) (hk : ∀ p ∈ ps c₀, m₀ p.1 = some p.2) (hp : P 0 c₀)
    (turn : ∀ (c : σ) (i : Nat) (b d : Int) t1 t2 (u : Str → Option Value) h g dr tk os own, S[i]? = some (b, d) → (∀ p ∈ own, IterO p.2) → OwnOff own ((Led c).map (·.1)) → Facts c → P i c →
      Fr h₀ env.locals h (fun y => if y = xd then some (.int d t2) else if y = xb then some (.int b t1) else kstB (fun z => if stored.contains z then u z else m₀ z) (ps c) y) → News h₀ env.locals h (Led c ++ own) →
      wpAny (model prog w) A (execs body env) (PostP h₀ env.locals (KxS Led ps Facts xd stored m₀ P (i + 1)) own { heap := h, gens := g, drawn := dr, toks := tk, os := os }) E { heap := h, gens := g, drawn := dr, toks := tk, os := os })
    (done : ∀ (c : σ) (u : Str → Option Value) h tk, Facts c → P S.length c → Fr h₀ env.locals h (fun y => if y = xd then u y else kstB (fun z => if stored.contains z then u z else m₀ z) (ps c) y) → News h₀ env.locals h (Led c) → Q .next { s with heap := h, toks := tk }) :
    wpAny (model prog w) A (pyIter (.ref l)) (fun it s₂ => LoopAtT prog w A h₀ env (.Tuple [.Name xb pb, .Name xd pq] x1 pt) body Q E it s₂) E s := by
  have hol : s.heap.get? l = some (listOf us.toArray nn) := (N _ (hl c₀)).1
  have hls : s.heap.IsList l us.toArray := ⟨_, hol, rfl, nn, rfl⟩
  have hne : l ≠ s.heap.objs.size := Nat.ne_of_lt (Heap.lt_size hol)
  refine wpAny_pyIter_list hls ?_
  have W := Walks.list (prog := prog) (w := w) hh s.heap.objs.size l hne us.toArray
  have hlen : us.toArray.size = S.length := by rw [List.size_toArray, hd.length, List.length_map]
  rw [hlen] at W
  refine ⟨_, _, _, S.length, _, _, m₀, Led c₀, (fun i m nx => KxS Led ps Facts xd stored m₀ P i m nx), rfl, W, ?_, ?_, ?_, ⟨⟨_, Heap.get?_push_size _ rfl, rfl, rfl⟩, hls.at fun o e => Heap.get?_push_of_some _ e⟩, F.push _, (fun p hp => ⟨Heap.get?_push_of_some _ (N p hp).1, (N p hp).2⟩), (fun i s' v Q' st hQ' => letGo_listiter st.1 hQ'), ⟨c₀, rfl, hf, hk, fun _ _ _ _ => rfl, hp⟩, ?_, ?_⟩
  · intro hm
    rcases List.mem_cons.mp hm with e | hm
    · exact absurd F.ns.lt (e ▸ Nat.lt_irrefl _)
    · exact (N _ (hl c₀)).2.1 ((List.mem_singleton.mp hm).symm)
  · intro b hb
    rw [List.mem_singleton.mp hb]
    exact next_is_new F
  · intro p hp hI
    exact absurd (Heap.lt_size (N p hp).1) ((List.mem_singleton.mp hI) ▸ Nat.lt_irrefl _)
  · rintro i v m₁ news₁ ⟨hh', g', dr', tk', os'⟩ own hin hP ⟨c, rfl, hf', h1, h2, hp'⟩ hoff hown hget hmem hst' F₁ N₁
    obtain ⟨oI, hoI, _, hdI⟩ := hst'.1
    have hio : ∀ q ∈ own.filter (fun p => decide (p.1 = s.heap.objs.size)), IterO q.2 := by
      intro q hq vs' ql t9 e1 e2
      have h1 : q.1 = s.heap.objs.size := by simpa using (List.mem_filter.mp hq).2
      have e3 := hget q (List.mem_filter.mp hq).1
      rw [h1, hoI] at e3
      rw [← Option.some.inj e3, hdI] at e1
      cases e1
      cases e2
    have hsep : OwnOff (own.filter fun p => decide (p.1 = s.heap.objs.size)) ((Led c).map (·.1)) := by
      intro q hq b hb e
      obtain ⟨q2, hq2, rfl⟩ := List.mem_map.mp hb
      have h1 : q.1 = s.heap.objs.size := by simpa using (List.mem_filter.mp hq).2
      exact hoff q2 hq2 (List.mem_singleton.mpr (e ▸ h1))
    have hlt' : i < S.length := hin
    obtain ⟨⟨b, d⟩, hbd⟩ : ∃ p, S[i]? = some p := ⟨_, List.getElem?_eq_getElem hlt'⟩
    obtain ⟨a, n, t1, t2, hx, hma⟩ := pair_at hd hbd
    have hv : v = .ref a := by
      have hP' : us[i]? = some v := by simpa using hP
      rw [hx] at hP'; exact (Option.some.inj hP').symm
    subst hv
    have N₂ : News h₀ env.locals hh' (Led c ++ own.filter fun p => decide (p.1 = s.heap.objs.size)) := fun p hp => N₁ p ((List.mem_append.mp hp).elim (fun h => List.mem_append.mpr (.inr h)) fun h => List.mem_append.mpr (.inl ((List.mem_filter.mp h).1)))
    have hlo : hh'.get? l = some (listOf us.toArray nn) := (N₁ _ (List.mem_append.mpr (.inr (hl c)))).1
    refine assign_pair hh hxb hxd hcl F₁ N₂ (List.mem_append_left _ (htl c _ hma)) fun h₅ tk₅ F₅ N₅ => ?_
    refine wpAny_mono (turn c i b d t1 t2 m₁ h₅ g' dr' tk₅ os' _ hbd hio hsep hf' hp' (kst_fr2 h1 h2 F₅) N₅) (fun f s₂ p => ?_) fun _ _ e => e
    have fin : InvEndG h₀ env.locals (KxS Led ps Facts xd stored m₀ P (i + 1)) (own.filter fun p => decide (p.1 = s.heap.objs.size)) { heap := h₅, gens := g', drawn := dr', toks := tk₅, os := os' } s₂ →
        LoopStepU h₀ env.locals [s.heap.objs.size] own (KxS Led ps Facts xd stored m₀ P (i + 1)) { heap := hh', gens := g', drawn := dr', toks := tk', os := os' } .next s₂ := by
      rintro ⟨h', tk, m', news', nx, e, F', N', hn, ho, ha, hm⟩
      have hln : (l, listOf us.toArray nn) ∈ nx := by
        obtain ⟨c', rfl, _⟩ := hm
        exact hl c'
      refine ⟨rfl, h', tk, m', nx, e, F', fun p hp => ?_, fun p hp hb => ?_, hm⟩
      · rcases List.mem_append.mp hp with h | h
        · by_cases hI : p.1 = s.heap.objs.size
          · exact N' p (ho p (List.mem_filter.mpr ⟨h, by simpa using hI⟩))
          · have h1 : p.1 = l := by
              rcases List.mem_cons.mp (hown p h) with h2 | h2
              · exact absurd h2 hI
              · exact List.mem_singleton.mp h2
            have h2 : hh'.get? p.1 = some p.2 := hget p h
            rw [h1, hlo] at h2
            have h3 : p = (l, listOf us.toArray nn) := Prod.ext h1 (Option.some.inj h2).symm
            rw [h3]
            exact N' _ (hn _ hln)
        · exact N' p (hn p h)
      · have hI2 := hmem s.heap.objs.size (.head _) (next_is_new F) _ hoI
        exact ha _ (List.mem_filter.mpr ⟨hI2, by simp⟩) p.1 (List.mem_map.mpr ⟨p, hp, rfl⟩) (List.mem_singleton.mp hb).symm
    cases f with
    | ret v => exact absurd p id
    | brk => exact absurd p id
    | next => exact fin p
    | cont => exact absurd p id
  · rintro h' tk m' news' F' N' _ ⟨c, rfl, hf', h1, h2, hp'⟩
    exact done c m' h' tk hf' hp' (kst_frOut h1 h2 F') N'
/-- the same from behind, its state with a ledger of its own -/
theorem kxp_rev {σ : Type} {I l : Addr} {all : List (Addr × Obj)} {us : List Value} {S : List (Int × Int)} {nn : Nat} {tl : List (Addr × Obj)} {m₀ : Str → Option Value} (Led : σ → List (Addr × Obj)) (ps : σ → List (Str × Value)) (Facts : σ → Prop) (stored : List Str) (P : Nat → σ → Prop) (c₀ : σ) {xb xd : Str} {pb pq pt : Pos} {x1 : Nat}
    (hh : A.handled = none) (hxb : env.kindOf xb = some .local) (hxd : env.kindOf xd = some .local) (hcl : (env.scope.kind == .class || (env.scope.kind == .module && env.locals != env.globals)) = false)
    (hl : ∀ c, (l, listOf us.toArray nn) ∈ Led c) (hd : W.DatAll tl us (S.map pd)) (htl : ∀ c, ∀ p ∈ tl, p ∈ Led c) (F : Fr h₀ env.locals s.heap m₀) (N : News h₀ env.locals s.heap (Led c₀)) (NA : News h₀ env.locals s.heap all) (hI : (I, revObj l ((us.length : Int) - 1)) ∈ all) (hoff0 : ∀ p ∈ Led c₀, p.1 ≠ I) (hf : Facts c₀) (hk : ∀ p ∈ ps c₀, m₀ p.1 = some p.2) (hp : P 0 c₀)
    (turn : ∀ (c : σ) (i : Nat) (b d : Int) t1 t2 (u : Str → Option Value) h g dr tk os own, i < S.length → S[S.length - 1 - i]? = some (b, d) → (∀ p ∈ own, IterO p.2) → OwnOff own ((Led c).map (·.1)) → Facts c → P i c →
      Fr h₀ env.locals h (fun y => if y = xd then some (.int d t2) else if y = xb then some (.int b t1) else kstB (fun z => if stored.contains z then u z else m₀ z) (ps c) y) → News h₀ env.locals h (Led c ++ own) →
      wpAny (model prog w) A (execs body env) (PostP h₀ env.locals (KxS Led ps Facts xd stored m₀ P (i + 1)) own { heap := h, gens := g, drawn := dr, toks := tk, os := os }) E { heap := h, gens := g, drawn := dr, toks := tk, os := os })
    (done : ∀ (c : σ) (u : Str → Option Value) h tk, Facts c → P S.length c → Fr h₀ env.locals h (fun y => if y = xd then u y else kstB (fun z => if stored.contains z then u z else m₀ z) (ps c) y) → News h₀ env.locals h (Led c) → Q .next { s with heap := h, toks := tk }) :
    wpAny (model prog w) A (pyIter (.ref I)) (fun it s₂ => LoopAtT prog w A h₀ env (.Tuple [.Name xb pb, .Name xd pq] x1 pt) body Q E it s₂) E s := by
  have hIx := NA _ hI
  have hlx := N _ (hl c₀)
  have hne : l ≠ I := hoff0 _ (hl c₀)
  have hL : s.heap.IsList l us.toArray := ⟨_, hlx.1, rfl, nn, rfl⟩
  have hul : us.length = S.length := by rw [hd.length, List.length_map]
  have hit : s.heap.IsRevIter I l ((us.length : Int) - 1) := ⟨_, hIx.1, rfl, rfl⟩
  refine wpAny_pyIter_revIter hit ?_
  have W := Walks.listRev (prog := prog) (w := w) hh I l hne us.toArray
  have hlen : us.toArray.size = S.length := by rw [List.size_toArray, hul]
  rw [hlen] at W
  refine ⟨I, _, _, S.length, _, _, m₀, Led c₀, (fun i m nx => KxS Led ps Facts xd stored m₀ P i m nx), rfl, W, ?_, ?_, ?_, ?_, F, N, (fun i s' v Q' st hQ' => letGo_reviter st.2.1 hQ'), ⟨c₀, rfl, hf, hk, fun _ _ _ _ => rfl, hp⟩, ?_, ?_⟩
  · intro hm
    rcases List.mem_cons.mp hm with e | hm
    · exact hIx.2.1 e.symm
    · exact hlx.2.1 (List.mem_singleton.mp hm).symm
  · intro b hb
    rw [List.mem_singleton.mp hb]
    exact hIx.2.2
  · intro p hp hm
    exact hoff0 p hp (List.mem_singleton.mp hm)
  · refine ⟨Nat.zero_le _, ?_, hL⟩
    have e : ((S.length : Nat) : Int) - 1 - ((0 : Nat) : Int) = (us.length : Int) - 1 := by rw [hul]; omega
    rw [e]
    exact hit
  · rintro i v m₁ news₁ ⟨hh', g', dr', tk', os'⟩ own hin hP ⟨c, rfl, hf', h1, h2, hp'⟩ hoff hown hget hmem hst' F₁ N₁
    obtain ⟨oI, hoI, _, hdI⟩ := hst'.2.1
    have hio : ∀ q ∈ own.filter (fun p => decide (p.1 = I)), IterO q.2 := by
      intro q hq vs' ql t9 e1 e2
      have h1 : q.1 = I := by simpa using (List.mem_filter.mp hq).2
      have e3 := hget q (List.mem_filter.mp hq).1
      rw [h1, hoI] at e3
      rw [← Option.some.inj e3, hdI] at e1
      cases e1
      cases e2
    have hsep : OwnOff (own.filter fun p => decide (p.1 = I)) ((Led c).map (·.1)) := by
      intro q hq b hb e
      obtain ⟨q2, hq2, rfl⟩ := List.mem_map.mp hb
      have h1 : q.1 = I := by simpa using (List.mem_filter.mp hq).2
      exact hoff q2 hq2 (List.mem_singleton.mpr (e ▸ h1))
    have hlt' : i < S.length := hin
    obtain ⟨⟨b, d⟩, hbd⟩ : ∃ p, S[S.length - 1 - i]? = some p := ⟨_, List.getElem?_eq_getElem (by omega)⟩
    obtain ⟨a, n, t1, t2, hx, hma⟩ := pair_at hd hbd
    have hv : v = .ref a := by
      have hP' : us[S.length - 1 - i]? = some v := by simpa using hP
      rw [hx] at hP'; exact (Option.some.inj hP').symm
    subst hv
    have N₂ : News h₀ env.locals hh' (Led c ++ own.filter fun p => decide (p.1 = I)) := fun p hp => N₁ p ((List.mem_append.mp hp).elim (fun h => List.mem_append.mpr (.inr h)) fun h => List.mem_append.mpr (.inl ((List.mem_filter.mp h).1)))
    have hlo : hh'.get? l = some (listOf us.toArray nn) := (N₁ _ (List.mem_append.mpr (.inr (hl c)))).1
    refine assign_pair hh hxb hxd hcl F₁ N₂ (List.mem_append_left _ (htl c _ hma)) fun h₅ tk₅ F₅ N₅ => ?_
    refine wpAny_mono (turn c i b d t1 t2 m₁ h₅ g' dr' tk₅ os' _ hlt' hbd hio hsep hf' hp' (kst_fr2 h1 h2 F₅) N₅) (fun f s₂ p => ?_) fun _ _ e => e
    have fin : InvEndG h₀ env.locals (KxS Led ps Facts xd stored m₀ P (i + 1)) (own.filter fun p => decide (p.1 = I)) { heap := h₅, gens := g', drawn := dr', toks := tk₅, os := os' } s₂ →
        LoopStepU h₀ env.locals [I] own (KxS Led ps Facts xd stored m₀ P (i + 1)) { heap := hh', gens := g', drawn := dr', toks := tk', os := os' } .next s₂ := by
      rintro ⟨h', tk, m', news', nx, e, F', N', hn, ho, ha, hm⟩
      have hln : (l, listOf us.toArray nn) ∈ nx := by
        obtain ⟨c', rfl, _⟩ := hm
        exact hl c'
      refine ⟨rfl, h', tk, m', nx, e, F', fun p hp => ?_, fun p hp hb => ?_, hm⟩
      · rcases List.mem_append.mp hp with h | h
        · by_cases hI : p.1 = I
          · exact N' p (ho p (List.mem_filter.mpr ⟨h, by simpa using hI⟩))
          · have h1 : p.1 = l := by
              rcases List.mem_cons.mp (hown p h) with h2 | h2
              · exact absurd h2 hI
              · exact List.mem_singleton.mp h2
            have h2 : hh'.get? p.1 = some p.2 := hget p h
            rw [h1, hlo] at h2
            have h3 : p = (l, listOf us.toArray nn) := Prod.ext h1 (Option.some.inj h2).symm
            rw [h3]
            exact N' _ (hn _ hln)
        · exact N' p (hn p h)
      · have hI2 := hmem I (.head _) hIx.2.2 _ hoI
        exact ha _ (List.mem_filter.mpr ⟨hI2, by simp⟩) p.1 (List.mem_map.mpr ⟨p, hp, rfl⟩) (List.mem_singleton.mp hb).symm
    cases f with
    | ret v => exact absurd p id
    | brk => exact absurd p id
    | next => exact fin p
    | cont => exact absurd p id
  · rintro h' tk m' news' F' N' _ ⟨c, rfl, hf', h1, h2, hp'⟩
    exact done c m' h' tk hf' hp' (kst_frOut h1 h2 F') N'
end
end Mine
namespace Mine
open PySem.Builtin.Int (intBits)
local macro_rules | `(tactic| bits_by_make) => `(tactic| with_reducible assumption)
set_option maxRecDepth 100000 in
set_option maxHeartbeats 8000000 in
theorem cell_c (w : World) (mean : ExcName → Option Value) (mg mb : Str → Option Value) {vs : List Value} {ns : List Int} {scr : Addr} {k us : Int} {t u : Tok} (hI : IntsAre vs ns) (hlen : ns.length ≤ 63) (hb : PyData.layable0 (.list (ns.map .int)) = true) (hus : intBits us ≤ 1048576) (k0 : 0 ≤ k)
    {dp un : Nat} {gd : Option (List Code)} {cn : Str} {cs : Scope} {a : Addr} {ccd : Value} {cl : List (Str × Addr)} {outer : List Env} {A₀ : Around} {base h₀ : Heap} {L : Addr} {m : Str → Option Value} {news : List (Addr × Obj)} {s : Shared}
    {Q E : Value → Shared → Prop} (B : Below A₀ base outer h₀) (F : Fr h₀ L s.heap m) (X : (hd.heap_39 w.params).In h₀) (N : News h₀ L s.heap news) (hl : h₀.IsList scr vs.toArray) (T : Top prog0 (looseW hd.view_39 [] ++ List.map (fun x => x.name) (recsOf hd.view_39) ++ List.map (fun x => x.fst) (litsOf hd.view_39) ++ List.map (fun x => x.name) (clssOf hd.view_39 (looseW hd.view_39 []))) mean mg mb h₀) (hk : cs.kind = .function) (hdp : dp + 2 + 104 < recursionLimit) (hu : un + 8 * 2 + 100 < cLine)
    (hret : ∀ z t h' tk', intBits z ≤ 1048576 → Fr h₀ L h' m → News h₀ L h' news → Q (.int z t) { s with heap := h', toks := tk' }) :
    wpAny (model PySem.Challenge.rw_dn0134_09.row.prog w) (ktrTop dp un gd cn cs L a ccd cl outer) (call (.ref 56) [.ref scr, .int k t, .int us u]) Q E s := by
  (have hh : PySem.Challenge.rw_dn0134_09 = PySem.Challenge.rw_dn0134_09 ∧ hd.heap_39 = hd.heap_39 := by (k_fill; exact ⟨rfl, rfl⟩))
  clear hh
  w_top off
  k_with_none
  refine wpAny_call ?_
  k_dflt ktr_enter
  (rename Fr h₀ _ _ _ => zFG)
  have hl' := Fr.lst zFG hl
  k_steps
  all_goals (refine hret _ _ _ _ ?_ (by k_asm) (by k_asm); first | exact hus | exact kbm_getD hb (by decide))
end Mine
namespace Mine
open PySem.Builtin.Int (intBits)
local macro_rules | `(tactic| bits_by_make) => `(tactic| with_reducible assumption)
local macro_rules | `(tactic| walk_at "call builtin:len") => `(tactic| k_extra "len")
local macro_rules | `(tactic| walk_at "subscriptTail Name Name ref int") => `(tactic| k_extra "item")
theorem itemD9 {prog : Program} {w : World} {A : Around} {E : Value → Shared → Prop} {s : Shared} {h₀ : Heap} {L : Addr} {news : List (Addr × Obj)} {value slice : Expr} {l : Addr} {vs : List Value} {ns : List Int} {c : Nat} {k : Int} {u : Tok} {Q : Value → Shared → Prop} (N : News h₀ L s.heap news) (hm : (l, listOf vs.toArray c) ∈ news) (hi : IntsAre vs ns) (h0 : 0 ≤ k) (h1 : k < (ns.length : Int)) (h2 : (ns.length : Int) ≤ 1000000) (h : ∀ t, Q (.int (ns.getD k.toNat 0) t) s)
    (hs : subscripted slice false (.ref l) (.int k u) = operate [.ref l, .int k u] (getItem (.ref l) (.int k u)) := by with_unfolding_all rfl) (hg : ∀ r, letTemporaryGo value (.ref l) r = pure () := by intro _; with_unfolding_all rfl) :
    wpAny (model prog w) A (subscriptTail value slice (.ref l) (.int k u)) Q E s :=
  item_list_ints ⟨_, (N _ hm).1, rfl, c, rfl⟩ hi h0 h1 (by omega) h hs hg
theorem getD_all9 {ns : List Int} {p : Int → Prop} (h : ∀ x ∈ ns, p x) {k : Nat} (hk : k < ns.length) : p (ns.getD k 0) := by
  rw [List.getD_eq_getElem?_getD, List.getElem?_eq_getElem hk]; exact h _ (List.getElem_mem hk)
set_option maxRecDepth 100000 in
set_option maxHeartbeats 8000000 in
/-- the same for a list of the call -/
theorem cell2_c (w : World) (mean : ExcName → Option Value) (mg mb : Str → Option Value) {vs : List Value} {ns : List Int} {scr : Addr} {c : Nat} {k us : Int} {t u : Tok} (hI : IntsAre vs ns) (hlen : ns.length ≤ 63) (hb : ∀ x ∈ ns, intBits x ≤ 1048576) (hus : intBits us ≤ 1048576) (k0 : 0 ≤ k)
    {dp un : Nat} {gd : Option (List Code)} {cn : Str} {cs : Scope} {a : Addr} {ccd : Value} {cl : List (Str × Addr)} {outer : List Env} {A₀ : Around} {base h₀ : Heap} {L : Addr} {m : Str → Option Value} {news : List (Addr × Obj)} {s : Shared}
    {Q E : Value → Shared → Prop} (B : Below A₀ base outer h₀) (F : Fr h₀ L s.heap m) (X : (hd.heap_39 w.params).In h₀) (N : News h₀ L s.heap news) (hm : (scr, listOf vs.toArray c) ∈ news) (T : Top prog0 (looseW hd.view_39 [] ++ List.map (fun x => x.name) (recsOf hd.view_39) ++ List.map (fun x => x.fst) (litsOf hd.view_39) ++ List.map (fun x => x.name) (clssOf hd.view_39 (looseW hd.view_39 []))) mean mg mb h₀) (hk : cs.kind = .function) (hdp : dp + 2 + 104 < recursionLimit) (hu : un + 8 * 2 + 100 < cLine)
    (hret : ∀ z t h' tk', intBits z ≤ 1048576 → Fr h₀ L h' m → News h₀ L h' news → Q (.int z t) { s with heap := h', toks := tk' }) :
    wpAny (model PySem.Challenge.rw_dn0134_09.row.prog w) (ktrTop dp un gd cn cs L a ccd cl outer) (call (.ref 56) [.ref scr, .int k t, .int us u]) Q E s := by
  (have hh : PySem.Challenge.rw_dn0134_09 = PySem.Challenge.rw_dn0134_09 ∧ hd.heap_39 = hd.heap_39 := by (k_fill; exact ⟨rfl, rfl⟩))
  clear hh
  w_top off
  k_with_none
  k_with "len" => (k_dflt (refine' kst_len (k := ns.length) ?zN ?zm ?ze ?zf ?_; (case zN => k_asm); (case zm => exact hm); (case ze => exact hI.length); (case zf => omega)))
  k_with "item" => (k_dflt (refine' itemD9 ?zN ?zm hI ?za ?zb ?zc ?_; (case zN => k_asm); (case zm => exact hm); (case za => omega); (case zb => omega); (case zc => omega)); intro ti)
  refine wpAny_call ?_
  k_dflt ktr_enter
  k_steps
  all_goals (refine hret _ _ _ _ ?_ (by k_asm) (by k_asm); first | exact hus | exact getD_all9 hb (by omega))
end Mine
namespace Mine
open PySem.Builtin.Int (intBits)
/-- the places so far, in the ledger -/
structure Pl (tl : List (Addr × Obj)) (us : List Value) (S : List (Int × Int)) : Prop where
  dat : W.DatAll tl us (S.map pd)
  tup : ∀ p ∈ tl, p.2.cls = .type "tuple"
  ok : ∀ p ∈ S, Ok9 p
theorem Pl.nil : Pl [] [] [] := ⟨.nil, List.forall_mem_nil _, List.forall_mem_nil _⟩
theorem Pl.len {tl : List (Addr × Obj)} {us : List Value} {S : List (Int × Int)} (H : Pl tl us S) : us.length = S.length := by rw [H.dat.length, List.length_map]
theorem Pl.snoc {tl : List (Addr × Obj)} {us : List Value} {S : List (Int × Int)} {D : Addr} {b d : Int} {t1 t2 : Tok} {n : Nat} (H : Pl tl us S) (ho : Ok9 (b, d)) : Pl ((D, tupO #[.int b t1, .int d t2] n) :: tl) (us ++ [.ref D]) (S ++ [(b, d)]) := by
  refine ⟨?_, List.forall_mem_cons.mpr ⟨rfl, H.tup⟩, fun p hp => ?_⟩
  · rw [List.map_append]
    exact (H.dat.mono fun p hp => List.Mem.tail _ hp).append (.one (.tuple (vs := [.int b t1, .int d t2]) (.head _) (.cons (.int _ _) (.cons (.int _ _) .nil))))
  · rcases List.mem_append.mp hp with h | h
    · exact H.ok p h
    · rw [List.mem_singleton.mp h]; exact ho
theorem pl3 {D1 D2 D3 : Addr} {b1 b2 b3 d1 d2 d3 : Int} {t1 t2 t3 u1 u2 u3 : Tok} {n1 n2 n3 : Nat} (o1 : Ok9 (b1, d1)) (o2 : Ok9 (b2, d2)) (o3 : Ok9 (b3, d3)) : Pl [(D3, tupO #[.int b3 t3, .int d3 u3] n3), (D2, tupO #[.int b2 t2, .int d2 u2] n2), (D1, tupO #[.int b1 t1, .int d1 u1] n1)] [.ref D1, .ref D2, .ref D3] [(b1, d1), (b2, d2), (b3, d3)] :=
  ((Pl.nil.snoc o1).snoc o2).snoc o3
theorem rs9 {l : Nat} {n : Nat} (hn : Builtin.Range.rangeSize 1 (l : Int) 2 = (n : Int)) (hl : l ≤ 23) : n ≤ 11 ∧ ∀ i : Nat, i < n → 1 ≤ 1 + (i : Int) * 2 ∧ 1 + (i : Int) * 2 < (l : Int) := by
  unfold Builtin.Range.rangeSize at hn
  rw [if_pos (by omega)] at hn
  split at hn
  · exact ⟨by omega, fun i hi => by omega⟩
  · exact ⟨by omega, fun i hi => by omega⟩
theorem rs9e {l : Nat} : ∃ n : Nat, Builtin.Range.rangeSize 1 (l : Int) 2 = (n : Int) := by
  unfold Builtin.Range.rangeSize
  rw [if_pos (by omega)]
  split
  · exact ⟨(((l : Int) - 1 - 1) / 2 + 1).toNat, by omega⟩
  · exact ⟨0, rfl⟩
theorem small9 {l : Nat} (hl : l ≤ 23) : Builtin.Range.small 1 (l : Int) 2 = true := by
  have h : ∀ k : Fin 24, Builtin.Range.small 1 ((k.val : Nat) : Int) 2 = true := by decide
  exact h ⟨l, by omega⟩
theorem smallD9 {l : Nat} (hl : l ≤ 11) : Builtin.Range.small ((l : Int) - 1) (-1) (-1) = true := by
  have h : ∀ k : Fin 12, Builtin.Range.small (((k.val : Nat) : Int) - 1) (-1) (-1) = true := by decide
  exact h ⟨l, by omega⟩
theorem rsD9 {l : Nat} : Builtin.Range.rangeSize ((l : Int) - 1) (-1) (-1) = (l : Int) := by
  unfold Builtin.Range.rangeSize
  rw [if_neg (by omega)]
  have e : -(-1 : Int) = 1 := by decide
  rw [e, Int.ediv_one]
  split <;> omega
theorem gen9 {vs : List Value} {l : List Int} {k : Nat} (h : IntsAre vs (l.take k)) (hk : k ≤ 23) (hb : PyData.layable0 (.list (l.map .int)) = true) : ∃ sc, IntsAre vs sc ∧ sc.length ≤ 23 ∧ ∀ x ∈ sc, intBits x ≤ 1048576 :=
  ⟨_, h, by rw [List.length_take]; omega, fun _ hx => intBits_le_of_item (List.mem_of_mem_take hx) hb⟩
section
variable {prog : Program} {w : World} {A : Around} {E : Value → Shared → Prop} {s : Shared} {h₀ : Heap} {L : Addr} {m : Str → Option Value}
theorem append_9 {P : Addr} {us : List Value} {c : Nat} {x : Value} {pre post : List (Addr × Obj)} {Q : Value → Shared → Prop} (F : Fr h₀ L s.heap m) (N : News h₀ L s.heap (pre ++ (P, listOf us.toArray c) :: post)) (h1 : ∀ p ∈ pre, p.1 ≠ P) (h2 : ∀ p ∈ post, p.1 ≠ P) (hz : us.length ≤ 1000000)
    (h : ∀ h', Fr h₀ L h' m → News h₀ L h' (pre ++ (P, listOf (us ++ [x]).toArray (c + 1)) :: post) → Q .none { s with heap := h' }) : wpAny (model prog w) A (call (.builtin "list.append") [.ref P, x]) Q E s := by
  have U : Upd P (listOf us.toArray c) (listOf (us.toArray.push x) (c + 1)) (pre ++ (P, listOf us.toArray c) :: post) (pre ++ (P, listOf (us.toArray.push x) (c + 1)) :: post) := by
    clear N h hz
    induction pre with
    | nil => exact .head h2
    | cons p r ih => exact .tail (h1 p (.head _)) (ih fun q hq => h1 q (.tail _ hq))
  refine append_K F N U (fun h' F' N' => h h' F' ?_) (by rw [List.size_toArray]; exact Nat.le_trans hz (by decide))
  have e : (us ++ [x]).toArray = us.toArray.push x := by simp
  rw [e]; exact N'
/-- the place's tail against its one digit -/
theorem ne_one {a b : Addr} {x y : Int} {t u : Tok} {j k : Nat} {news : List (Addr × Obj)} {Q : Value → Shared → Prop} (N : News h₀ L s.heap news) (ha : (a, tupO #[.int x t] j) ∈ news) (hb : (b, tupO #[.int y u] k) ∈ news) (e : x = y) (hu : A.units + 64 < cLine) (h : Q (.bool false) s) :
    wpAny (model prog w) A (compareOp .NotEq (.ref a) (.ref b)) Q E s := by
  subst e
  refine ne_dataH (da := .tuple [.int x]) (db := .tuple [.int x]) (reads_tuple_at (N.get ha) rfl rfl (ReadsAll.cons (Reads.int _ _) ReadsAll.nil)) (reads_tuple_at (N.get hb) rfl rfl (ReadsAll.cons (Reads.int _ _) ReadsAll.nil)) rfl rfl hu ?_
  simpa [PyData.eqv, PyData.eqvAll] using h
end
theorem offObj {h₀ h : Heap} {L : Addr} {news : List (Addr × Obj)} {p q : Addr × Obj} (N : News h₀ L h news) (hp : p ∈ news) (hq : q ∈ news) (hne : p.2 ≠ q.2) : p.1 ≠ q.1 := by
  intro e
  have g1 := (N _ hp).1
  have g2 := (N _ hq).1
  rw [e, g2] at g1
  exact hne (Option.some.inj g1).symm
theorem TabS.offL {P : Addr} {line col : Nat} {ql : Str} {X Y : Obj} {C l : Addr} {vs : List Value} {c : Nat} {h₀ h : Heap} {L : Addr} {news : List (Addr × Obj)} (H : TabS P line col ql X C Y) (N : News h₀ L h news) (hC : (C, Y) ∈ news) (hl : (l, listOf vs.toArray c) ∈ news) : C ≠ l := by
  refine offObj (p := (C, Y)) (q := (l, listOf vs.toArray c)) N hC hl ?_
  rcases H with ⟨h1, _, h3⟩ | ⟨_, _, vs', t, e1, _⟩
  · show Y ≠ _
    rw [h3, h1]
    intro e
    have h9 : (tabObj #[]).cls = (listOf vs.toArray c).cls := congrArg Obj.cls e
    have h8 : (listOf vs.toArray c).cls = .type "list" := rfl
    rw [h8] at h9
    revert h9
    decide
  · show Y ≠ _
    intro e
    rw [e] at e1
    cases e1
theorem Pl.off {tl : List (Addr × Obj)} {us : List Value} {S : List (Int × Int)} (H : Pl tl us S) {h₀ h : Heap} {L : Addr} {news : List (Addr × Obj)} {a : Addr} {o : Obj} (N : News h₀ L h news) (hs : ∀ p ∈ tl, p ∈ news) (ha : (a, o) ∈ news) (ho : o.cls ≠ .type "tuple") : ∀ p ∈ tl, p.1 ≠ a := fun p hp =>
  offObj (q := (a, o)) N (hs p hp) ha fun e => ho (by rw [← H.tup p hp, e])
theorem listO_cls (vs : List Value) (c : Nat) : (listOf vs.toArray c).cls ≠ .type "tuple" := by
  show Value.type "list" ≠ .type "tuple"
  decide
theorem tabO_cls (ps : Array Value) : (tabObj ps).cls ≠ .type "tuple" := by
  have h : ((tabObj #[]).cls ≠ .type "tuple") := by decide
  exact h
theorem offhd {own tl : List (Addr × Obj)} {p : Addr × Obj} (h : OwnOff own ((p :: tl).map (·.1))) : ∀ q ∈ own, q.1 ≠ p.1 := fun q hq => h q hq _ (List.mem_map.mpr ⟨p, .head _, rfl⟩)
theorem offT {own tl : List (Addr × Obj)} {p q r : Addr × Obj} (h : OwnOff own ((p :: q :: r :: tl).map (·.1))) : ∀ x ∈ own, x.1 ≠ r.1 := fun x hx => h x hx _ (List.mem_map.mpr ⟨r, .tail _ (.tail _ (.head _)), rfl⟩)
theorem app9h {tl own : List (Addr × Obj)} {us : List Value} {S : List (Int × Int)} {vs : List Value} {c : Nat} {h₀ h : Heap} {L a : Addr} {t e1 e2 e3 : Addr × Obj} (H : Pl tl us S) (N : News h₀ L h (t :: (a, listOf vs.toArray c) :: e1 :: e2 :: e3 :: (tl ++ own))) (h1 : @Ne Nat e1.1 a) (h2 : @Ne Nat e2.1 a) (h3 : @Ne Nat e3.1 a) (ho : OwnOff own (((a, listOf vs.toArray c) :: e1 :: e2 :: e3 :: tl).map (·.1))) : ∀ p ∈ e1 :: e2 :: e3 :: (tl ++ own), p.1 ≠ a := by
  intro p hp
  rcases List.mem_cons.mp hp with rfl | hp
  · exact h1
  rcases List.mem_cons.mp hp with rfl | hp
  · exact h2
  rcases List.mem_cons.mp hp with rfl | hp
  · exact h3
  rcases List.mem_append.mp hp with hp | hp
  · exact H.off N (fun q hq => .tail _ (.tail _ (.tail _ (.tail _ (.tail _ (List.mem_append_left _ hq)))))) (.tail _ (.head _)) (listO_cls _ _) p hp
  · exact offhd ho p hp
theorem end9a {Led : List Value × Nat × List (Addr × Obj) × List (Int × Int) → List (Addr × Obj)} {Facts : List Value × Nat × List (Addr × Obj) × List (Int × Int) → Prop} {stored : List Str} {m₀ m' : Str → Option Value} {P : Nat → List Value × Nat × List (Addr × Obj) × List (Int × Int) → Prop} {i : Nat} {x : Str} {h₀ h' : Heap} {L Pa D' : Addr} {tl own : List (Addr × Obj)} {us : List Value} {S : List (Int × Int)} {uc : Nat} {b d : Int} {t1 t2 : Tok} {n : Nat} {e1 e2 e3 : Addr × Obj} {s₁ : Shared} {tk : Nat}
    (F : Fr h₀ L h' m') (N : News h₀ L h' ((D', tupO #[.int b t1, .int d t2] n) :: (Pa, listOf (us ++ [Value.ref D']).toArray (uc + 1)) :: e1 :: e2 :: e3 :: (tl ++ own)))
    (hLed : ∀ us uc tl S, Led (us, uc, tl, S) = (Pa, listOf (List.toArray us) uc) :: e1 :: e2 :: e3 :: tl) (ho : OwnOff own ((Led (us, uc, tl, S)).map (·.1))) (hD : ∀ p ∈ own, @LT.lt Nat _ p.1 D')
    (hf : Facts (us ++ [Value.ref D'], uc + 1, (D', tupO #[.int b t1, .int d t2] n) :: tl, S ++ [(b, d)])) (hr : ∀ z, z ≠ x → (∀ p ∈ ([] : List (Str × Value)), z ≠ p.1) → stored.contains z = false → m' z = m₀ z) (hp : P i (us ++ [Value.ref D'], uc + 1, (D', tupO #[.int b t1, .int d t2] n) :: tl, S ++ [(b, d)])) :
    InvEndG h₀ L (KxS Led (fun _ => []) Facts x stored m₀ P i) own s₁ { s₁ with heap := h', toks := tk } := by
  refine kx_end (us ++ [Value.ref D'], uc + 1, (D', tupO #[.int b t1, .int d t2] n) :: tl, S ++ [(b, d)]) F N ?_ ?_ ?_ hf (List.forall_mem_nil _) hr hp
  · rw [hLed]
    intro p hp
    rcases List.mem_cons.mp hp with h | hp
    · exact h ▸ .tail _ (.head _)
    rcases List.mem_cons.mp hp with h | hp
    · exact h ▸ .tail _ (.tail _ (.head _))
    rcases List.mem_cons.mp hp with h | hp
    · exact h ▸ .tail _ (.tail _ (.tail _ (.head _)))
    rcases List.mem_cons.mp hp with h | hp
    · exact h ▸ .tail _ (.tail _ (.tail _ (.tail _ (.head _))))
    rcases List.mem_cons.mp hp with h | hp
    · exact h ▸ .head _
    · exact .tail _ (.tail _ (.tail _ (.tail _ (.tail _ (List.mem_append_left _ hp)))))
  · exact fun p hp => .tail _ (.tail _ (.tail _ (.tail _ (.tail _ (List.mem_append_right _ hp)))))
  · rw [hLed] at ho ⊢
    intro p hpo q hq
    rcases List.mem_cons.mp hq with rfl | hq
    · exact ho p hpo _ (.head _)
    rcases List.mem_cons.mp hq with rfl | hq
    · exact ho p hpo _ (.tail _ (.head _))
    rcases List.mem_cons.mp hq with rfl | hq
    · exact ho p hpo _ (.tail _ (.tail _ (.head _)))
    rcases List.mem_cons.mp hq with rfl | hq
    · exact ho p hpo _ (.tail _ (.tail _ (.tail _ (.head _))))
    rcases List.mem_cons.mp hq with rfl | hq
    · exact Nat.ne_of_lt (hD p hpo)
    · exact ho p hpo q (.tail _ (.tail _ (.tail _ (.tail _ hq))))
section
variable {prog : Program} {w : World} {A : Around} {E : Value → Shared → Prop} {s : Shared} {h₀ : Heap} {L : Addr} {m : Str → Option Value}
theorem eq_nil9 {P D : Addr} {us : List Value} {c k : Nat} {tl news : List (Addr × Obj)} {S : List (Int × Int)} {Q : Value → Shared → Prop} (N : News h₀ L s.heap news) (hP : (P, listOf us.toArray c) ∈ news) (hD : (D, listOf #[] k) ∈ news) (H : Pl tl us S) (hs : ∀ p ∈ tl, p ∈ news) (hu : A.units + 64 < cLine)
    (h : Q (.bool (decide (S = []))) s) : wpAny (model prog w) A (compareOp .Eq (.ref P) (.ref D)) Q E s := by
  refine W.kqd_eq (ys := []) (es := []) N hP rfl rfl H.dat hs hD rfl rfl .nil (List.forall_mem_nil _) (fun d hd => ?_) (List.forall_mem_nil _) hu ?_
  · obtain ⟨p, _, rfl⟩ := List.mem_map.mp hd
    rfl
  · have e : decide (S.map pd = []) = decide (S = []) := by cases S <;> simp
    rw [e]; exact h
theorem join_9 {e : Sem Flow} {Q : Flow → Shared → Prop} {Ds PDa PIa : Addr} {oS oD oI : Obj} (F : Fr h₀ L s.heap m) (N : News h₀ L s.heap [(Ds, oS), (PDa, oD), (PIa, oI)])
    (h1 : ∀ Q' : Flow → Shared → Prop, (∀ P us uc tl S h' tk, Pl tl us S → S.length ≤ 11 → @LT.lt Nat _ Ds P → Fr h₀ L h' (fun y => if y = Str.ofString "places" then some (.ref P) else m y) → News h₀ L h' ((P, listOf (List.toArray us) uc) :: (Ds, oS) :: (PDa, oD) :: (PIa, oI) :: tl) → Q' .next { s with heap := h', toks := tk }) → wpAny (model prog w) A e Q' E s)
    (h2 : ∀ P us uc tl S h' tk, Pl tl us S → S.length ≤ 11 → @LT.lt Nat _ Ds P → Fr h₀ L h' (fun y => if y = Str.ofString "places" then some (.ref P) else m y) → News h₀ L h' ((P, listOf (List.toArray us) uc) :: (Ds, oS) :: (PDa, oD) :: (PIa, oI) :: tl) → Q .next { s with heap := h', toks := tk }) : wpAny (model prog w) A e Q E s := h1 Q h2
end
theorem fr_sameV {h₀ h : Heap} {L : Addr} {m : Str → Option Value} {name : Str} {v : Value} (F : Fr h₀ L h m) (e : m name = some v) : Fr h₀ L h (fun y => if y = name then some v else m y) := by
  have e2 : (fun y => if y = name then some v else m y) = m := by
    funext y
    by_cases hy : y = name
    · rw [if_pos hy, hy, e]
    · rw [if_neg hy]
  rw [e2]; exact F
/-- the state of the second loop -/
structure St9 where
  XI : Obj
  Ci : Addr
  YI : Obj
  XD : Obj
  Cd : Addr
  YD : Obj
  ws : List Value
  wc : Nat
  wn : List Int
  r : Int
  tr : Tok
  w : Int
  tw : Tok
theorem sub9 {h₀ h : Heap} {L : Addr} {w pa ds pd' pi : Addr × Obj} {tl : List (Addr × Obj)} (N : News h₀ L h (w :: pa :: ds :: pd' :: pi :: tl)) : News h₀ L h (pi :: pi :: pd' :: pd' :: w :: pa :: tl) := fun q hq => N q (by
  simp only [List.mem_cons] at hq ⊢
  rcases hq with h | h | h | h | h | h | h <;> simp [h])
/-- the tables' facts in the loops -/
structure Tb9 (XI : Obj) (Ci : Addr) (YI XD : Obj) (Cd : Addr) (YD : Obj) : Prop where
  i : TabS 30 32 4 (Str.ofString "_int2digits.<locals>.inner") XI Ci YI
  d : TabS 37 47 4 (Str.ofString "_digits2int.<locals>.inner") XD Cd YD
theorem Tb9.start : Tb9 (tabObj #[]) 30 (tabObj #[]) (tabObj #[]) 37 (tabObj #[]) := ⟨TabS.start _ _ _ _, TabS.start _ _ _ _⟩
/-- what lies apart from the tables in the loops -/
theorem rest9 {tl own : List (Addr × Obj)} {us : List Value} {S : List (Int × Int)} {h₀ h : Heap} {L a : Addr} {ps : Array Value} {p1 p2 p3 w pa : Addr × Obj} {q : Addr × Obj} (H : Pl tl us S) (N : News h₀ L h (p1 :: p2 :: q :: p3 :: w :: pa :: (tl ++ own))) (hq : (a, tabObj ps) = p1 ∨ (a, tabObj ps) = q) (h1 : @Ne Nat w.1 a) (h2 : @Ne Nat pa.1 a) (ho : ∀ p ∈ own, p.1 ≠ a) : ∀ p ∈ w :: pa :: (tl ++ own), p.1 ≠ a := by
  intro p hp
  rcases List.mem_cons.mp hp with rfl | hp
  · exact h1
  rcases List.mem_cons.mp hp with rfl | hp
  · exact h2
  rcases List.mem_append.mp hp with hp | hp
  · refine H.off N (fun x hx => .tail _ (.tail _ (.tail _ (.tail _ (.tail _ (.tail _ (List.mem_append_left _ hx))))))) (a := a) (o := tabObj ps) ?_ (tabO_cls _) p hp
    rcases hq with e | e
    · rw [e]; exact .head _
    · rw [e]; exact .tail _ (.tail _ (.head _))
  · exact ho p hp
section
variable {prog : Program} {w : World} {A : Around} {E : Value → Shared → Prop} {s : Shared} {h₀ : Heap} {L : Addr} {m : Str → Option Value} {news : List (Addr × Obj)}
/-- the tail of a pair -/
theorem tail9 {value slice : Expr} {D : Addr} {x y : Int} {t1 t2 u : Tok} {c : Nat} {Q : Value → Shared → Prop} (F : Fr h₀ L s.heap m) (N : News h₀ L s.heap news) (hm : (D, tupO #[.int x t1, .int y t2] c) ∈ news)
    (h : ∀ D2 h', Fr h₀ L h' m → News h₀ L h' ((D2, tupO #[.int y t2] 0) :: news) → (∀ p ∈ news, @LT.lt Nat _ p.1 D2) → Q (.ref D2) { s with heap := h' })
    (hs : subscripted slice false (.ref D) (.ref s.heap.objs.size) = operate [.ref s.heap.objs.size, .ref D] (getItem (.ref D) (.ref s.heap.objs.size)) := by with_unfolding_all rfl)
    (hg : ∀ r, letTemporaryGo value (.ref D) r = pure () := by intro _; with_unfolding_all rfl) :
    wpAny (model prog w) A (subscriptTail value slice (.ref D) (.ref s.heap.objs.size)) Q E { s with heap := s.heap.push { cls := .type "slice", data := .fields #[.int 1 u, .none, .none] } } :=
  slice_tuple_from (a := 1) (items := #[.int x t1, .int y t2]) F N ⟨_, (N _ hm).1, rfl, c, rfl⟩ (by decide) (show 1 ≤ 2 by decide) (fun h' F' N' => h _ h' F' N' fun p hp => Nat.lt_succ_of_lt (Heap.lt_size (N p hp).1)) hs hg (show 2 ≤ sizeLine by decide)
end
end Mine
namespace Mine
theorem offW {own tl : List (Addr × Obj)} {a b c d p : Addr × Obj} (h : OwnOff own ((a :: b :: c :: d :: p :: tl).map (·.1))) : ∀ x ∈ own, x.1 ≠ p.1 := fun x hx => h x hx _ (List.mem_map.mpr ⟨p, .tail _ (.tail _ (.tail _ (.tail _ (.head _)))), rfl⟩)
theorem oo9 {own tl : List (Addr × Obj)} {a b c d : Addr × Obj} {C D : Addr} {XI YI XD YD : Obj} (h : OwnOff own ((a :: b :: c :: d :: tl).map (·.1))) (hC : ∀ x ∈ own, x.1 ≠ C) (hD : ∀ x ∈ own, x.1 ≠ D) : OwnOff own (((a.1, XI) :: (C, YI) :: (c.1, XD) :: (D, YD) :: tl).map (·.1)) := by
  intro p hp q hq
  rcases List.mem_cons.mp hq with rfl | hq
  · exact h p hp _ (.head _)
  rcases List.mem_cons.mp hq with rfl | hq
  · exact hC p hp
  rcases List.mem_cons.mp hq with rfl | hq
  · exact h p hp _ (.tail _ (.tail _ (.head _)))
  rcases List.mem_cons.mp hq with rfl | hq
  · exact hD p hp
  · exact h p hp _ (.tail _ (.tail _ (.tail _ (.tail _ hq))))
section
variable {prog : Program} {w : World} {A : Around} {E : Value → Shared → Prop} {s : Shared} {h₀ : Heap} {L : Addr} {m : Str → Option Value}
theorem app9w {t1 t2 t3 : Addr × Obj} {PI PD Ci Cd Wt Pa : Addr} {XI YI XD YD oP : Obj} {ws : List Value} {wc : Nat} {x : Value} {tl own : List (Addr × Obj)} {us : List Value} {S : List (Int × Int)} {l1 l2 : Nat} {q1 q2 : Str} {Q : Value → Shared → Prop} (H : Pl tl us S) (F : Fr h₀ L s.heap m)
    (N : News h₀ L s.heap (t1 :: t2 :: t3 :: (PI, XI) :: (Ci, YI) :: (PD, XD) :: (Cd, YD) :: (Wt, listOf ws.toArray wc) :: (Pa, oP) :: (tl ++ own))) (hTI : TabF PI l1 4 q1 XI Ci YI) (hTD : TabF PD l2 4 q2 XD Cd YD) (hPI : @Ne Nat PI Wt) (hPD : @Ne Nat PD Wt) (hPa : @Ne Nat Pa Wt) (ho : ∀ p ∈ own, p.1 ≠ Wt) (hz : ws.length ≤ 1000000)
    (h : ∀ h', Fr h₀ L h' m → News h₀ L h' ((PI, XI) :: (Ci, YI) :: (PD, XD) :: (Cd, YD) :: (Wt, listOf (ws ++ [x]).toArray (wc + 1)) :: (Pa, oP) :: (tl ++ own)) → Q .none { s with heap := h' }) : wpAny (model prog w) A (call (.builtin "list.append") [.ref Wt, x]) Q E s := by
  have N2 : News h₀ L s.heap ([(PI, XI), (Ci, YI), (PD, XD), (Cd, YD)] ++ (Wt, listOf ws.toArray wc) :: (Pa, oP) :: (tl ++ own)) := fun p hp => N p (.tail _ (.tail _ (.tail _ hp)))
  have hW : (Wt, listOf ws.toArray wc) ∈ [(PI, XI), (Ci, YI), (PD, XD), (Cd, YD)] ++ (Wt, listOf ws.toArray wc) :: (Pa, oP) :: (tl ++ own) := .tail _ (.tail _ (.tail _ (.tail _ (.head _))))
  refine append_9 F N2 ?_ ?_ hz (fun h' F' N' => h h' F' N')
  · intro p hp
    rcases List.mem_cons.mp hp with rfl | hp
    · exact hPI
    rcases List.mem_cons.mp hp with rfl | hp
    · exact hTI.toS.offL N2 (.tail _ (.head _)) hW
    rcases List.mem_cons.mp hp with rfl | hp
    · exact hPD
    rcases List.mem_cons.mp hp with rfl | hp
    · exact hTD.toS.offL N2 (.tail _ (.tail _ (.tail _ (.head _)))) hW
    · cases hp
  · intro p hp
    rcases List.mem_cons.mp hp with rfl | hp
    · exact hPa
    rcases List.mem_append.mp hp with hp | hp
    · exact H.off N2 (fun x hx => .tail _ (.tail _ (.tail _ (.tail _ (.tail _ (.tail _ (List.mem_append_left _ hx))))))) hW (listO_cls _ _) p hp
    · exact ho p hp
/-- the second of a pair -/
theorem snd9 {value slice : Expr} {D : Addr} {x y : Int} {t1 t2 u : Tok} {c : Nat} {news : List (Addr × Obj)} {Q : Value → Shared → Prop} (N : News h₀ L s.heap news) (hm : (D, tupO #[.int x t1, .int y t2] c) ∈ news) (h : Q (.int y t2) s)
    (hs : subscripted slice false (.ref D) (.int 1 u) = operate [.ref D, .int 1 u] (getItem (.ref D) (.int 1 u)) := by with_unfolding_all rfl) :
    wpAny (model prog w) A (subscriptTail value slice (.ref D) (.int 1 u)) Q E s := by
  have ht : s.heap.IsTuple D #[.int x t1, .int y t2] := ⟨_, (N _ hm).1, rfl, _, rfl⟩
  exact tail_any ht.typeIs slot_tuple_getitem.lookup (getItem_tuple ht (show -(9223372036854775808 : Int) ≤ 1 by decide) (show (1 : Int) ≤ 9223372036854775807 by decide) (j := 1) (by rfl) (x := .int y t2) (by rfl) h) hs
end
/-- the end of a turn of the second and the third loop -/
theorem hnz9 {p1 p2 p3 p4 w pa : Addr × Obj} {tl own : List (Addr × Obj)} : ∀ p ∈ p1 :: p2 :: p3 :: p4 :: w :: pa :: tl, p ∈ p1 :: p2 :: p3 :: p4 :: w :: pa :: (tl ++ own) := fun p hp => by
  have : p ∈ (p1 :: p2 :: p3 :: p4 :: w :: pa :: tl) ++ own := List.mem_append_left _ hp
  exact this
theorem hoz9 {p1 p2 p3 p4 w pa : Addr × Obj} {tl own : List (Addr × Obj)} : ∀ p ∈ own, p ∈ p1 :: p2 :: p3 :: p4 :: w :: pa :: (tl ++ own) := fun p hp => by
  have : p ∈ (p1 :: p2 :: p3 :: p4 :: w :: pa :: tl) ++ own := List.mem_append_right _ hp
  exact this
theorem sub9b {h₀ h : Heap} {L : Addr} {t : Addr × Obj} {r : List (Addr × Obj)} (N : News h₀ L h (t :: r)) : News h₀ L h r := fun q hq => N q (.tail _ hq)
theorem News.nilR {h₀ h : Heap} {L : Addr} {p1 p2 p3 p4 w pa : Addr × Obj} {tl : List (Addr × Obj)} (N : News h₀ L h (p1 :: p2 :: p3 :: p4 :: w :: pa :: tl)) : News h₀ L h (p1 :: p2 :: p3 :: p4 :: w :: pa :: (tl ++ [])) := by
  rw [List.append_nil]; exact N
end Mine
namespace Mine
open PySem.Builtin.Int (intBits)
theorem up9_nn {S : List (Int × Int)} {a z : Int} (h : z = up9 S a) (a0 : 0 ≤ a) (hS : ∀ p ∈ S, Ok9 p) : 0 ≤ z := h ▸ up9_nonneg a0 S hS
theorem wi_b {S : List (Int × Int)} {k : Nat} {w : Int} (h : w = wt9 (S.take k)) (hS : ∀ p ∈ S, Ok9 p) (hl : S.length ≤ 11) : 1 ≤ w ∧ intBits w ≤ 60000 := by
  rw [h]
  refine ⟨wt9_pos _ fun p hp => hS p (List.mem_of_mem_take hp), Nat.le_trans (wt9_bits _ fun p hp => hS p (List.mem_of_mem_take hp)) ?_⟩
  rw [List.length_take]; omega
theorem sub9a {h₀ h : Heap} {L : Addr} {r : List (Addr × Obj)} (N : News h₀ L h r) : News h₀ L h r := N
theorem sub9c {h₀ h : Heap} {L : Addr} {t p1 p2 p3 p4 w pa : Addr × Obj} {tl : List (Addr × Obj)} (N : News h₀ L h (t :: p1 :: p2 :: p3 :: p4 :: w :: pa :: (tl ++ []))) : News h₀ L h (p1 :: p2 :: p3 :: p4 :: w :: pa :: tl) := by
  rw [List.append_nil] at N
  exact sub9b N
theorem memT0 {q p1 p2 p3 p4 w pa : Addr × Obj} {tl own : List (Addr × Obj)} (h : q ∈ tl) : q ∈ p1 :: p2 :: p3 :: p4 :: w :: pa :: (tl ++ own) := .tail _ (.tail _ (.tail _ (.tail _ (.tail _ (.tail _ (List.mem_append_left _ h))))))
theorem memT1 {q t p1 p2 p3 p4 w pa : Addr × Obj} {tl own : List (Addr × Obj)} (h : q ∈ tl) : q ∈ t :: p1 :: p2 :: p3 :: p4 :: w :: pa :: (tl ++ own) := .tail _ (memT0 h)
end Mine
-- PARTS: math.txt math_rev.txt mont.txt nest.txt div.txt call.txt dig.txt dig2.txt dig3.txt int2a.txt int2b.txt int3.txt dm1.txt dm2.txt slice.txt law09a.txt loopx9.txt pairs.txt cell.txt cell2.txt law09b.txt
namespace Mine
open PySem.Builtin.Int (intBits)
theorem ne_f {prog : Program} {w : World} {A : Around} {E : Value → Shared → Prop} {s : Shared} {a b : Int} {t u : Tok} {Q : Value → Shared → Prop} (e : a = b) (h : Q (.bool false) s) : wpAny (model prog w) A (compareOp .NotEq (.int a t) (.int b u)) Q E s :=
  ne_int (by rw [e]; simpa using h)
local macro_rules | `(tactic| bits_by_make) => `(tactic| with_reducible assumption)
local macro_rules | `(tactic| walk_at "storeName") => `(tactic| ((fail_if_success (with_reducible rename KPfMark => zMk)); (fail_if_success ((with_reducible refine abs_skip ?ka ?kb); (case ka => with_reducible assumption))); k_extra "abs"))
local macro_rules | `(tactic| walk_at "binaryOp Pow int int") => `(tactic| ((fail_if_success (with_reducible rename KPfMark => zMk)); (with_reducible refine' pow3_z ?ka ?kb ?_); (case ka => bits_by_make); (case kb => decide); k_extra "intro3"))
local macro_rules | `(tactic| walk_at "binaryOp Pow int int") => `(tactic| ((fail_if_success (with_reducible rename KPfMark => zMk)); (with_reducible refine pow2_p (N := 20000) ?kb1 ?kb2 ?kb3 ?_); (case kb1 => omega); (case kb2 => omega); (case kb3 => decide); k_extra "introP"))
local macro_rules | `(tactic| walk_at "binaryOp Mod int int") => `(tactic| ((fail_if_success (with_reducible rename KPfMark => zMk)); (with_reducible refine' mod_p ?ka ?kb ?_); (case ka => first | decide | assumption | k_extra "pos"); (case kb => bits_by_make); k_extra "introM"))
local macro_rules | `(tactic| walk_at "call ref") => `(tactic| k_extra "mycall")
local macro_rules | `(tactic| walk_at "binaryOp LShift int int") => `(tactic| ((fail_if_success (with_reducible rename KPfMark => zMk)); (with_reducible refine' shl_p (N := 40000) ?kb1 ?kb2 ?kb3 ?kb4 ?_); (case kb1 => omega); (case kb2 => bits_by_make); (case kb3 => omega); (case kb4 => decide); k_extra "introS"))
local macro_rules | `(tactic| walk_at "binaryOp RShift int int") => `(tactic| ((fail_if_success (with_reducible rename KPfMark => zMk)); (with_reducible refine' shr_p ?kb1 ?kb2 ?_); (case kb1 => omega); (case kb2 => bits_by_make); k_extra "introS"))
local macro_rules | `(tactic| walk_at "execs cons") => `(tactic| ((with_reducible refine gen_toks ?_); intro tk; (with_reducible refine wpAny_execs_cons ?_); try dsimp only))
local macro_rules | `(tactic| walk_at "execs nil") => `(tactic| ((with_reducible refine gen_toks ?_); intro tk; (with_reducible refine wpAny_execs_nil ?_)))
local macro_rules | `(tactic| walk_at "binaryOp Mult int int") => `(tactic| ((with_reducible refine' mul_p ?kb1 ?kb2 ?kb3 ?_); (case kb1 => bits_by_make); (case kb2 => bits_by_make); (case kb3 => decide)))
local macro_rules | `(tactic| walk_at "eval Call") => `(tactic| ((first | (with_reducible show wpAny _ _ (eval (Expr.Call (Expr.Name (Str.ofString "_law_cell") _) _ _ _) _) _ _ _)); k_dflt (refine Call_ ?_)))
local macro_rules | `(tactic| walk_at "exec If Compare cons nil") => `(tactic| k_extra "joinif")
local macro_rules | `(tactic| walk_at "compareOp Eq ref ref") => `(tactic| k_extra "eqL")
local macro_rules | `(tactic| walk_at "exec For Tuple Call cons nil") => `(tactic| (k_here; (rename Fr _ _ _ _ => lF'); (with_unfolding_all refine' For_invTF lF' ?_ ?k1; (case k1 => exact fun _ => rfl); k_whole)))
local macro_rules | `(tactic| walk_at "exec For Tuple Name cons nil") => `(tactic| (k_here; (rename Fr _ _ _ _ => lF'); (with_unfolding_all refine' For_invTF lF' ?_ ?k1; (case k1 => exact fun _ => rfl); k_whole)))
local macro_rules | `(tactic| walk_at "PostP next") => `(tactic| (k_dflt (show InvEndG _ _ _ _ _ _)))
local macro_rules | `(tactic| walk_at "subscriptTail Name Constant ref int") => `(tactic| ((with_reducible show wpAny _ _ (subscriptTail (Expr.Name (Str.ofString "places") _) _ _ _) _ _ _); k_extra "item0"))
local macro_rules | `(tactic| walk_at "subscriptTail Subscript Name") => `(tactic| k_extra "snd")
local macro_rules | `(tactic| walk_at "compareOp Eq int int") => `(tactic| k_extra "eq")
local macro_rules | `(tactic| walk_at "GrownAll") => `(tactic| k_extra "grown")
local macro_rules | `(tactic| walk_at "compareOp NotEq int int") => `(tactic| k_extra "ne")
local macro_rules | `(tactic| walk_at "InvEndG") => `(tactic| k_extra "endG")
local macro_rules | `(tactic| walk_at "call builtin:len") => `(tactic| k_extra "len")
local macro_rules | `(tactic| walk_at "pyIter ref") => `(tactic| k_extra "myiter")
local macro_rules | `(tactic| walk_at "subscriptTail Name Slice ref ref") => `(tactic| k_extra "cut")
local macro_rules | `(tactic| walk_at "subscriptTail Name Name ref int") => `(tactic| k_extra "item")
local macro_rules | `(tactic| walk_at "call builtin:list.append") => `(tactic| k_extra "append")
local macro_rules | `(tactic| walk_at "exec For Name Call cons nil") => `(tactic| (k_here; (rename Fr _ _ _ _ => lF'); (with_unfolding_all refine' For_invVF lF' ?k1 ?k2 ?_; (case k1 => exact rfl); (case k2 => exact rfl); k_whole)))
set_option maxRecDepth 100000 in
set_option maxHeartbeats 8000000 in
theorem X : PySem.Challenge.rw_dn0134_09.Holds := hd (by
  w_top off
  k_with_none
  k_with "abs" => (first
    | ((with_reducible show wpAny _ _ (storeName _ (Str.ofString "base") _) _ _ _); (with_reducible refine' abs_store ?ka ?_); (case ka => bits_by_make); intro base abase hbase bbase)
    | ((with_reducible show wpAny _ _ (storeName _ (Str.ofString "above") _) _ _ _); (with_reducible refine' abs_store ?ka ?_); (case ka => bits_by_make); intro above aabove habove babove)
    | ((have := hT2); (with_reducible show wpAny _ _ (storeName _ (Str.ofString "number") _) _ _ _); (with_reducible refine' abs_store ?ka ?_); (case ka => bits_by_make); intro nx anx hnx bnx)
    | ((have := hT3); (with_reducible show wpAny _ _ (storeName _ (Str.ofString "weight") _) _ _ _); (with_reducible refine' abs_store ?ka ?_); (case ka => bits_by_make); intro wv awv hwv bwv)
    | ((with_reducible show wpAny _ _ (storeName _ (Str.ofString "weight") _) _ _ _); (with_reducible refine' abs_store ?ka ?_); (case ka => bits_by_make); intro w0 aw0 hw0 bw0)
    | ((with_reducible refine' abs_store ?ka ?_); (case ka => bits_by_make); intro z az hz bz))
  k_with "cut" => (first
    | ((have := hT3); (rename Fr _ _ _ _ => lF9); (rename News _ _ _ _ => lN9); k_dflt (refine' tail9 lF9 lN9 (.head _) ?_ ?hs ?hg; (case hs => with_unfolding_all rfl); (case hg => kmk_pure)); intro Dt h' F' N' lDt; clear lF9 lN9)
    | ((fail_if_success (have := hSc)); k_dflt (refine' cutL_upto ?qF ?qN ?ql ?qi ?qx ?qz ?_ ?qs; (case qF => k_asm); (case qN => k_asm); (case ql => kmk_list); (case qi => l_ints); (case qs => with_unfolding_all rfl); (case qx => omega); (case qz => first | omega | (simp only [List.length_append, List.length_cons, List.length_nil, List.length_drop]; omega))); intro Dsc wsc h' F' N' lsc hIc; (try k_lt lsc); (obtain ⟨sc, hSc, lsc2, bsc⟩ := gen9 hIc (by decide) (by assumption)); clear hIc))
  k_with "item" => (first
    | ((have := hT4); (with_reducible show wpAny _ _ (subscriptTail (Expr.Name (Str.ofString "weights") _) _ _ _) _ _ _)
       k_dflt (refine' itemD9 ?zN ?zm hWn ?za ?zb ?zc ?_; (case zN => k_asm); (case zm => k_mem); (case za => omega); (case zb => (rw [hWl]; omega)); (case zc => (rw [hWl]; omega)))
       intro ti
       (obtain ⟨wi, hwi9⟩ : ∃ z, z = wn.getD at4.toNat 0 := ⟨_, rfl⟩)
       rw [← hwi9]
       (have hwi : wi = wt9 (S.take (S.length - 1 - iI)) := (by rw [hwi9, hWs, hk1]; exact W9_at (by omega)))
       (have hwb := wi_b hwi hPl.ok hSl)
       have w1i : 1 ≤ wi := hwb.1
       have bwi : intBits wi ≤ 60000 := hwb.2
       have awi : Abs wi := .mk)
    | ((have := hT4); (with_reducible show wpAny _ _ (subscriptTail (Expr.Name (Str.ofString "places") _) _ _ _) _ _ _)
       k_dflt (refine' pair_item ?zN ?zm hPl.dat (j := S.length - 1 - iI) ?zj hkb ?zz ?_; (case zN => k_asm); (case zm => k_mem); (case zj => omega); (case zz => omega))
       intro ap cap tp1 tp2 hap)
    | k_dflt (refine' itemD9 ?zN ?zm hSc ?za ?zb ?zc ?_; (case zN => k_asm); (case zm => k_mem); (case za => omega); (case zb => omega); (case zc => omega)); intro ti; (have hbi := getD_all9 bsc (k := at1.toNat) (by omega)); (obtain ⟨xi, hxi⟩ : ∃ z, z = sc.getD at1.toNat 0 := ⟨_, rfl⟩); rw [← hxi] at hbi ⊢; have axi : Abs xi := .mk)
  k_with "len" => (first
    | ((have := hDm); k_dflt (refine' kst_len (k := S.length) ?zN ?zm ?ze ?zf ?_; (case ze => exact hPl.len); (case zN => k_asm); (case zm => k_mem); (case zf => omega)))
    | k_dflt (refine' kst_len (k := sc.length) ?zN ?zm ?ze ?zf ?_; (case ze => exact hSc.length); (case zN => k_asm); (case zm => k_mem); (case zf => omega)))
  k_with "mycall" => (first
    | ((with_reducible show wpAny _ _ (call (Value.ref 56) _ _) _ _ _)
       (fail_if_success (have := hSc))
       k_dflt (refine' cell_c _ _ _ _ (ns := _) ?ki ?kl ?kb ?kus ?kz ?k1 ?k2 ?k3 ?k4 ?kls ?k5 ?kK ?kd ?ku ?_)
       (case k1 => k_dflt k_asm)
       (case k2 => k_dflt k_asm)
       (case k3 => k_dflt k_asm)
       (case k4 => k_dflt k_asm)
       (case k5 => k_dflt k_asm)
       (case kls => assumption)
       (case ki => l_ints)
       (case kl => omega)
       (case kb => assumption)
       (case kus => decide)
       (case kz => decide)
       (case kK => exact rfl)
       (case kd => ktr_room)
       (case ku => ktr_units)
       intro cz tc h' tk' hcb F' N'
       have acz : Abs cz := .mk
       (try dsimp only)
       (try k_fold))
    | ((with_reducible show wpAny _ _ (call (Value.ref 56) _ _) _ _ _)
       k_dflt (refine' cell2_c (c := 0) _ _ _ _ hSc ?kl bsc ?kus ?kz ?k1 ?k2 ?k3 ?k4 ?kls ?k5 ?kK ?kd ?ku ?_)
       (case k1 => k_dflt k_asm)
       (case k2 => k_dflt k_asm)
       (case k3 => k_dflt k_asm)
       (case k4 => k_dflt k_asm)
       (case k5 => k_dflt k_asm)
       (case kls => k_dflt k_mem)
       (case kl => omega)
       (case kus => decide)
       (case kz => omega)
       (case kK => exact rfl)
       (case kd => ktr_room)
       (case ku => ktr_units)
       intro cs tcs h' tk' hcs F' N'
       have acs : Abs cs := .mk
       (try dsimp only)
       (try k_fold))
    | ((with_reducible show wpAny _ _ (call (Value.ref 49) _ _) _ _ _)
       (have := hT3)
       (rename News _ _ _ _ => lN8)
       (obtain ⟨psI, hpsI⟩ := hTb.i.grown)
       (obtain ⟨psD, hpsD⟩ := hTb.d.grown)
       (have hOI : ∀ p ∈ kOwn, p.1 ≠ 30 := offhd kOff)
       (have hOD : ∀ p ∈ kOwn, p.1 ≠ 37 := fun p hp => offT kOff p hp)
       k_dflt (refine' dm_c _ _ _ _ (rest := _ :: _ :: (tl ++ kOwn)) r0 pb1 (Nat.le_trans br (by decide)) (Nat.le_trans bpb (by decide)) ?k1 ?k2 ?k3 lN8 ?k5 hCI hCD ?zrI ?zrD hTb.i hTb.d ?kK ?kd ?ku ?_)
       (case k1 => k_dflt k_asm)
       (case k2 => k_dflt k_asm)
       (case k3 => k_dflt k_asm)
       (case k5 => k_dflt k_asm)
       (case zrI => (subst hpsI; exact rest9 hPl lN8 (.inl rfl) (by refine neN ?_; (try dsimp only); omega) (by refine neN ?_; (try dsimp only); omega) hOI))
       (case zrD => (subst hpsD; exact rest9 hPl lN8 (.inr rfl) (by refine neN ?_; (try dsimp only); omega) (by refine neN ?_; (try dsimp only); omega) hOD))
       (case kK => exact rfl)
       (case kd => ktr_room)
       (case ku => ktr_units)
       intro XI2 Ci2 YI2 XD2 Cd2 YD2 Dp t1 t2 cp h' tk' hTI2 hTD2 F' N' lD
       (obtain ⟨qq, hqq⟩ : ∃ q, q = rest / pb := ⟨_, rfl⟩)
       (rw [← hqq, (kInv.dm hPl.ok kGet).2] at N')
       have aqq : Abs qq := .mk
       (try dsimp only)
       (try k_fold))
    | ((with_reducible show wpAny _ _ (call (Value.ref 49) [Value.int number _, _] _) _ _ _)
       (have := hL3)
       (rename News _ _ _ _ => lN8)
       (have lN7 := News.nilR (sub9a lN8))
       (obtain ⟨psI, hpsI⟩ := hTb.i.grown)
       (obtain ⟨psD, hpsD⟩ := hTb.d.grown)
       k_dflt (refine' dm_c _ _ _ _ (rest := _ :: _ :: (tl ++ [])) (up9_nn hnum hab9.1 hPl.ok) w1 (Nat.le_trans bnum (by decide)) (Nat.le_trans bw (by decide)) ?k1 ?k2 ?k3 lN7 ?k5 hCI hCD ?zrI ?zrD hTb.i hTb.d ?kK ?kd ?ku ?_)
       (case k1 => k_dflt k_asm)
       (case k2 => k_dflt k_asm)
       (case k3 => k_dflt k_asm)
       (case k5 => k_dflt k_asm)
       (case zrI => (subst hpsI; exact rest9 hPl lN7 (.inl rfl) (by refine neN ?_; (try dsimp only); omega) (by refine neN ?_; (try dsimp only); omega) (List.forall_mem_nil _)))
       (case zrD => (subst hpsD; exact rest9 hPl lN7 (.inr rfl) (by refine neN ?_; (try dsimp only); omega) (by refine neN ?_; (try dsimp only); omega) (List.forall_mem_nil _)))
       (case kK => exact rfl)
       (case kd => ktr_room)
       (case ku => ktr_units)
       clear lN8 lN7
       intro XI3 Ci3 YI3 XD3 Cd3 YD3 Dp3 t13 t23 cp3 h' tk' hTI3 hTD3 F' N' lD3
       have hDm : True := True.intro
       (have hla := kInv.last hPl.ok hnum)
       (obtain ⟨r3, hr3⟩ : ∃ q, q = number % weight := ⟨_, rfl⟩)
       (rw [hla.1, ← hr3] at N')
       (have hLo := Lo9.start (hr3.trans hla.2))
       (obtain ⟨r30, br3⟩ := hLo.bounds hPl.ok hSl)
       have ar3 : Abs r3 := .mk
       (try dsimp only)
       (try k_fold))
    | ((with_reducible show wpAny _ _ (call (Value.ref 49) _ _) _ _ _)
       (have := hT4)
       (rename News _ _ _ _ => lN8)
       (obtain ⟨psI, hpsI⟩ := hTb4.i.grown)
       (obtain ⟨psD, hpsD⟩ := hTb4.d.grown)
       (have hOI : ∀ p ∈ kOwn, p.1 ≠ 30 := offhd kOff)
       (have hOD : ∀ p ∈ kOwn, p.1 ≠ 37 := fun p hp => offT kOff p hp)
       k_dflt (refine' dm_c _ _ _ _ (rest := _ :: _ :: (tl ++ kOwn)) r0 w1i (Nat.le_trans br (by decide)) (Nat.le_trans bwi (by decide)) ?k1 ?k2 ?k3 lN8 ?k5 hCI hCD ?zrI ?zrD hTb4.i hTb4.d ?kK ?kd ?ku ?_)
       (case k1 => k_dflt k_asm)
       (case k2 => k_dflt k_asm)
       (case k3 => k_dflt k_asm)
       (case k5 => k_dflt k_asm)
       (case zrI => (subst hpsI; exact rest9 hPl lN8 (.inl rfl) (by refine neN ?_; (try dsimp only); omega) (by refine neN ?_; (try dsimp only); omega) hOI))
       (case zrD => (subst hpsD; exact rest9 hPl lN8 (.inr rfl) (by refine neN ?_; (try dsimp only); omega) (by refine neN ?_; (try dsimp only); omega) hOD))
       (case kK => exact rfl)
       (case kd => ktr_room)
       (case ku => ktr_units)
       intro XI4 Ci4 YI4 XD4 Cd4 YD4 Dp4 t14 t24 cp4 h' tk' hTI4 hTD4 F' N' lD4
       (obtain ⟨q4, hq4⟩ : ∃ q, q = rest % wi := ⟨_, rfl⟩)
       (rw [(kInv.dm hPl.ok kLtI rfl hkb hwi).1, ← hq4] at N')
       have aq4 : Abs q4 := .mk
       (try dsimp only)
       (try k_fold)))
  k_with "myiter" => (first
    | ((fail_if_success (have := hL1))
       (rename Fr _ _ _ _ => lF')
       (rename News _ _ _ _ => lN')
       (rename IsRange _ _ _ _ _ _ _ _ => rgX)
       obtain ⟨n9, hn9⟩ := rs9e (l := sc.length)
       (have hrs := rs9 hn9 lsc2)
       (with_unfolding_all refine' kx_range (n := n9) (σ := List Value × Nat × List (Addr × Obj) × List (Int × Int)) (fun c => (_, listOf (List.toArray c.1) c.2.1) :: (Dsc, listOf (List.toArray wsc) 0) :: (37, tabObj #[]) :: (30, tabObj #[]) :: c.2.2.1) (fun _ => []) (fun c => Pl c.2.2.1 c.1 c.2.2.2) [Str.ofString "base"] (fun i c => c.2.2.2.length = i) ([], 0, [], []) (by rfl) rgX (small9 lsc2) hn9 lF' lN' Pl.nil (List.forall_mem_nil _) rfl ?_ ?_)
       (all_goals (try clear lF' lN'))
       rotate_left
       (
         rintro ⟨us, uc, tl, S⟩ kU kH kTk hPl hSl kFr kNews
         have hL1 : True := True.intro
         have kMark := kstMark
         dsimp only [kstB] at kFr
         dsimp only at kNews hPl hSl)
       rotate_left
       (
         rintro ⟨us, uc, tl, S⟩ iI at1 kT kU kH kTk kOwn kLtI kAt kIo kOff hPl hSl kFr kNews
         have hL1 : True := True.intro
         have hT1 : True := True.intro
         have kMark := kstMark
         dsimp only [kstB] at kFr
         dsimp only at kNews hPl hSl kOff
         (have hat := hrs.2 iI kLtI)
         (rw [← kAt] at hat)
         have aat : Abs at1 := .mk)
       (all_goals (try dsimp only))
       (all_goals (try k_fold)))
    | ((have := hab9)
       (fail_if_success (have := hL2))
       (rename Fr _ _ _ _ => lF')
       (rename News _ _ _ _ => lN')
       (with_unfolding_all refine' kxp_rev (S := S) (tl := tl) (us := us) (nn := uc) (l := Pa) (σ := Int × Tok) (fun _ => (Pa, listOf (List.toArray us) uc) :: (Dsc, listOf (List.toArray wsc) 0) :: (37, tabObj #[]) :: (30, tabObj #[]) :: tl) (fun c => [(Str.ofString "number", Value.int c.1 c.2)]) (fun _ => True) [Str.ofString "base"] (fun i c => Up9 S above i c.1) (above, _) (by rfl) (by rfl) (by rfl) (by rfl) (fun _ => .head _) hPl.dat (fun _ p hp => .tail _ (.tail _ (.tail _ (.tail _ hp)))) lF' (fun p hp => lN' p (.tail _ hp)) lN' (.head _) ?koff True.intro ?kk Up9.start ?_ ?_)
       (case koff => k_dflt (k_all))
       (case kk => kst_all)
       (all_goals (try clear lF' lN'))
       rotate_left
       (
         rintro ⟨number, tnum⟩ kU kH kTk kFacts kInv kFr kNews
         have hL2 : True := True.intro
         have kMark := kstMark
         dsimp only [kstB] at kFr
         dsimp only at kNews kInv
         (have hnum := kInv.done)
         (have bnum := kInv.bits hab9.2 hPl.ok hSl)
         have anum : Abs number := .mk)
       rotate_left
       (
         rintro ⟨number, tnum⟩ iI pb pdg tpb tpd kU kH kG kDr kTk kOs kOwn kLt kGet kIo kOff kFacts kInv kFr kNews
         have hL2 : True := True.intro
         have hT2 : True := True.intro
         have kMark := kstMark
         dsimp only [kstB] at kFr
         dsimp only at kNews kInv kOff
         (have hok := hPl.ok _ (List.mem_of_getElem? kGet))
         have bpb : intBits pb ≤ 4600 := hok.bb
         have bpd : intBits pdg ≤ 4600 := hok.bd
         (have bnum := kInv.bits hab9.2 hPl.ok hSl)
         have anum : Abs number := .mk
         have apb : Abs pb := .mk
         have apd : Abs pdg := .mk)
       (all_goals (try dsimp only))
       (all_goals (try k_fold)))
    | ((have := hnum)
       (fail_if_success (have := hL3))
       (rename Fr _ _ _ _ => lF')
       (rename News _ _ _ _ => lN')
       (with_unfolding_all refine' kxp_list (S := S) (tl := tl) (us := us) (nn := uc) (l := Pa) (σ := St9) (fun c => (30, c.XI) :: (c.Ci, c.YI) :: (37, c.XD) :: (c.Cd, c.YD) :: (_, listOf (List.toArray c.ws) c.wc) :: (Pa, listOf (List.toArray us) uc) :: tl) (fun c => [(Str.ofString "rest", Value.int c.r c.tr), (Str.ofString "weight", Value.int c.w c.tw)]) (fun c => Tb9 c.XI c.Ci c.YI c.XD c.Cd c.YD ∧ IntsAre c.ws c.wn) [Str.ofString "base", Str.ofString "told"] (fun i c => Dn9 S above i c.r c.w c.wn) ⟨tabObj #[], 30, tabObj #[], tabObj #[], 37, tabObj #[], [], 0, [], number, _, w0, _⟩ (by rfl) (by rfl) (by rfl) (by rfl) (fun _ => .tail _ (.tail _ (.tail _ (.tail _ (.tail _ (.head _)))))) hPl.dat (fun _ p hp => .tail _ (.tail _ (.tail _ (.tail _ (.tail _ (.tail _ hp)))))) lF' (sub9 lN') ⟨Tb9.start, .nil⟩ ?kk (hw0 ▸ Dn9.start hnum) ?_ ?_)
       (case kk => kst_all)
       (all_goals (try clear lF' lN'))
       rotate_left
       (
         rintro ⟨XI, Ci, YI, XD, Cd, YD, wsv, wc, wn, rest, trest, weight, tweight⟩ kU kH kTk kFacts kInv kFr kNews
         have hL3 : True := True.intro
         have kMark := kstMark
         dsimp only [kstB] at kFr
         dsimp only at kNews kInv kFacts
         obtain ⟨hTb, hWn⟩ := kFacts
         (obtain ⟨r0, br, w1, bw⟩ := kInv.bounds hab9.1 hab9.2 hPl.ok hSl)
         have hWs := kInv.ws
         have hWl : wn.length = S.length := (by rw [hWs, W9_len])
         have arest : Abs rest := .mk
         have aweight : Abs weight := .mk)
       rotate_left
       (
         rintro ⟨XI, Ci, YI, XD, Cd, YD, wsv, wc, wn, rest, trest, weight, tweight⟩ iI pb pdg tpb tpd kU kH kG kDr kTk kOs kOwn kGet kIo kOff kFacts kInv kFr kNews
         have hL3 : True := True.intro
         have hT3 : True := True.intro
         have kMark := kstMark
         dsimp only [kstB] at kFr
         dsimp only at kNews kInv kOff kFacts
         simp only [List.cons_append] at kNews
         obtain ⟨hTb, hWn⟩ := kFacts
         (obtain ⟨r0, br, w1, bw⟩ := kInv.bounds hab9.1 hab9.2 hPl.ok hSl)
         (have kLt3 : iI < S.length := (List.getElem?_eq_some_iff.mp kGet).1)
         (have hok := hPl.ok _ (List.mem_of_getElem? kGet))
         have pb1 : 1 ≤ pb := hok.b1
         have bpb : intBits pb ≤ 4600 := hok.bb
         have bpd : intBits pdg ≤ 4600 := hok.bd
         have arest : Abs rest := .mk
         have aweight : Abs weight := .mk
         have apb : Abs pb := .mk
         have apd : Abs pdg := .mk)
       (all_goals (try dsimp only))
       (all_goals (try k_fold)))
    | ((have := hDm)
       (fail_if_success (have := hL4))
       (rename Fr _ _ _ _ => lF')
       (rename News _ _ _ _ => lN')
       (rename IsRange _ _ _ _ _ _ _ _ => rgX)
       (with_unfolding_all refine' kx_range (n := S.length) (σ := St9) (fun c => (30, c.XI) :: (c.Ci, c.YI) :: (37, c.XD) :: (c.Cd, c.YD) :: (_, listOf (List.toArray wsv) wc) :: (Pa, listOf (List.toArray us) uc) :: tl) (fun c => [(Str.ofString "rest", Value.int c.r c.tr)]) (fun c => Tb9 c.XI c.Ci c.YI c.XD c.Cd c.YD) [Str.ofString "told"] (fun j c => Lo9 S j c.r) ⟨XI3, Ci3, YI3, XD3, Cd3, YD3, [], 0, [], r3, _, 0, 0⟩ (by rfl) rgX (smallD9 hSl) rsD9 lF' (sub9c lN') ⟨hTI3.toS, hTD3.toS⟩ ?kk hLo ?_ ?_)
       (case kk => kst_all)
       (all_goals (try clear lF' lN'))
       rotate_left
       (
         rintro ⟨XI, Ci, YI, XD, Cd, YD, ws0, wc0, wn0, rest, trest, w00, tw00⟩ kU kH kTk hTb4 kInv kFr kNews
         have hL4 : True := True.intro
         have hD4 : True := True.intro
         have kMark := kstMark
         dsimp only [kstB] at kFr
         dsimp only at kNews kInv hTb4
         have arest : Abs rest := .mk)
       rotate_left
       (
         rintro ⟨XI, Ci, YI, XD, Cd, YD, ws0, wc0, wn0, rest, trest, w00, tw00⟩ iI at4 kT kU kH kTk kOwn kLtI kAt kIo kOff hTb4 kInv kFr kNews
         have hL4 : True := True.intro
         have hT4 : True := True.intro
         have kMark := kstMark
         dsimp only [kstB] at kFr
         dsimp only at kNews kInv kOff hTb4
         simp only [List.cons_append] at kNews
         (obtain ⟨hk1, hk0, hk2⟩ := idx9 kLtI kAt)
         (obtain ⟨r0, br⟩ := kInv.bounds hPl.ok hSl)
         (obtain ⟨⟨pb, pdg⟩, hkb⟩ : ∃ p, S[S.length - 1 - iI]? = some p := ⟨_, List.getElem?_eq_getElem (by omega)⟩)
         (have hok := hPl.ok _ (List.mem_of_getElem? hkb))
         have bpd : intBits pdg ≤ 4600 := hok.bd
         have arest : Abs rest := .mk
         have aat4 : Abs at4 := .mk
         have apd : Abs pdg := .mk)
       (all_goals (try dsimp only))
       (all_goals (try k_fold))))
  k_with "append" => (first
    | ((have := hT3)
       (rename News _ _ _ _ => lN9)
       (rename Fr _ _ _ _ => lF9)
       k_dflt (refine' app9w (tl := tl) (own := kOwn) hPl lF9 lN9 hTI2 hTD2 ?h1 ?h2 ?h3 (offW kOff) ?zz ?_)
       (case h1 => (refine neN ?_; (try dsimp only); omega))
       (case h2 => (refine neN ?_; (try dsimp only); omega))
       (case h3 => (refine neN ?_; (try dsimp only); omega))
       (case zz => (rw [hWn.length, kInv.ws, W9_len]; omega))
       clear lN9 lF9
       intro h' F' N'
       (try dsimp only)
       (try k_fold))
    | ((fail_if_success (have := hL2))
       (rename News _ _ _ _ => lN9)
       (rename (∀ p : Addr × Obj, _ → @LT.lt Nat _ p.1 _) => hlt9)
       simp only [List.cons_append] at lN9 hlt9
       k_dflt (refine' append_9 (pre := [_]) (post := _ :: _ :: _ :: (tl ++ kOwn)) ?zF lN9 ?h1 ?h2 ?zz ?_)
       (case zF => k_dflt k_asm)
       (case h1 => k_dflt (exact List.forall_mem_cons.mpr ⟨(Nat.ne_of_gt (hlt9 _ (.head _))), List.forall_mem_nil _⟩))
       (case h2 => k_dflt (exact app9h hPl lN9 (by refine neN ?_; (try dsimp only); omega) (by refine neN ?_; (try dsimp only); omega) (by refine neN ?_; (try dsimp only); omega) kOff))
       (case zz => (rw [hPl.len]; omega))
       (have hOw : ∀ p ∈ kOwn, @LT.lt Nat _ p.1 _ := fun p hp => hlt9 p (by k_dflt (exact .tail _ (.tail _ (.tail _ (.tail _ (List.mem_append_right _ hp)))))))
       clear lN9 hlt9
       intro h' F' N'
       (try dsimp only)
       (try k_fold)))
  k_with "endG" => (first
    | ((have := hT1)
       (rename News _ _ _ _ => nE')
       (rename Fr _ _ _ _ => fE')
       (apply end9a (us := us) (uc := uc) (tl := tl) (S := S))
       (case F => k_dflt (exact fE'))
       (case N => k_dflt (exact nE'))
       (case hLed => k_dflt (exact fun _ _ _ _ => rfl))
       (case ho => k_dflt (exact kOff))
       (case hD => k_dflt (exact hOw))
       (case hf => k_dflt (exact hPl.snoc (ok9_new hfar lom him hxm hbase hdg)))
       (case hr => kst_same)
       (case hp => k_dflt (simp [hSl])))
    | ((have := hT2)
       (rename News _ _ _ _ => nE')
       (rename Fr _ _ _ _ => fE')
       (apply kx_end (nx, _))
       (case F => k_dflt (exact fE'))
       (case N => k_dflt (exact nE'))
       (case hn => k_dflt (exact fun p hp => List.mem_append_left _ hp))
       (case ho => k_dflt (exact fun p hp => List.mem_append_right _ hp))
       (case ha => k_dflt (exact kOff))
       (case hf => exact True.intro)
       (case hk => kst_all)
       (case hr => kst_same)
       (case hp => k_dflt (exact kInv.turn kLt kGet hnx)))
    | ((have := hT3)
       (rename News _ _ _ _ => nE')
       (rename Fr _ _ _ _ => fE')
       (apply kx_end ⟨XI2, Ci2, YI2, XD2, Cd2, YD2, wsv ++ [Value.int weight tweight], wc + 1, wn ++ [weight], qq, _, wv, _⟩)
       (case F => k_dflt (exact fE'))
       (case N => k_dflt (exact nE'))
       (case hn => k_dflt (exact hnz9))
       (case ho => k_dflt (exact hoz9))
       (case ha => k_dflt (exact oo9 kOff (fun p hp => hTI2.toS.offI nE' (.tail _ (.head _)) (hoz9 p hp) (kIo p hp) (hOI p hp)) (fun p hp => hTD2.toS.offI nE' (.tail _ (.tail _ (.tail _ (.head _)))) (hoz9 p hp) (kIo p hp) (hOD p hp))))
       (case hf => k_dflt (exact ⟨⟨hTI2.toS, hTD2.toS⟩, hWn.append (.cons _ _ .nil)⟩))
       (case hk => kst_all)
       (case hr => kst_same)
       (case hp => k_dflt (exact kInv.turn hPl.ok kGet hqq hwv)))
    | ((have := hT4)
       (rename News _ _ _ _ => nE')
       (rename Fr _ _ _ _ => fE')
       (apply kx_end ⟨XI4, Ci4, YI4, XD4, Cd4, YD4, [], 0, [], q4, _, 0, 0⟩)
       (case F => k_dflt (exact fE'))
       (case N => k_dflt (exact (sub9b nE')))
       (case hn => k_dflt (exact hnz9))
       (case ho => k_dflt (exact hoz9))
       (case ha => k_dflt (exact oo9 kOff (fun p hp => hTI4.toS.offI (sub9b nE') (.tail _ (.head _)) (hoz9 p hp) (kIo p hp) (hOI p hp)) (fun p hp => hTD4.toS.offI (sub9b nE') (.tail _ (.tail _ (.tail _ (.head _)))) (hoz9 p hp) (kIo p hp) (hOD p hp))))
       (case hf => k_dflt (exact ⟨hTI4.toS, hTD4.toS⟩))
       (case hk => kst_all)
       (case hr => kst_same)
       (case hp => k_dflt (exact kInv.turn hPl.ok kLtI rfl hkb hwi hq4))))
  k_with "eqL" => (
    (rename News _ _ _ _ => lN9)
    k_dflt (refine' eq_nil9 lN9 (.tail _ (.head _)) (.head _) hPl ?hs ?hu ?_)
    (case hs => k_dflt (exact fun p hp => .tail _ (.tail _ (.tail _ (.tail _ (.tail _ hp))))))
    (case hu => ke_room))
  k_with "joinif" => (
    (with_reducible show wpAny _ _ (exec (Stmt.If (Expr.Compare (Expr.Name (Str.ofString "places") _) _ _ _) _ _ _) _) _ _ _)
    (fail_if_success (have := hjoined))
    (rename Fr _ _ _ _ => lF')
    (rename News _ _ _ _ => lN')
    (with_unfolding_all refine' join_9 lF' (news_sub lN' (List.forall_mem_cons.mpr ⟨.tail _ (.head _), List.forall_mem_cons.mpr ⟨.tail _ (.tail _ (.head _)), List.forall_mem_cons.mpr ⟨.tail _ (.tail _ (.tail _ (.head _))), List.forall_mem_nil _⟩⟩⟩)) ?kh1 ?_)
    (case kh1 => (
      intro Q' hQ'
      have hjoined : True := True.intro
      k_dflt (k_steps)
      all_goals (first
        | ((rename News _ _ _ _ => lN9)
           (refine' hQ' _ us uc tl S _ _ hPl (by omega) ?kl ?kfr ?knews)
           (case kfr => (exact fr_sameV (name := Str.ofString "places") (by k_dflt k_asm) (by with_unfolding_all rfl)))
           (case knews => with_unfolding_all exact fun p hp => lN9 p (.tail _ hp))
           (case kl => omega))
        | ((rename News _ _ _ _ => lN9)
           (refine' hQ' _ _ _ _ _ _ _ (pl3 ?o1 ?o2 ?o3) ?ks ?kl ?kfr ?knews)
           (case kfr => k_dflt k_asm)
           (case knews => (with_unfolding_all exact news_sub lN9 (List.forall_mem_cons.mpr ⟨by k_mem, by (repeat' (first | exact List.forall_mem_nil _ | (refine List.forall_mem_cons.mpr ⟨by k_mem, ?_⟩)))⟩)))
           (case kl => omega)
           (case ks => k_dflt (show 3 ≤ 11; decide))
           (case o1 => (exact ok9_lit hfar lom him (by omega) (by omega)))
           (case o2 => (exact ok9_lit hfar lom him (by omega) (by omega)))
           (case o3 => (exact ok9_lit hfar lom him (by omega) (by omega)))))))
    intro Pa us uc tl S h' tk' hPl hSl hPa F' N'
    have hjoined : True := True.intro
    have hjoined2 : True := True.intro
    (try dsimp only)
    (try k_fold))
  k_with "ne" => (first
    | ((have := hL3); (fail_if_success (have := hDm)); refine ne_f ?ka ?_; (case ka => exact kInv.rest))
    | (refine ne_f ?ka ?_; (case ka => exact rfl)))
  k_with "item0" => (
    (have := hT4)
    (have h00 : S.length - 1 - iI = 0 := (by omega))
    (have hk0b : S[0]? = some (pb, pdg) := (by rw [← h00]; exact hkb))
    k_dflt (refine' pair_item (k := 0) ?zN ?zm hPl.dat (j := 0) ?zj hk0b ?zz ?_; (case zN => k_asm); (case zm => k_mem); (case zj => exact rfl); (case zz => omega))
    intro ap cap tp1 tp2 hap)
  k_with "snd" => (
    (rename News _ _ _ _ => lN9)
    k_dflt (refine' snd9 lN9 ?zm ?_)
    (case zm => k_dflt (first | exact memT1 hap | exact memT0 hap)))
  k_with "eq" => (first
    | ((have := hD4); refine eq_t ?ka ?_; (case ka => exact kInv.fin))
    | ((have := hk0b); refine eq_t ?ka ?_; (case ka => exact kInv.first kLtI h00.symm hk0b)))
  k_with "grown" => (first
    | (obtain ⟨psI, hpI⟩ := hTb4.i.grown
       obtain ⟨psD, hpD⟩ := hTb4.d.grown
       subst hpI
       subst hpD
       (k_dflt (refine And.intro (GrownAt.of (by k_asm) (by k_mem)) (And.intro (GrownAt.of (by k_asm) (by k_mem)) True.intro)))))
  k_with "introP" => (intro far afar hfar far0 bfar)
  k_with "introM" => (first
    | ((fail_if_success (have := hSc)); intro zm am hzm lom him bzm)
    | ((have := hjoined2); (fail_if_success (have := hab9)); intro above aabove habove above0 above1 babove; (have hab9 := above9 hfar lom him habove))
    | ((fail_if_success (have := hbase)); intro xm axm hxm loxm hixm bxm)
    | (intro dg adg hdg lodg hidg bdg))
  k_with "pos" => (first | omega)
  k_go0
  (all_goals try k_fold)
  (rename Top topProg _ _ _ _ _ => zT')
  have zT0 := top0_of (by assumption) (by assumption) (by decide +kernel) zT'
  clear zT'
  have hCI : CodeHd _ 34 30 := (by assumption)
  have hCD : CodeHd _ 41 37 := (by assumption)
  k_steps)
end Mine
theorem PySem.Challenge.cw_dn0134_09_holds : PySem.Challenge.rw_dn0134_09.Holds :=
  Mine.X
