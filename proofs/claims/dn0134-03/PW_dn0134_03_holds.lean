import PyProof.Rows.All
import Wide.All
import OpenK.AllK
import Wide.FinOn
import PySem.Challenge.RW_dn0134_03
open PySem PySem.W PyProof.Rows
set_option Elab.async false
namespace Mine
open PySem.Builtin.Int (intBits)

theorem ppos (k : Nat) : (0 : Int) < 2 ^ k := kbt_pos k
theorem pmono {i j : Nat} (h : i ≤ j) : (2 : Int) ^ i ≤ 2 ^ j := by
  have := Nat.pow_le_pow_right (n := 2) (by decide) h
  rw [← kbt_cast, ← kbt_cast]; omega
theorem uniqNN {q b r q' r' : Int} (h : q * b + r = q' * b + r') (r0 : 0 ≤ r) (r1 : r < b) (r0' : 0 ≤ r') (r1' : r' < b) : q = q' ∧ r = r' := by
  have hb : 0 < b := by omega
  have h1 := kbt_unique (a := q * b + r) (b := b) (q := q) (r := r) hb (by rw [Int.mul_comm b q]; omega) r0 r1
  have h2 := kbt_unique (a := q * b + r) (b := b) (q := q') (r := r') hb (by rw [Int.mul_comm b q']; omega) r0' r1'
  exact ⟨h1.1.symm.trans h2.1, h1.2.symm.trans h2.2⟩
theorem mul_le_of {a b c : Int} (hc : 0 ≤ c) (h : a ≤ b) : a * c ≤ b * c := Int.mul_le_mul_of_nonneg_right h hc
theorem mul_lt_of {a b c : Int} (hc : 0 < c) (h : a < b) : a * c < b * c := Int.mul_lt_mul_of_pos_right h hc
theorem lt_of_mul {a b c : Int} (hc : 0 < c) (h : a * c < b * c) : a < b := Int.lt_of_mul_lt_mul_right h (Int.le_of_lt hc)
theorem bits_of_lt {x : Int} {k : Nat} (h0 : 0 ≤ x) (h : x < 2 ^ k) : intBits x ≤ k := by
  refine intBits_le_iff.mpr ?_
  have := kbt_cast k
  omega
theorem lt_of_bits {x : Int} {k : Nat} (h : intBits x ≤ k) : x < 2 ^ k := by
  have h1 := intBits_le_iff.mp h
  have := kbt_cast k
  omega
theorem fdivP (a : Int) (k : Nat) : a.fdiv (2 ^ k) = a / 2 ^ k := Int.fdiv_eq_ediv_of_nonneg _ (Int.le_of_lt (kbt_pos k))
theorem and_all (x : Int) : Builtin.bitAnd x (-1) = x := by
  have hn : ¬ (0 : Int) ≤ -1 := by decide
  have e : (Builtin.bitNot (-1)).toNat = 0 := by decide
  by_cases hx : 0 ≤ x
  · rw [bitAnd_pn hx hn, e, Nat.and_zero]; simp
  · rw [bitAnd_nn hx hn, e, Nat.or_zero]
    unfold Builtin.bitNot
    omega
/-- the bits of the one and of the other -/
theorem or_add {x y : Int} {k : Nat} (y0 : 0 ≤ y) (y1 : y < 2 ^ k) : Builtin.bitOr (x * 2 ^ k) y = x * 2 ^ k + y := by
  have hp := kbt_pos k
  have key : ∀ k : Nat, ∀ x y : Int, 0 ≤ y → y < 2 ^ k → Builtin.bitAnd (Builtin.bitNot (x * 2 ^ k)) (Builtin.bitNot y) = Builtin.bitNot (x * 2 ^ k + y) := by
    intro k
    induction k with
    | zero =>
      intro x y h0 h1
      have : y = 0 := by rw [Int.pow_zero] at h1; omega
      subst this
      rw [Int.add_zero]
      have e : Builtin.bitNot 0 = -1 := rfl
      rw [e, and_all]
    | succ k ih =>
      intro x y h0 h1
      rw [Int.pow_succ] at h1
      rw [kbt_halves]
      have e1 : Builtin.bitNot (x * 2 ^ (k + 1)) / 2 = Builtin.bitNot (x * 2 ^ k) := by
        unfold Builtin.bitNot
        rw [Int.pow_succ, ← Int.mul_assoc]; omega
      have e2 : Builtin.bitNot y / 2 = Builtin.bitNot (y / 2) := by unfold Builtin.bitNot; omega
      rw [e1, e2, ih x (y / 2) (by omega) (by omega)]
      unfold Builtin.bitNot
      rw [Int.pow_succ, ← Int.mul_assoc]
      generalize x * 2 ^ k = z
      split <;> omega
  unfold Builtin.bitOr
  rw [key k x y y0 y1]
  unfold Builtin.bitNot; omega
end Mine
namespace Mine
open PySem.Builtin.Int (intBits)
structure Pre2 (a b n q r : Int) : Prop where
  n1 : 1 ≤ n
  e : a = q * b + r
  q0 : 0 ≤ q
  q1 : q < 2 ^ n.toNat
  r0 : 0 ≤ r
  r1 : r < b
  b1 : 2 ^ (n.toNat - 1) ≤ b
  b2 : b < 2 ^ n.toNat
structure Pre3 (a12 a3 b b1 b2 n q r : Int) : Prop where
  n1 : 1 ≤ n
  ea : a12 * 2 ^ n.toNat + a3 = q * b + r
  q0 : 0 ≤ q
  q1 : q < 2 ^ n.toNat
  r0 : 0 ≤ r
  r1 : r < b
  e : b = b1 * 2 ^ n.toNat + b2
  b10 : 2 ^ (n.toNat - 1) ≤ b1
  b11 : b1 < 2 ^ n.toNat
  b20 : 0 ≤ b2
  b21 : b2 < 2 ^ n.toNat
  a30 : 0 ≤ a3
  a31 : a3 < 2 ^ n.toNat
section
variable {a12 a3 b b1 b2 n q r : Int}
theorem Pre3.a12b (H : Pre3 a12 a3 b b1 b2 n q r) : 0 ≤ a12 ∧ a12 < b := by
  obtain ⟨n1, ea, q0, q1, r0, r1, e, b10, b11, b20, b21, a30, a31⟩ := H
  have hP := ppos n.toNat
  have hB := ppos (n.toNat - 1)
  generalize (2 : Int) ^ n.toNat = P at *
  have hb1 : 0 ≤ b1 * P := Int.mul_nonneg (by omega) (by omega)
  have hb : 0 < b := by omega
  constructor
  · have h0 : 0 ≤ q * b := Int.mul_nonneg q0 (by omega)
    have : (-1) * P < a12 * P := by omega
    have := lt_of_mul hP this
    omega
  · refine lt_of_mul hP ?_
    have h1 : (q + 1) * b ≤ P * b := mul_le_of (by omega) (by omega)
    rw [Int.add_mul, Int.one_mul, Int.mul_comm P b] at h1
    omega
theorem Pre3.eqCase (H : Pre3 a12 a3 b b1 b2 n q r) (h : a12 / 2 ^ n.toNat = b1) :
    (2 ^ n.toNat - 1) * b + ((a12 - b1 * 2 ^ n.toNat + b1) * 2 ^ n.toNat + a3 - (2 ^ n.toNat - 1) * b2) = q * b + r ∧
      (a12 - b1 * 2 ^ n.toNat + b1) * 2 ^ n.toNat + a3 - (2 ^ n.toNat - 1) * b2 < b ∧ 0 ≤ a12 - b1 * 2 ^ n.toNat + b1 ∧ a12 - b1 * 2 ^ n.toNat + b1 < 2 ^ (n.toNat + 1) := by
  have h2 := H.a12b
  obtain ⟨n1, ea, q0, q1, r0, r1, e, b10, b11, b20, b21, a30, a31⟩ := H
  have hP := ppos n.toNat
  have hB := ppos (n.toNat - 1)
  have hs : (2 : Int) ^ (n.toNat + 1) = 2 ^ n.toNat * 2 := Int.pow_succ ..
  rw [hs]
  generalize (2 : Int) ^ n.toNat = P at *
  have hm := Int.emod_nonneg a12 (show P ≠ 0 by omega)
  have hm2 := Int.emod_lt_of_pos a12 hP
  have hd := Int.emod_def a12 P
  rw [h, Int.mul_comm P b1] at hd
  generalize hx : a12 - b1 * P = x at *
  have h3 : x * P ≤ (b2 - 1) * P := mul_le_of (by omega) (by omega)
  have e1 : (x + b1) * P = x * P + b1 * P := Int.add_mul ..
  have e2 : (b2 - 1) * P = b2 * P - P := by rw [Int.sub_mul, Int.one_mul]
  have e3 : (P - 1) * b2 = b2 * P - b2 := by rw [Int.sub_mul, Int.one_mul, Int.mul_comm]
  have e4 : (P - 1) * b = b * P - b := by rw [Int.sub_mul, Int.one_mul, Int.mul_comm]
  have e5 : b * P = b1 * P * P + b2 * P := by rw [e, Int.add_mul]
  have e6 : a12 * P = b1 * P * P + x * P := by rw [← hx, Int.sub_mul]; omega
  refine ⟨by omega, by omega, by omega, by omega⟩
theorem Pre3.neCase (H : Pre3 a12 a3 b b1 b2 n q r) (h : a12 / 2 ^ n.toNat ≠ b1) : ∃ q' r', Pre2 a12 b1 n q' r' := by
  have h2 := H.a12b
  obtain ⟨n1, ea, q0, q1, r0, r1, e, b10, b11, b20, b21, a30, a31⟩ := H
  have hP := ppos n.toNat
  have hB := ppos (n.toNat - 1)
  have hb1 : 0 < b1 := by omega
  have h3 : a12 < b1 * 2 ^ n.toNat := by
    generalize (2 : Int) ^ n.toNat = P at *
    have h4 : a12 / P < b1 + 1 := Int.ediv_lt_of_lt_mul hP (by rw [Int.add_mul]; omega)
    exact Int.lt_mul_of_ediv_lt hP (by omega)
  refine ⟨a12 / b1, a12 % b1, n1, ?_, Int.ediv_nonneg h2.1 (by omega), Int.ediv_lt_of_lt_mul hb1 (by rw [Int.mul_comm]; exact h3), Int.emod_nonneg _ (by omega), Int.emod_lt_of_pos _ hb1, b10, b11⟩
  rw [Int.mul_comm]; exact (Int.mul_ediv_add_emod a12 b1).symm
theorem Pre3.ne2 (H : Pre3 a12 a3 b b1 b2 n q r) {q' r' : Int} (h : Pre2 a12 b1 n q' r') :
    q' * b + (r' * 2 ^ n.toNat + a3 - q' * b2) = q * b + r ∧ r' * 2 ^ n.toNat + a3 - q' * b2 < b := by
  obtain ⟨n1, ea, q0, q1, r0, r1, e, b10, b11, b20, b21, a30, a31⟩ := H
  obtain ⟨_, e', q0', q1', r0', r1', _, _⟩ := h
  have hP := ppos n.toNat
  generalize (2 : Int) ^ n.toNat = P at *
  have h1 : 0 ≤ q' * b2 := Int.mul_nonneg q0' b20
  have h2 : r' * P ≤ (b1 - 1) * P := mul_le_of (by omega) (by omega)
  have e2 : (b1 - 1) * P = b1 * P - P := by rw [Int.sub_mul, Int.one_mul]
  refine ⟨?_, by omega⟩
  rw [← ea, e', e, Int.mul_add, Int.add_mul, ← Int.mul_assoc]
  omega
end
section
variable {a b n q r : Int}
theorem Pre2.pad (H : Pre2 a b n q r) : Pre2 (a * 2) (b * 2) (n + 1) q (r * 2) := by
  obtain ⟨n1, e, q0, q1, r0, r1, b1, b2⟩ := H
  have e1 : (n + 1).toNat = n.toNat + 1 := by omega
  have e2 : (n + 1).toNat - 1 = (n.toNat - 1) + 1 := by omega
  have hs : (2 : Int) ^ (n.toNat + 1) = 2 ^ n.toNat * 2 := Int.pow_succ ..
  have hs' : (2 : Int) ^ (n.toNat - 1 + 1) = 2 ^ (n.toNat - 1) * 2 := Int.pow_succ ..
  have hP := ppos n.toNat
  refine ⟨by omega, ?_, q0, ?_, by omega, by omega, ?_, ?_⟩
  · rw [e, Int.add_mul, Int.mul_assoc]
  · rw [e1, hs]; omega
  · rw [e2, hs']; omega
  · rw [e1, hs]; omega
/-- the first half's division and the second's -/
theorem Pre2.halves (H : Pre2 a b n q r) {h : Int} (hn : n = h * 2) : ∃ q1 r1 q2, Pre3 (a / 2 ^ n.toNat) ((a / 2 ^ h.toNat) % 2 ^ h.toNat) b (b / 2 ^ h.toNat) (b % 2 ^ h.toNat) h q1 r1 ∧
    Pre3 r1 (a % 2 ^ h.toNat) b (b / 2 ^ h.toNat) (b % 2 ^ h.toNat) h q2 r ∧ q = q1 * 2 ^ h.toNat + q2 := by
  obtain ⟨n1, e, q0, q1, r0, r1, b1, b2⟩ := H
  have hb : 0 < b := by omega
  have hk : n.toNat = h.toNat + h.toNat := by omega
  have hk' : n.toNat - 1 = (h.toNat - 1) + h.toNat := by omega
  have hP := ppos h.toNat
  have hP' := ppos (h.toNat - 1)
  have ep : (2 : Int) ^ n.toNat = 2 ^ h.toNat * 2 ^ h.toNat := by rw [hk, Int.pow_add]
  have ep' : (2 : Int) ^ (n.toNat - 1) = 2 ^ (h.toNat - 1) * 2 ^ h.toNat := by rw [hk', Int.pow_add]
  have h1 : 1 ≤ h := by omega
  rw [ep] at b2 q1 ⊢
  rw [ep'] at b1
  have a0 : 0 ≤ a := by
    have : 0 ≤ q * b := Int.mul_nonneg q0 (by omega)
    omega
  have k1 : 2 ^ (h.toNat - 1) ≤ b / 2 ^ h.toNat := Int.le_ediv_of_mul_le hP b1
  have k2 : b / 2 ^ h.toNat < 2 ^ h.toNat := Int.ediv_lt_of_lt_mul hP b2
  have k3 := Int.emod_nonneg b (show (2 : Int) ^ h.toNat ≠ 0 by omega)
  have k4 := Int.emod_lt_of_pos b hP
  have k5 : b = b / 2 ^ h.toNat * 2 ^ h.toNat + b % 2 ^ h.toNat := by rw [Int.mul_comm]; exact (Int.mul_ediv_add_emod b _).symm
  have c3 := Int.emod_nonneg (a / 2 ^ h.toNat) (show (2 : Int) ^ h.toNat ≠ 0 by omega)
  have c4 := Int.emod_lt_of_pos (a / 2 ^ h.toNat) hP
  have d3 := Int.emod_nonneg a (show (2 : Int) ^ h.toNat ≠ 0 by omega)
  have d4 := Int.emod_lt_of_pos a hP
  have f1 : a / (2 ^ h.toNat * 2 ^ h.toNat) = a / 2 ^ h.toNat / 2 ^ h.toNat := (Int.ediv_ediv_of_nonneg (by omega)).symm
  rw [f1]
  have f2 : a / 2 ^ h.toNat / 2 ^ h.toNat * 2 ^ h.toNat + (a / 2 ^ h.toNat) % 2 ^ h.toNat = a / 2 ^ h.toNat := by rw [Int.mul_comm]; exact Int.mul_ediv_add_emod _ _
  have f3 : a / 2 ^ h.toNat * 2 ^ h.toNat + a % 2 ^ h.toNat = a := by rw [Int.mul_comm]; exact Int.mul_ediv_add_emod _ _
  have g0 : 0 ≤ a / 2 ^ h.toNat := Int.ediv_nonneg a0 (by omega)
  have g1 : a / 2 ^ h.toNat < 2 ^ h.toNat * b := by
    refine Int.ediv_lt_of_lt_mul hP ?_
    have h3 : (q + 1) * b ≤ 2 ^ h.toNat * 2 ^ h.toNat * b := mul_le_of (by omega) (by omega)
    rw [Int.add_mul, Int.one_mul] at h3
    rw [Int.mul_right_comm]
    omega
  generalize hx : a / 2 ^ h.toNat = x at *
  have m1 := Int.emod_nonneg x (show b ≠ 0 by omega)
  have m2 := Int.emod_lt_of_pos x hb
  have m3 : x = x / b * b + x % b := by rw [Int.mul_comm]; exact (Int.mul_ediv_add_emod x b).symm
  have m4 : x / b < 2 ^ h.toNat := Int.ediv_lt_of_lt_mul hb g1
  have m5 : 0 ≤ x / b := Int.ediv_nonneg g0 (by omega)
  generalize x / b = y at *
  generalize x % b = z at *
  have w0 : 0 ≤ z * 2 ^ h.toNat := Int.mul_nonneg m1 (by omega)
  have w1 : z * 2 ^ h.toNat ≤ (b - 1) * 2 ^ h.toNat := mul_le_of (by omega) (by omega)
  have w2 : (b - 1) * 2 ^ h.toNat = 2 ^ h.toNat * b - 2 ^ h.toNat := by rw [Int.sub_mul, Int.one_mul, Int.mul_comm]
  have v1 := Int.emod_nonneg (z * 2 ^ h.toNat + a % 2 ^ h.toNat) (show b ≠ 0 by omega)
  have v2 := Int.emod_lt_of_pos (z * 2 ^ h.toNat + a % 2 ^ h.toNat) hb
  have v3 : z * 2 ^ h.toNat + a % 2 ^ h.toNat = (z * 2 ^ h.toNat + a % 2 ^ h.toNat) / b * b + (z * 2 ^ h.toNat + a % 2 ^ h.toNat) % b := by
    generalize z * 2 ^ h.toNat + a % 2 ^ h.toNat = y'
    rw [Int.mul_comm]; exact (Int.mul_ediv_add_emod _ b).symm
  have v4 : (z * 2 ^ h.toNat + a % 2 ^ h.toNat) / b < 2 ^ h.toNat := Int.ediv_lt_of_lt_mul hb (by omega)
  have v5 : 0 ≤ (z * 2 ^ h.toNat + a % 2 ^ h.toNat) / b := Int.ediv_nonneg (by omega) (by omega)
  generalize hu : (z * 2 ^ h.toNat + a % 2 ^ h.toNat) / b = u at *
  generalize hv : (z * 2 ^ h.toNat + a % 2 ^ h.toNat) % b = v at *
  have U : q = y * 2 ^ h.toNat + u ∧ r = v := by
    refine uniqNN (b := b) ?_ r0 r1 v1 v2
    rw [← e, ← f3, m3, Int.add_mul, Int.add_mul, Int.mul_right_comm y b]
    omega
  obtain ⟨U1, rfl⟩ := U
  exact ⟨y, z, u, ⟨h1, by rw [f2]; exact m3, m5, m4, m1, m2, k5, k1, k2, k3, k4, c3, c4⟩, ⟨h1, v3, v5, v4, v1, v2, k5, k1, k2, k3, k4, d3, d4⟩, U1⟩
end
end Mine
namespace Mine
section
variable {a12 a3 b b1 b2 n q r : Int}
theorem Pre3.start1 (H : Pre3 a12 a3 b b1 b2 n q r) (h : a12.fdiv (2 ^ n.toNat) = b1) :
    (1 * 2 ^ n.toNat - 1) * b + (Builtin.bitOr ((a12 - b1 * 2 ^ n.toNat + b1) * 2 ^ n.toNat) a3 - (1 * 2 ^ n.toNat - 1) * b2) = q * b + r ∧ Builtin.bitOr ((a12 - b1 * 2 ^ n.toNat + b1) * 2 ^ n.toNat) a3 - (1 * 2 ^ n.toNat - 1) * b2 < b := by
  rw [or_add H.a30 H.a31, Int.one_mul]
  have h' := H.eqCase (by rw [← fdivP]; exact h)
  exact ⟨h'.1, h'.2.1⟩
theorem Pre3.start2 (H : Pre3 a12 a3 b b1 b2 n q r) {q' r' : Int} (h : Pre2 a12 b1 n q' r') :
    q' * b + (Builtin.bitOr (r' * 2 ^ n.toNat) a3 - q' * b2) = q * b + r ∧ Builtin.bitOr (r' * 2 ^ n.toNat) a3 - q' * b2 < b := by
  rw [or_add H.a30 H.a31]
  exact H.ne2 h
theorem d3_turn {x y b c : Int} (h : y * b + x = c ∧ x < b) (h0 : x < 0) : (y - 1) * b + (x + b) = c ∧ x + b < b := by
  rw [Int.sub_mul, Int.one_mul]; omega
end
end Mine
namespace Mine
theorem Pre3.fin {a12 a3 b b1 b2 n q r x y : Int} (H : Pre3 a12 a3 b b1 b2 n q r) (h : y * b + x = q * b + r) (h0 : ¬ x < 0) (h1 : x < b) : y = q ∧ x = r :=
  uniqNN h (by omega) h1 H.r0 H.r1
theorem news_sub {h₀ h : Heap} {L : Addr} {news news' : List (Addr × Obj)} (N : News h₀ L h news') (hs : ∀ p ∈ news, p ∈ news') : News h₀ L h news := fun p hp => N p (hs p hp)
theorem sub0 {p : Addr × Obj} {l l' : List (Addr × Obj)} (h : ∀ q ∈ l, q ∈ l') : ∀ q ∈ p :: l, q ∈ p :: l' := fun q hq => (List.mem_cons.mp hq).elim (fun e => e ▸ .head _) fun m => .tail _ (h q m)
theorem sub1 {p : Addr × Obj} {l l' : List (Addr × Obj)} (h : ∀ q ∈ l, q ∈ l') : ∀ q ∈ l, q ∈ p :: l' := fun q hq => .tail _ (h q hq)
theorem subr {l : List (Addr × Obj)} : ∀ q ∈ l, q ∈ l := fun _ h => h
end Mine
namespace Mine
open PySem.Builtin.Int (intBits)
section
variable {a b n q r : Int}
theorem Pre2.a0 (H : Pre2 a b n q r) : 0 ≤ a := by
  have h1 := H.r0; have h2 := H.r1
  have : 0 ≤ q * b := Int.mul_nonneg H.q0 (by omega)
  have := H.e
  omega
theorem Pre2.alt (H : Pre2 a b n q r) : a < 2 ^ (n.toNat + n.toNat) := by
  have h1 := H.r0; have h2 := H.r1
  have h3 : (q + 1) * b ≤ 2 ^ n.toNat * b := mul_le_of (by omega) (by have := H.q1; omega)
  have h4 : b * 2 ^ n.toNat ≤ 2 ^ n.toNat * 2 ^ n.toNat := mul_le_of (Int.le_of_lt (ppos _)) (Int.le_of_lt H.b2)
  rw [Int.pow_add]
  have := H.e
  rw [Int.add_mul, Int.one_mul] at h3
  rw [Int.mul_comm b] at h4
  omega
theorem Pre2.big (H : Pre2 a b n q r) (h : ¬ (intBits a : Int) - n ≤ 4000) : 4000 < n := by
  have h1 := bits_of_lt H.a0 H.alt
  have := H.n1
  omega
theorem and_mask (x : Int) (k : Nat) : Builtin.bitAnd x (1 * 2 ^ k - 1) = x % 2 ^ k := by rw [Int.one_mul, kbt_mask]
theorem Pre2.halvesT (H : Pre2 a b n q r) {h : Int} (hn : n = h * 2) : ∃ q1 r1 q2, Pre3 (a.fdiv (2 ^ n.toNat)) (Builtin.bitAnd (a.fdiv (2 ^ h.toNat)) (1 * 2 ^ h.toNat - 1)) b (b.fdiv (2 ^ h.toNat)) (Builtin.bitAnd b (1 * 2 ^ h.toNat - 1)) h q1 r1 ∧
    Pre3 r1 (Builtin.bitAnd a (1 * 2 ^ h.toNat - 1)) b (b.fdiv (2 ^ h.toNat)) (Builtin.bitAnd b (1 * 2 ^ h.toNat - 1)) h q2 r ∧ Builtin.bitOr (q1 * 2 ^ h.toNat) q2 = q := by
  simp only [fdivP, and_mask]
  obtain ⟨q1, r1, q2, h1, h2, h3⟩ := H.halves hn
  exact ⟨q1, r1, q2, h1, h2, by rw [or_add h2.q0 h2.q1]; exact h3.symm⟩
theorem halves0 (hp : Builtin.bitAnd n 1 = 0) : n = n.fdiv (2 ^ (1 : Int).toNat) * 2 := by
  rw [bitAnd_m1] at hp
  have e : (2 : Int) ^ (1 : Int).toNat = 2 := by decide
  rw [e, Int.fdiv_eq_ediv_of_nonneg _ (by decide)]
  omega
theorem halves1 (hp : Builtin.bitAnd n 1 ≠ 0) : n + 1 = (n + 1).fdiv (2 ^ (1 : Int).toNat) * 2 := by
  rw [bitAnd_m1] at hp
  have e : (2 : Int) ^ (1 : Int).toNat = 2 := by decide
  rw [e, Int.fdiv_eq_ediv_of_nonneg _ (by decide)]
  omega
theorem Pre2.padT (H : Pre2 a b n q r) : Pre2 (a * 2 ^ (1 : Int).toNat) (b * 2 ^ (1 : Int).toNat) (n + 1) q (r * 2) := H.pad
theorem halfLe {n h : Int} {j : Nat} (hn : n = h * 2) (hk : n ≤ 2 ^ (j + 1) + 1) : h ≤ 2 ^ j := by
  rw [Int.pow_succ] at hk; omega
theorem Pre2.fdm (H : Pre2 a b n q r) : a.fdiv b = q ∧ a.fmod b = r := by
  have h1 := H.r0; have h2 := H.r1
  rw [Int.fdiv_eq_ediv_of_nonneg _ (by omega), Int.fmod_eq_emod_of_nonneg _ (by omega)]
  exact kbt_unique (by omega) (by rw [H.e, Int.mul_comm]; omega) h1 h2
end
theorem half_z {prog : Program} {w : World} {A : Around} {E : Value → Shared → Prop} {s : Shared} {Q : Value → Shared → Prop} {n : Int} {t u : Tok} (he : n = n.fdiv (2 ^ (1 : Int).toNat) * 2) (h : ∀ z, n = z * 2 → Q (.int z s.toks) { s with toks := s.toks + 1 }) :
    wpAny (model prog w) A (binaryOp .RShift (.int n t) (.int 1 u)) Q E s := rshift_int (by decide) (h _ he)
theorem ihalf_z {prog : Program} {w : World} {A : Around} {E : Value → Shared → Prop} {s : Shared} {Q : Value → Shared → Prop} {r : Int} {t u : Tok} (h : Q (.int r s.toks) { s with toks := s.toks + 1 }) :
    wpAny (model prog w) A (inplaceOp .RShift (.int (r * 2) t) (.int 1 u)) Q E s := irshift_int (by decide) (by
  have e : (r * 2).fdiv (2 ^ (1 : Int).toNat) = r := by
    have e : (2 : Int) ^ (1 : Int).toNat = 2 := by decide
    rw [e, Int.fdiv_eq_ediv_of_nonneg _ (by decide)]
    omega
  rw [e]; exact h)
abbrev pairO (q r : Int) (t1 t2 : Tok) (c : Nat) : Obj := { cls := .type "tuple", data := .seq #[.int q t1, .int r t2] c }
theorem divmod_D {prog : Program} {w : World} {A : Around} {E : Value → Shared → Prop} {s : Shared} {a b q r : Int} {t u : Tok} {Q : Value → Shared → Prop} {h₀ : Heap} {L : Addr} {m : Str → Option Value} {news : List (Addr × Obj)} (F : Fr h₀ L s.heap m) (N : News h₀ L s.heap news) (hb : b ≠ 0) (hq : a.fdiv b = q ∧ a.fmod b = r)
    (hp : PySem.PylongRoom (model prog w) A s)
    (h : ∀ D t1 t2 h' tk, Fr h₀ L h' m → News h₀ L h' ((D, pairO q r t1 t2 0) :: news) → AllLt D news → Q (.ref D) { s with toks := tk, heap := h' }) :
    wpAny (model prog w) A (call (.builtin "divmod") [.int a t, .int b u]) Q E s := by
  refine divmod_N F N hb (fun h' F' N' => ?_) (Or.inr hp)
  rw [hq.1, hq.2] at N'
  exact h _ _ _ h' _ F' N' (allLt_of fun p hp => Heap.lt_size (N p hp).1)
end Mine
namespace Mine
open PySem.Builtin.Int (intBits)
theorem abs2 (k : Nat) : ((2 : Int) ^ k).natAbs = 2 ^ k := by rw [← kbt_cast, Int.natAbs_natCast]
inductive Abs (z : Int) : Prop where | mk
theorem abs_skip {M : Model} {A : Around} {env : Env} {x : Str} {z : Int} {t : Tok} {Q : Unit → Shared → Prop} {E : Value → Shared → Prop} {s : Shared} (_ : Abs z) (h : wpAny M A (storeName env x (.int z t)) Q E s) : wpAny M A (storeName env x (.int z t)) Q E s := h
theorem abs_store {M : Model} {A : Around} {env : Env} {x : Str} {e : Int} {t : Tok} {Q : Unit → Shared → Prop} {E : Value → Shared → Prop} {s : Shared} {N : Nat} (hb : intBits e ≤ N)
    (h : ∀ z, Abs z → z = e → intBits z ≤ N → wpAny M A (storeName env x (.int z t)) Q E s) : wpAny M A (storeName env x (.int e t)) Q E s := h e .mk rfl hb
section
variable {prog : Program} {w : World} {A : Around} {E : Value → Shared → Prop} {s : Shared} {a b : Int} {t u : Tok} {Q : Value → Shared → Prop}
theorem pow3_z {l : Int} {N : Nat} (hb : intBits l ≤ N) (hN : 2 * N ≤ 100000000) (h : ∀ z, Abs z → z = 3 ^ intBits l → intBits z ≤ 2 * N + 1 → Q (.int z s.toks) { s with toks := s.toks + 1 }) :
    wpAny (model prog w) A (binaryOp .Pow (.int 3 t) (.int (intBits l : Int) u)) Q E s := by
  refine pow_int (by omega) ?_ ?_
  · have e : intBits (3 : Int) = 2 := by decide
    rw [e]
    have : (2 : Int) ^ 27 = 134217728 := by decide
    omega
  · have e : ((intBits l : Int)).toNat = intBits l := by omega
    rw [e]
    refine h _ .mk rfl ?_
    refine Nat.le_trans (intBits_pow_le (m := 2) (by decide) _) ?_
    omega
theorem mod_p {N : Nat} (hc : 0 < b) (hb : intBits b ≤ N) (h : ∀ z, Abs z → z = a.fmod b → 0 ≤ z → z < b → intBits z ≤ N → Q (.int z s.toks) { s with toks := s.toks + 1 }) : wpAny (model prog w) A (binaryOp .Mod (.int a t) (.int b u)) Q E s := by
  have e : a.fmod b = a % b := Int.fmod_eq_emod_of_nonneg _ (Int.le_of_lt hc)
  have h0 := Int.emod_nonneg a (show b ≠ 0 by omega)
  have h1 := Int.emod_lt_of_pos a hc
  rw [← e] at h0 h1
  exact mod_int' (by omega) (h _ .mk rfl h0 h1 (bits_fmod_by (by omega) hb))
theorem pow2_p {e : Int} {N : Nat} (h0 : 0 ≤ e) (h1 : e ≤ N) (hN : N ≤ 10000000) (h : ∀ z, Abs z → z = 2 ^ e.toNat → 0 < z → intBits z ≤ N + 1 → Q (.int z s.toks) { s with toks := s.toks + 1 }) :
    wpAny (model prog w) A (binaryOp .Pow (.int 2 t) (.int e u)) Q E s := by
  refine pow_int h0 ?_ (h _ .mk rfl (kbt_pos _) ?_)
  · have e : intBits (2 : Int) = 2 := by decide
    rw [e]
    have : (2 : Int) ^ 27 = 134217728 := by decide
    omega
  · refine intBits_le_iff.mpr ?_
    have e1 := abs2 e.toNat
    rw [e1]
    exact Nat.pow_lt_pow_right (by decide) (by omega)
theorem shl_p {e x : Int} {N m : Nat} (h0 : 0 ≤ e) (hx : intBits x ≤ m) (h1 : e ≤ N) (hN : m + N ≤ 100000000) (h : ∀ z, Abs z → z = x * 2 ^ e.toNat → intBits z ≤ m + N → Q (.int z s.toks) { s with toks := s.toks + 1 }) :
    wpAny (model prog w) A (binaryOp .LShift (.int x t) (.int e u)) Q E s := by
  refine lshift_int h0 ?_ (h _ .mk rfl ?_)
  · have : (2 : Int) ^ 27 = 134217728 := by decide
    omega
  · by_cases hx0 : x = 0
    · subst hx0
      rw [Int.zero_mul]
      exact Nat.zero_le _
    refine intBits_le_iff.mpr ?_
    have e1 := abs2 e.toNat
    rw [Int.natAbs_mul, e1]
    have h2 := intBits_le_iff.mp hx
    have h3 : x.natAbs * 2 ^ e.toNat < 2 ^ m * 2 ^ e.toNat := Nat.mul_lt_mul_of_pos_right h2 (Nat.two_pow_pos _)
    rw [← Nat.pow_add] at h3
    exact Nat.lt_of_lt_of_le h3 (Nat.pow_le_pow_right (by decide) (by omega))
theorem shr_p {e x : Int} {m : Nat} (h0 : 0 ≤ e) (hx : intBits x ≤ m) (h : ∀ z, Abs z → z = x / 2 ^ e.toNat → intBits z ≤ m → Q (.int z s.toks) { s with toks := s.toks + 1 }) :
    wpAny (model prog w) A (binaryOp .RShift (.int x t) (.int e u)) Q E s := by
  have e1 := fdivP x e.toNat
  exact rshift_int h0 (by rw [e1]; exact h _ .mk rfl (by rw [← e1]; exact bits_fdiv hx))
theorem fdv_p {m : Nat} (hc : 0 < b) (hx : intBits a ≤ m) (hp : PySem.PylongRoom (model prog w) A s) (h : ∀ z, Abs z → z = a / b → intBits z ≤ m → Q (.int z s.toks) { s with toks := s.toks + 1 }) :
    wpAny (model prog w) A (binaryOp .FloorDiv (.int a t) (.int b u)) Q E s := by
  have e1 : a.fdiv b = a / b := Int.fdiv_eq_ediv_of_nonneg _ (Int.le_of_lt hc)
  exact floordiv_int (by omega) (by rw [e1]; exact h _ .mk rfl (by rw [← e1]; exact bits_fdiv hx)) (Or.inr hp)
end
theorem fmodB (a : Int) {b : Int} (h : 0 < b) : 0 ≤ a.fmod b ∧ a.fmod b < b := by
  rw [Int.fmod_eq_emod_of_nonneg _ (Int.le_of_lt h)]
  exact ⟨Int.emod_nonneg _ (by omega), Int.emod_lt_of_pos _ h⟩
theorem fdivE (a : Int) {b : Int} (h : 0 < b) : a.fdiv b = a / b := Int.fdiv_eq_ediv_of_nonneg _ (Int.le_of_lt h)
theorem fmodE (a : Int) {b : Int} (h : 0 < b) : a.fmod b = a % b := Int.fmod_eq_emod_of_nonneg _ (Int.le_of_lt h)
theorem Pre2.bq {a b n q r : Int} (H : Pre2 a b n q r) {N : Nat} (hn : n ≤ N) : intBits q ≤ N := Nat.le_trans (bits_of_lt H.q0 H.q1) (by have := H.n1; omega)
theorem Pre2.br {a b n q r : Int} (H : Pre2 a b n q r) {N : Nat} (hn : n ≤ N) : intBits r ≤ N := Nat.le_trans (bits_of_lt H.r0 (Int.lt_trans H.r1 H.b2)) (by have := H.n1; omega)
theorem eq_t {prog : Program} {w : World} {A : Around} {E : Value → Shared → Prop} {s : Shared} {a b : Int} {t u : Tok} {Q : Value → Shared → Prop} (e : a = b) (h : Q (.bool true) s) : wpAny (model prog w) A (compareOp .Eq (.int a t) (.int b u)) Q E s :=
  eq_int (by rw [e, beq_self_eq_true]; exact h)
theorem gen_toks {α : Type} {M : Model} {A : Around} {m : Sem α} {Q : α → Shared → Prop} {E : Value → Shared → Prop} {h : Heap} {g : Array GenState} {d : Drawn} {X : Nat} {o : OsState}
    (H : ∀ tk, wpAny M A m Q E { heap := h, gens := g, drawn := d, toks := tk, os := o }) : wpAny M A m Q E { heap := h, gens := g, drawn := d, toks := X, os := o } := H X
theorem mul_p {prog : Program} {w : World} {A : Around} {E : Value → Shared → Prop} {s : Shared} {a b : Int} {t u : Tok} {Q : Value → Shared → Prop} {m n : Nat} (ha : intBits a ≤ m) (hb : intBits b ≤ n) (h : m + n ≤ 134217728) (hq : Q (.int (a * b) s.toks) { s with toks := s.toks + 1 }) :
    wpAny (model prog w) A (binaryOp .Mult (.int a t) (.int b u)) Q E s := mul_int hq (mulOk_of_bits ha hb h)
end Mine
namespace Mine
section
variable {prog : Program} {w : World} {A : Around} {E : Value → Shared → Prop} {s : Shared} {env : Env} {h₀ : Heap} {x : Str} {body : List Stmt} {Q : Flow → Shared → Prop}
/-- a loop from behind over a list of ints that the call has made, by an invariant over the state -/
theorem kst_rev {σ : Type} {I l : Addr} {vs : List Value} {ns : List Int} {nn : Nat} {m₀ : Str → Option Value} (Led : σ → List (Addr × Obj)) (ps : σ → List (Str × Value)) (Facts : σ → Prop) (stored : List Str) (P : List Int → σ → Prop) (c₀ : σ) {all : List (Addr × Obj)}
    (hh : A.handled = none) (hi : IntsAre vs ns) (F : Fr h₀ env.locals s.heap m₀) (NA : News h₀ env.locals s.heap all) (hI : (I, revObj l ((vs.length : Int) - 1)) ∈ all) (hl : (l, listOf vs.toArray nn) ∈ all) (hne : l ≠ I) (N : News h₀ env.locals s.heap (Led c₀)) (hoff : ∀ p ∈ Led c₀, p.1 ≠ I ∧ p.1 ≠ l) (hf : Facts c₀) (hk : ∀ p ∈ ps c₀, m₀ p.1 = some p.2) (hp : P [] c₀)
    (turn : ∀ (c : σ) pre post n t (u : Str → Option Value) h tk own, ns.reverse = pre ++ n :: post → n ∈ ns → OwnOff own ((Led c₀).map (·.1)) → Facts c → P pre c →
      Fr h₀ env.locals h (fun y => if y = x then some (.int n t) else kstB (fun z => if stored.contains z then u z else m₀ z) (ps c) y) → News h₀ env.locals h (Led c ++ own) →
      wpAny (model prog w) A (execs body env) (InvPostN h₀ env.locals (KstS Led ps Facts x stored m₀ P (pre ++ [n])) own ((Led c₀).map (·.1)) { s with heap := h, toks := tk } Q) E { s with heap := h, toks := tk })
    (done : ∀ (c : σ) (u : Str → Option Value) h tk, Facts c → P ns.reverse c → Fr h₀ env.locals h (fun y => if y = x then u y else kstB (fun z => if stored.contains z then u z else m₀ z) (ps c) y) → News h₀ env.locals h (Led c) → Q .next { s with heap := h, toks := tk }) :
    wpAny (model prog w) A (pyIter (.ref I)) (fun it s₂ => LoopAtV prog w A h₀ env x body Q E it s₂) E s := by
  have hIx := NA _ hI
  have hlx := NA _ hl
  have hL : s.heap.IsList l vs.toArray := ⟨_, hlx.1, rfl, nn, rfl⟩
  have hit : s.heap.IsRevIter I l ((vs.length : Int) - 1) := ⟨_, hIx.1, rfl, rfl⟩
  refine wpAny_pyIter_revIter hit ?_
  have W := Walks.listRev (prog := prog) (w := w) hh I l hne vs.toArray
  have hlen : vs.toArray.size = ns.length := by simp [hi.length]
  rw [hlen] at W
  have hr : ns.reverse.length = ns.length := List.length_reverse
  refine loop_invN (fun i m nx => KstS Led ps Facts x stored m₀ P (ns.reverse.take i) m nx) W ?_ ?_ ?_ ?_ ?_ F N ⟨c₀, rfl, hf, hk, fun _ _ _ _ => rfl, by simpa using hp⟩ ?_ ?_
  · intro hm
    rcases List.mem_cons.mp hm with e | hm
    · exact hIx.2.1 e.symm
    · exact hlx.2.1 (List.mem_singleton.mp hm).symm
  · intro b hb
    rw [List.mem_singleton.mp hb]
    exact hIx.2.2
  · intro p hp hm
    exact (hoff p hp).1 (List.mem_singleton.mp hm)
  · intro p hp hm
    rcases List.mem_cons.mp hm with e | hm
    · exact (hoff p hp).1 e
    · exact (hoff p hp).2 (List.mem_singleton.mp hm)
  · refine ⟨Nat.zero_le _, ?_, hL⟩
    have e : ((ns.length : Nat) : Int) - 1 - ((0 : Nat) : Int) = (vs.length : Int) - 1 := by rw [hi.length]; omega
    rw [e]
    exact hit
  · rintro i v m₁ nx h tk own hin hP _ hoff' ⟨c, rfl, hf', h1, h2, hp'⟩ F₁ N₁
    have hlt' : i < ns.reverse.length := by rw [hr]; exact hin
    have hP2 : vs.toArray[ns.length - 1 - i]? = some v := hP
    have hget : ns[ns.length - 1 - i]? = some ns.reverse[i] := by
      rw [List.getElem_reverse]
      exact List.getElem?_eq_getElem (by omega)
    obtain ⟨t, hx⟩ := hi.get _ _ hget
    have hv : v = .int ns.reverse[i] t := by
      have : vs[ns.length - 1 - i]? = some v := by simpa using hP2
      rw [hx] at this; exact (Option.some.inj this).symm
    subst hv
    have hn : ns.reverse[i]? = some ns.reverse[i] := List.getElem?_eq_getElem hlt'
    have hs : ns.reverse.take (i + 1) = ns.reverse.take i ++ [ns.reverse[i]] := by rw [List.take_add_one, hn]; rfl
    have e : ns.reverse = ns.reverse.take i ++ ns.reverse[i] :: ns.reverse.drop (i + 1) := by
      have ht := List.take_append_drop (i + 1) ns.reverse
      rw [hs, List.append_assoc] at ht
      exact ht.symm
    have key := turn c _ _ ns.reverse[i] t m₁ h tk own e (List.mem_reverse.mp (List.getElem_mem hlt')) hoff' hf' hp' (kst_fr h1 h2 F₁) N₁
    have goalE : (fun m nx => KstS Led ps Facts x stored m₀ P (ns.reverse.take (i + 1)) m nx) = KstS Led ps Facts x stored m₀ P (ns.reverse.take i ++ [ns.reverse[i]]) := by rw [hs]
    rw [goalE]
    exact key
  · rintro m₁ nx h tk ⟨c, rfl, hf', h1, h2, hp'⟩ F₁ N₁
    rw [List.take_of_length_le (by rw [hr]; exact Nat.le_refl _)] at hp'
    exact done c m₁ h tk hf' hp' (kst_frOut h1 h2 F₁) N₁
end
end Mine
namespace Mine
set_option maxRecDepth 100000
set_option maxHeartbeats 8000000
open_top hd for PySem.Challenge.rw_dn0134_03
end Mine
namespace Mine
def PairCall (prog : Program) (w : World) (K : Frag) (p : Program) (loose : List Str) (mean : ExcName → Option Value) (mg mb : Str → Option Value) (f : Addr) (vs : List Value) (q r : Int) (k : Nat) : Prop :=
  ∀ (dp un : Nat) (gd : Option (List Code)) (cn : Str) (cs : Scope) (a : Addr) (ccd : Value) (cl : List (Str × Addr)) (outer : List Env) (A₀ : Around) (base h₀ : Heap) (L : Addr) (m : Str → Option Value) (news : List (Addr × Obj)) (s : Shared)
    (Q E : Value → Shared → Prop),
    Below A₀ base outer h₀ → Fr h₀ L s.heap m → K.In h₀ → News h₀ L s.heap news → Top p loose mean mg mb h₀ → cs.kind = .function → dp + k + 104 < recursionLimit → un + 8 * k + 100 < cLine →
    (∀ D t1 t2 c h' tk', Fr h₀ L h' m → News h₀ L h' ((D, pairO q r t1 t2 c) :: news) → AllLt D news → Q (.ref D) { s with heap := h', toks := tk' }) →
    wpAny (model prog w) (ktrTop dp un gd cn cs L a ccd cl outer) (call (.ref f) vs) Q E s

theorem pair_use {prog : Program} {w : World} {K : Frag} {p : Program} {loose : List Str} {mean : ExcName → Option Value} {mg mb : Str → Option Value} {f : Addr} {vs : List Value} {q r : Int} {k : Nat}
   {dp un : Nat} {gd : Option (List Code)} {cn : Str} {cs : Scope} {a : Addr} {ccd : Value} {cl : List (Str × Addr)} {outer : List Env} {A₀ : Around} {base h₀ : Heap} {L : Addr} {m : Str → Option Value} {news : List (Addr × Obj)} {s : Shared} {Q E : Value → Shared → Prop}
   (B : Below A₀ base outer h₀) (F : Fr h₀ L s.heap m) (X : K.In h₀) (N : News h₀ L s.heap news) (T : Top p loose mean mg mb h₀) (hk : cs.kind = .function) (C : PairCall prog w K p loose mean mg mb f vs q r k)
   (hd : dp + k + 104 < recursionLimit) (hu : un + 8 * k + 100 < cLine)
   (ret : ∀ D t1 t2 c h' tk', Fr h₀ L h' m → News h₀ L h' ((D, pairO q r t1 t2 c) :: news) → AllLt D news → Q (.ref D) { s with heap := h', toks := tk' }) :
    wpAny (model prog w) (ktrTop dp un gd cn cs L a ccd cl outer) (call (.ref f) vs) Q E s := C _ _ _ _ _ _ _ _ _ _ _ _ _ _ _ _ _ _ B F X N T hk hd hu ret

section
variable (w : World) (mean : ExcName → Option Value) (mg mb : Str → Option Value)
abbrev PC := PairCall PySem.Challenge.rw_dn0134_03.row.prog w (hd.heap_39 w.params) hd.view_39 (looseW hd.view_39 []) mean mg mb
def Div2 (k : Nat) : Prop := ∀ (a b n q r : Int) (t u v : Tok), Pre2 a b n q r → n ≤ 2 ^ k → k ≤ 19 → PC w mean mg mb 21 [.int a t, .int b u, .int n v] q r (2 * k + 2)
def Div3 (k : Nat) : Prop := ∀ (a12 a3 b b1 b2 n q r : Int) (t1 t2 t3 t4 t5 t6 : Tok), Pre3 a12 a3 b b1 b2 n q r → n ≤ 2 ^ k → k ≤ 19 → PC w mean mg mb 28 [.int a12 t1, .int a3 t2, .int b t3, .int b1 t4, .int b2 t5, .int n t6] q r (2 * k + 3)
end
end Mine
namespace Mine
open PySem.Builtin.Int (intBits)
local macro_rules | `(tactic| bits_by_make) => `(tactic| with_reducible assumption)
local macro_rules | `(tactic| walk_at "exec While Compare cons cons") => `(tactic| k_extra "mywhile")
local macro_rules | `(tactic| walk_at "exec While Compare cons nil") => `(tactic| k_extra "mywhile")
set_option maxRecDepth 100000 in
set_option maxHeartbeats 8000000 in
theorem div3_step (w : World) (mean : ExcName → Option Value) (mg mb : Str → Option Value) (k : Nat) (H : Div2 w mean mg mb k) : Div3 w mean mg mb k := by
  (have hh : PySem.Challenge.rw_dn0134_03 = PySem.Challenge.rw_dn0134_03 ∧ hd.heap_39 = hd.heap_39 := by (k_fill; exact ⟨rfl, rfl⟩))
  clear hh
  k_with_none
  intro a12 a3 b b1 b2 n q r t1 t2 t3 t4 t5 t6 P hn hk19
  have hn19 : n ≤ 524288 := Int.le_trans hn (pmono hk19)
  have hn1 := P.n1
  have hbp : intBits ((2 : Int) ^ n.toNat) ≤ 600000 := Nat.le_trans (bits_of_lt (k := n.toNat + 1) (Int.le_of_lt (ppos _)) (by rw [Int.pow_succ]; have := ppos n.toNat; omega)) (by omega)
  have hbb1 : intBits b1 ≤ 600000 := Nat.le_trans (bits_of_lt (by have := ppos (n.toNat - 1); have := P.b10; omega) P.b11) (by omega)
  have hbb2 : intBits b2 ≤ 600000 := Nat.le_trans (bits_of_lt P.b20 P.b21) (by omega)
  have hba : intBits a12 ≤ 5000000 := bits_of_natAbs_le (b := b) (by have := P.a12b; omega) (by rw [P.e]; exact Nat.le_trans (bits_add (bits_mul hbb1 hbp) hbb2) (by decide))
  unfold PC PairCall
  intro dp un gd cn cs a ccd cl outer A₀ base h₀ L m news s Q E B F X N T hk hd hu hret
  k_with "call ref" => (
    obtain ⟨q', r', hP'⟩ := P.neCase (by rw [← fdivP]; assumption)
    have hbr : intBits r' ≤ 600000 := Nat.le_trans (bits_of_lt hP'.r0 (Int.lt_trans hP'.r1 hP'.b2)) (by omega)
    have hbq : intBits q' ≤ 600000 := Nat.le_trans (bits_of_lt hP'.q0 hP'.q1) (by omega)
    (refine' pair_use ?k1 ?k2 ?k3 ?k4 ?k5 ?kK (H _ _ _ q' r' _ _ _ hP' hn hk19) ?kd ?ku ?_)
    (case k1 => k_asm)
    (case k2 => k_asm)
    (case k3 => k_asm)
    (case k4 => k_asm)
    (case k5 => k_asm)
    (case kK => exact rfl)
    (case kd => ktr_room)
    (case ku => ktr_units)
    intro D' x1 x2 c' h' tk' F' N' l'
    (try dsimp only)
    (try k_fold))
  k_with "mywhile" => (k_while (fun _ x y => y * b + x = q * b + r ∧ x < b) (fun _ x y => (- x).toNat) "r" "q")
  k_with "state" => (first | exact P.start1 (by assumption) | exact P.start2 (by assumption) | exact d3_turn ⟨by assumption, by assumption⟩ (by assumption))
  have hb0 : 0 < b := by have := P.r0; have := P.r1; omega
  refine wpAny_call ?_
  k_dflt ktr_enter
  k_steps
  all_goals (
    obtain ⟨e1, e2⟩ := P.fin (by assumption) (by assumption) (by assumption)
    subst e1
    subst e2
    refine hret _ _ _ _ _ _ (by k_asm) (news_sub (by k_asm) (sub0 (sub1 subr))) ?_
    first | assumption | exact And.right (by assumption))
end Mine
namespace Mine
open PySem.Builtin.Int (intBits)
local macro_rules | `(tactic| bits_by_make) => `(tactic| with_reducible assumption)
local macro_rules | `(tactic| walk_at "binaryOp RShift int int") => `(tactic| k_extra "half")
local macro_rules | `(tactic| walk_at "inplaceOp RShift int int") => `(tactic| with_reducible refine ihalf_z ?_)
local macro_rules | `(tactic| walk_at "inplaceOp LShift int int") => `(tactic| (with_reducible refine ilshift_int ?kbn ?kbs ?_; (case kbn => decide); (case kbs => refine kbm_shl (m := 2000000) (Nat.le_trans (by with_reducible assumption) ?_) ?_ ?_ <;> decide)))
local macro_rules | `(tactic| walk_at "call builtin:divmod") => `(tactic| k_extra "mydiv")
set_option maxRecDepth 100000 in
set_option maxHeartbeats 8000000 in
theorem div2_step (w : World) (mean : ExcName → Option Value) (mg mb : Str → Option Value) (k : Nat) (H : ∀ j, k = j + 1 → Div3 w mean mg mb j) : Div2 w mean mg mb k := by
  (have hh : PySem.Challenge.rw_dn0134_03 = PySem.Challenge.rw_dn0134_03 ∧ hd.heap_39 = hd.heap_39 := by (k_fill; exact ⟨rfl, rfl⟩))
  clear hh
  k_with_none
  intro a b n q r t1 t2 t3 P hn hk19
  have hn19 : n ≤ 524288 := Int.le_trans hn (pmono hk19)
  have hn1 := P.n1
  have hba : intBits a ≤ 1200000 := Nat.le_trans (bits_of_lt P.a0 P.alt) (by omega)
  have hbb : intBits b ≤ 600000 := Nat.le_trans (bits_of_lt (by have := P.r0; have := P.r1; omega) P.b2) (by omega)
  have hb0 : b ≠ 0 := by have := P.r0; have := P.r1; omega
  unfold PC PairCall
  intro dp un gd cn cs aa ccd cl outer A₀ base h₀ L m news s Q E B F X N T hk hd hu hret
  k_with "half" => (first
    | (with_reducible refine half_z (halves0 (by assumption)) ?_; intro hz ez)
    | (with_reducible refine half_z (halves1 (by assumption)) ?_; intro hz ez))
  k_with "mydiv" => (
    (refine' divmod_D ?k1 ?k2 hb0 P.fdm (PySem.PylongRoom.of (PySem.Heap.NoLimit.keeps (PyProof.Rows.Top.nolimit (by assumption)) (PyProof.Rows.Fr.keep (by assumption))) ?kd) ?_)
    (case k1 => k_asm)
    (case k2 => k_asm)
    (case kd => (simp only [Builtin.pylongFrames]; ktr_room))
    intro D' x1 x2 h' tk' F' N' l'
    (try dsimp only)
    (try k_fold))
  k_with "call ref" => (first
    | (
      (refine' pair_use ?k1 ?k2 ?k3 ?k4 ?k5 ?kK (hJ _ _ _ _ _ _ q2 _ _ _ _ _ _ _ h2 hjz hj19) ?kd ?ku ?_)
      (case k1 => k_asm)
      (case k2 => k_asm)
      (case k3 => k_asm)
      (case k4 => k_asm)
      (case k5 => k_asm)
      (case kK => exact rfl)
      (case kd => ktr_room)
      (case ku => ktr_units)
      intro D' x1 x2 c' h' tk' F' N' l'
      (try dsimp only)
      (try k_fold))
    | (
      obtain ⟨j, hj⟩ : ∃ j, k = j + 1 := ⟨k - 1, by have := P.big (by assumption); have : k ≠ 0 := (by intro e; subst e; simp at hn; omega); omega⟩
      have hJ := H j hj
      have hj19 : j ≤ 19 := by omega
      have hjz : hz ≤ 2 ^ j := halfLe ez (by rw [← hj]; omega)
      obtain ⟨q1, r1, q2, h1, h2, h3⟩ := (by first | exact P.halvesT ez | exact P.padT.halvesT ez : ∃ q1 r1 q2, _ ∧ _ ∧ _)
      have hbq1 : intBits q1 ≤ 600000 := Nat.le_trans (bits_of_lt h1.q0 h1.q1) (by omega)
      (refine' pair_use ?k1 ?k2 ?k3 ?k4 ?k5 ?kK (hJ _ _ _ _ _ _ q1 r1 _ _ _ _ _ _ h1 hjz hj19) ?kd ?ku ?_)
      (case k1 => k_asm)
      (case k2 => k_asm)
      (case k3 => k_asm)
      (case k4 => k_asm)
      (case k5 => k_asm)
      (case kK => exact rfl)
      (case kd => ktr_room)
      (case ku => ktr_units)
      intro D' x1 x2 c' h' tk' F' N' l'
      (try dsimp only)
      (try k_fold)))
  refine wpAny_call ?_
  k_dflt ktr_enter
  k_steps
  all_goals (first
    | exact absurd ‹Builtin.bitAnd n 1 = 0› ‹Builtin.bitAnd n 1 ≠ 0›
    | exact hret _ _ _ _ _ _ (by k_asm) (by k_asm) (by assumption)
    | (subst h3; refine hret _ _ _ _ _ _ (by k_asm) (news_sub (by k_asm) (sub0 (sub1 (sub1 (sub1 subr))))) ?_; exact (And.right (And.right (And.right (by assumption))))))
theorem div_all (w : World) (mean : ExcName → Option Value) (mg mb : Str → Option Value) : ∀ k, Div2 w mean mg mb k ∧ Div3 w mean mg mb k
  | 0 => have h := div2_step w mean mg mb 0 (fun j e => by omega); ⟨h, div3_step w mean mg mb 0 h⟩
  | k + 1 => have h := div2_step w mean mg mb (k + 1) (fun j e => by obtain rfl : k = j := by omega
                                                                     exact (div_all w mean mg mb k).2); ⟨h, div3_step w mean mg mb (k + 1) h⟩
theorem use2 {w : World} {mean : ExcName → Option Value} {mg mb : Str → Option Value} {a b n q r : Int} {t u v : Tok} (h : Pre2 a b n q r) (hn : n ≤ 262144) : PC w mean mg mb 21 [.int a t, .int b u, .int n v] q r 38 := (div_all w mean mg mb 18).1 a b n q r t u v h hn (by decide)
theorem use3 {w : World} {mean : ExcName → Option Value} {mg mb : Str → Option Value} {a12 a3 b b1 b2 n q r : Int} {t1 t2 t3 t4 t5 t6 : Tok} (h : Pre3 a12 a3 b b1 b2 n q r) (hn : n ≤ 262144) : PC w mean mg mb 28 [.int a12 t1, .int a3 t2, .int b t3, .int b1 t4, .int b2 t5, .int n t6] q r 39 := (div_all w mean mg mb 18).2 a12 a3 b b1 b2 n q r t1 t2 t3 t4 t5 t6 h hn (by decide)
end Mine
-- PARTS: math.txt math_rev.txt div.txt
namespace Mine
open PySem.Builtin.Int (intBits)
theorem sq_le {a b : Int} (h0 : 0 ≤ a) (h : a ≤ b) : a * a ≤ b * b := Int.le_trans (Int.mul_le_mul_of_nonneg_left h h0) (Int.mul_le_mul_of_nonneg_right h (Int.le_trans h0 h))
theorem sq_lt_of {a b : Int} (hb : 0 ≤ b) (h : a * a < b * b) : a < b := by
  rcases Int.lt_or_le a b with h' | h'
  · exact h'
  · have := sq_le hb h'; omega
/-- the root's next half -/
theorem root_core {X H S t x le a q o : Int} (hS : 0 < S) (ht : 0 < t) (hX : X = t * S + x) (x0 : 0 ≤ x) (x1 : x < S) (hSt : S ≤ 2 * t) (h1 : X * X ≤ H) (h2 : H ≤ X * X + 2 * X)
    (hle : le = H / (S * S) - t * t) (ha : a = le * S + (H / S) % S) (hq : a = q * (2 * t) + o) (o0 : 0 ≤ o) (o1 : o < 2 * t) :
    (t * S + q = X ∨ t * S + q = X + 1) ∧ (t * S + q) * (t * S + q) + (o * S + H % S - q * q) = H ∧ 0 ≤ q ∧ q ≤ S ∧ 0 ≤ a := by
  have e1 : H / (S * S) = H / S / S := (Int.ediv_ediv_of_nonneg (by omega)).symm
  have e2 : H / S / S * S + (H / S) % S = H / S := by rw [Int.mul_comm]; exact Int.mul_ediv_add_emod _ _
  have e3 : a = H / S - t * t * S := by rw [ha, hle, e1, Int.sub_mul]; omega
  have e4 : H / S * S + H % S = H := by rw [Int.mul_comm]; exact Int.mul_ediv_add_emod _ _
  have l1 : t * t * S + 2 * t * x ≤ H / S := by
    refine Int.le_ediv_of_mul_le hS ?_
    have k : X * X = (t * t * S + 2 * t * x) * S + x * x := by rw [hX]; grind
    have := Int.mul_nonneg x0 x0
    omega
  have l2 : H / S < t * t * S + 2 * t * (x + 2) := by
    refine Int.ediv_lt_of_lt_mul hS ?_
    have k : (X + 1) * (X + 1) = (t * t * S + 2 * t * (x + 1)) * S + (x + 1) * (x + 1) := by rw [hX]; grind
    have k1 : (X + 1) * (X + 1) = X * X + 2 * X + 1 := by grind
    have k2 : (x + 1) * (x + 1) ≤ S * S := sq_le (by omega) (by omega)
    have k3 : S * S ≤ 2 * t * S := mul_le_of (by omega) hSt
    have k4 : (t * t * S + 2 * t * (x + 2)) * S = (t * t * S + 2 * t * (x + 1)) * S + 2 * t * S := by grind
    omega
  have t2 : 0 < 2 * t := by omega
  have q1 : x * (2 * t) < (q + 1) * (2 * t) := by
    have k : (q + 1) * (2 * t) = q * (2 * t) + 2 * t := by grind
    have k2 : x * (2 * t) = 2 * t * x := Int.mul_comm ..
    omega
  have q2 : q * (2 * t) < (x + 2) * (2 * t) := by
    have k2 : (x + 2) * (2 * t) = 2 * t * (x + 2) := Int.mul_comm ..
    omega
  have q1' := lt_of_mul t2 q1
  have q2' := lt_of_mul t2 q2
  have a0 : 0 ≤ a := by
    have : 0 ≤ 2 * t * x := Int.mul_nonneg (by omega) x0
    omega
  refine ⟨by omega, ?_, by omega, by omega, a0⟩
  generalize H / S = h at *
  generalize H % S = y at *
  grind
structure LRoot (size root number : Int) : Prop where
  s1 : 2 ≤ size
  s2 : size ≤ 12000
  r1 : 2 ^ (size - 1).toNat ≤ root
  r2 : root < 2 ^ size.toNat
  n1 : root * root ≤ number
  n2 : number ≤ root * root + 2 * root
theorem pow_split {a b c : Int} (h0 : 0 ≤ a) (h1 : 0 ≤ b) (h : c = a + b) : (2 : Int) ^ c.toNat = 2 ^ a.toNat * 2 ^ b.toNat := by
  rw [← Int.pow_add]; congr 1; omega
/-- the root's head is the head's root -/
theorem LRoot.at {size root number : Int} (H : LRoot size root number) {d : Int} (d1 : 1 ≤ d) (d2 : d ≤ size) :
    2 ^ (d - 1).toNat ≤ root / 2 ^ (size - d).toNat ∧ root / 2 ^ (size - d).toNat < 2 ^ d.toNat ∧
    (root / 2 ^ (size - d).toNat) * (root / 2 ^ (size - d).toNat) ≤ number / 2 ^ (2 * (size - d)).toNat ∧ number / 2 ^ (2 * (size - d)).toNat ≤ (root / 2 ^ (size - d).toNat) * (root / 2 ^ (size - d).toNat) + 2 * (root / 2 ^ (size - d).toNat) := by
  obtain ⟨s1, s2, r1, r2, n1, n2⟩ := H
  have hT := ppos (size - d).toNat
  have e1 : (2 : Int) ^ (2 * (size - d)).toNat = 2 ^ (size - d).toNat * 2 ^ (size - d).toNat := pow_split (by omega) (by omega) (by omega)
  have e2 : (2 : Int) ^ (size - 1).toNat = 2 ^ (d - 1).toNat * 2 ^ (size - d).toNat := pow_split (by omega) (by omega) (by omega)
  have e3 : (2 : Int) ^ size.toNat = 2 ^ d.toNat * 2 ^ (size - d).toNat := pow_split (by omega) (by omega) (by omega)
  rw [e1]; rw [e2] at r1; rw [e3] at r2
  have hd := ppos (d - 1).toNat
  generalize (2 : Int) ^ (size - d).toNat = T at *
  have k1 := Int.le_ediv_of_mul_le hT r1
  have k2 := Int.ediv_lt_of_lt_mul hT r2
  have m1 := Int.emod_nonneg root (show T ≠ 0 by omega)
  have m2 := Int.emod_lt_of_pos root hT
  have m3 : root / T * T + root % T = root := by rw [Int.mul_comm]; exact Int.mul_ediv_add_emod _ _
  have hTT : 0 < T * T := Int.mul_pos hT hT
  generalize hR : root / T = R at *
  have R0 : 0 ≤ R := by omega
  have hRT : 0 ≤ R * T := Int.mul_nonneg R0 (by omega)
  refine ⟨k1, k2, ?_, ?_⟩
  · refine Int.le_ediv_of_mul_le hTT ?_
    have := sq_le hRT (show R * T ≤ root by omega)
    have e : R * R * (T * T) = R * T * (R * T) := by grind
    omega
  · have : number / (T * T) < (R + 1) * (R + 1) := by
      refine Int.ediv_lt_of_lt_mul hTT ?_
      have k := sq_le (a := root + 1) (b := (R + 1) * T) (by omega) (by rw [Int.add_mul, Int.one_mul]; omega)
      have e : (R + 1) * (R + 1) * (T * T) = (R + 1) * T * ((R + 1) * T) := by grind
      have e2 : (root + 1) * (root + 1) = root * root + 2 * root + 1 := by grind
      omega
    have e3 : (R + 1) * (R + 1) = R * R + 2 * R + 1 := by grind
    omega
theorem shl1_pos {z : Int} {k : Nat} (h : z = 1 * 2 ^ k) : 0 < z := by rw [h, Int.one_mul]; exact ppos k
def Up (size : Int) : Int → List Int → Prop
  | d, [] => d = size
  | d, m :: r => d = (m + 1) / 2 ∧ 2 ≤ m ∧ Up size m r
def lastI (xs : List Int) : Int := xs.getD ((-1 : Int) + (xs.length : Int)).toNat 0
def Sizes (size : Int) (xs : List Int) : Prop := ∃ l ys, xs = (l :: ys).reverse ∧ Up size l ys
theorem lastI_add (xs : List Int) (c : Int) : lastI (xs ++ [c]) = c := getD_last xs c 0
theorem lastI_rev (l : Int) (ys : List Int) : lastI (l :: ys).reverse = l := by rw [List.reverse_cons, lastI_add]
structure SWord (size : Int) (xs : List Int) : Prop where
  s : Sizes size xs
  b : (xs.length : Int) + lastI xs ≤ size + 1
  l : 1 ≤ lastI xs
theorem sizes_start {size : Int} (h : 2 ≤ size) (h2 : size ≤ 12000) : SWord size [size] ∧ 1 ≤ [size].length ∧ [size].length ≤ 12001 := by
  have e : lastI [size] = size := rfl
  exact ⟨⟨⟨size, [], rfl, rfl⟩, by rw [e]; simp only [List.length_cons, List.length_nil]; omega, by rw [e]; omega⟩, Nat.le_refl _, by simp only [List.length_cons, List.length_nil]; omega⟩
theorem sizes_turn {size : Int} {xs : List Int} (h0 : SWord size xs) (h4 : 1 < lastI xs) (h5 : size ≤ 12000) :
    SWord size (xs ++ [(lastI xs + 1).fdiv 2]) ∧ 1 ≤ (xs ++ [(lastI xs + 1).fdiv 2]).length ∧ (xs ++ [(lastI xs + 1).fdiv 2]).length ≤ 12001 := by
  have hz : (lastI xs + 1).fdiv 2 = (lastI xs + 1) / 2 := Int.fdiv_eq_ediv_of_nonneg _ (by decide)
  rw [hz]
  generalize hz' : (lastI xs + 1) / 2 = z at *
  obtain ⟨⟨l, ys, rfl, hu⟩, h3, _⟩ := h0
  rw [lastI_rev] at hz' h3 h4
  have e : ((((l :: ys).reverse ++ [z]).length : Nat) : Int) = ((l :: ys).reverse.length : Int) + 1 := by simp only [List.length_append, List.length_cons, List.length_nil]; omega
  refine ⟨⟨⟨z, l :: ys, by rw [List.reverse_cons (a := z)], hz'.symm, by omega, hu⟩, ?_, ?_⟩, ?_, ?_⟩
  · rw [lastI_add, e]; omega
  · rw [lastI_add]; omega
  · omega
  · omega
theorem sizes_less {xs : List Int} (h4 : 1 < lastI xs) : (lastI (xs ++ [(lastI xs + 1).fdiv 2])).toNat < (lastI xs).toNat := by
  have hz : (lastI xs + 1).fdiv 2 = (lastI xs + 1) / 2 := Int.fdiv_eq_ediv_of_nonneg _ (by decide)
  rw [lastI_add, hz]; omega
theorem Up.le {size : Int} : ∀ {d : Int} {post : List Int}, Up size d post → d ≤ size
  | _, [], h => Int.le_of_eq h
  | _, _ :: _, h => by
    have := Up.le h.2.2
    have := h.1; have := h.2.1
    omega
def LInv (size root number : Int) (ys pre : List Int) (d told left : Int) : Prop :=
  ∃ post, ys = pre ++ post ∧ Up size d post ∧ 1 ≤ d ∧ told = root / 2 ^ (size - d).toNat ∧ left = number / 2 ^ (2 * (size - d)).toNat - told * told
structure LTurn (size root number d m told left : Int) (post : List Int) : Prop where
  d1 : 1 ≤ d
  e : d = (m + 1) / 2
  m2 : 2 ≤ m
  up : Up size m post
  t : told = root / 2 ^ (size - d).toNat
  l : left = number / 2 ^ (2 * (size - d)).toNat - told * told
theorem LInv.turn {size root number d told left m : Int} {ys pre post : List Int} (H : LInv size root number ys pre d told left) (e : ys = pre ++ m :: post) : LTurn size root number d m told left post := by
  obtain ⟨post', e', hu, h1, h2, h3⟩ := H
  have e2 : post' = m :: post := List.append_cancel_left (e'.symm.trans e)
  subst e2
  exact ⟨h1, hu.1, hu.2.1, hu.2.2, h2, h3⟩
theorem LTurn.next {size root number d m told left told' left' : Int} {ys pre post : List Int} (H : LTurn size root number d m told left post) (e : ys = pre ++ m :: post) (ht : told' = root / 2 ^ (size - m).toNat) (hl : left' = number / 2 ^ (2 * (size - m)).toNat - told' * told') :
    LInv size root number ys (pre ++ [m]) m told' left' := ⟨post, by rw [e, List.append_assoc]; rfl, H.up, by have := H.m2; omega, ht, hl⟩
theorem LRoot.bits {size root number m told left : Int} (L : LRoot size root number) (m1 : 1 ≤ m) (m2 : m ≤ size) (ht : told = root / 2 ^ (size - m).toNat) (hl : left = number / 2 ^ (2 * (size - m)).toNat - told * told) : intBits told ≤ 20000 ∧ intBits left ≤ 40000 := by
  have h := L.at m1 m2
  rw [← ht] at h
  have hs := L.s2
  have hm := ppos (m - 1).toNat
  have e : (2 : Int) ^ (m.toNat + 1) = 2 ^ m.toNat * 2 := Int.pow_succ ..
  exact ⟨Nat.le_trans (bits_of_lt (k := m.toNat) (by omega) h.2.1) (by omega), Nat.le_trans (bits_of_lt (k := m.toNat + 1) (by omega) (by omega)) (by omega)⟩
theorem LTurn.nextS {size root number d m told left told' left' head : Int} {ys pre post : List Int} (H : LTurn size root number d m told left post) (L : LRoot size root number) (e : ys = pre ++ m :: post) (hh : head = number / 2 ^ (2 * (size - m)).toNat) (ht : told' = root / 2 ^ (size - m).toNat) (hl : left' = head - told' * told') :
    LInv size root number ys (pre ++ [m]) m told' left' ∧ intBits told' ≤ 20000 ∧ intBits left' ≤ 40000 := by
  rw [hh] at hl
  have hb := L.bits (by have := H.m2; omega) (Up.le H.up) ht hl
  exact ⟨H.next e ht hl, hb.1, hb.2⟩
theorem LTurn.call {size root number d m to le step head h1 p1 upper sl : Int} {post : List Int} (T : LTurn size root number d m to le post) (L : LRoot size root number) (hstep : step = m - d) (hhead : head = number / 2 ^ (2 * (size - m)).toNat)
    (hh1 : h1 = head / 2 ^ step.toNat) (hp1 : p1 = 1 * 2 ^ step.toNat) (hup : upper = h1.fmod p1) (hsl : sl = le * 2 ^ step.toNat) :
    ∃ q o, Pre2 (sl + upper) (2 * to) (d + 1) q o ∧ (to * 2 ^ step.toNat + q = root / 2 ^ (size - m).toNat ∨ to * 2 ^ step.toNat + q = root / 2 ^ (size - m).toNat + 1) ∧
      (to * 2 ^ step.toNat + q) * (to * 2 ^ step.toNat + q) + (o * 2 ^ step.toNat + head % 2 ^ step.toNat - q * q) = head := by
  have ms := Up.le T.up
  obtain ⟨d1, e, m2, up, ht, hl⟩ := T
  have A := L.at (d := m) (by omega) ms
  have B := L.at (d := d) d1 (by omega)
  rw [← ht] at B
  have hS := ppos step.toNat
  have e1 : (2 : Int) ^ (size - d).toNat = 2 ^ (size - m).toNat * 2 ^ step.toNat := pow_split (by omega) (by omega) (by omega)
  have e2 : (2 : Int) ^ (2 * (size - d)).toNat = 2 ^ (2 * (size - m)).toNat * (2 ^ step.toNat * 2 ^ step.toNat) := by
    rw [pow_split (a := 2 * (size - m)) (b := 2 * step) (c := 2 * (size - d)) (by omega) (by omega) (by omega), pow_split (a := step) (b := step) (c := 2 * step) (by omega) (by omega) (by omega)]
  have eT := ppos (size - m).toNat
  have eT2 := ppos (2 * (size - m)).toNat
  have t1 : to = root / 2 ^ (size - m).toNat / 2 ^ step.toNat := by rw [ht, e1]; exact (Int.ediv_ediv_of_nonneg (by omega)).symm
  have l1 : le = head / (2 ^ step.toNat * 2 ^ step.toNat) - to * to := by rw [hl, e2, hhead]; congr 1; exact (Int.ediv_ediv_of_nonneg (by omega)).symm
  rw [← hhead] at A
  generalize hX : root / 2 ^ (size - m).toNat = X at *
  have x0 := Int.emod_nonneg X (show (2 : Int) ^ step.toNat ≠ 0 by omega)
  have x1 := Int.emod_lt_of_pos X hS
  have x2 : X = to * 2 ^ step.toNat + X % 2 ^ step.toNat := by rw [t1, Int.mul_comm]; exact (Int.mul_ediv_add_emod _ _).symm
  have d2 : (2 : Int) ^ d.toNat = 2 ^ (d - 1).toNat * 2 := by rw [← Int.pow_succ]; congr 1; omega
  have d3 : (2 : Int) ^ (d + 1).toNat = 2 ^ d.toNat * 2 := by rw [← Int.pow_succ]; congr 1; omega
  have d4 : (d + 1).toNat - 1 = d.toNat := by omega
  have d5 : (2 : Int) ^ step.toNat ≤ 2 ^ d.toNat := pmono (by omega)
  have hd1 := ppos (d - 1).toNat
  have ha : sl + upper = le * 2 ^ step.toNat + head / 2 ^ step.toNat % 2 ^ step.toNat := by
    rw [hsl, hup, hh1, hp1, Int.one_mul, fmodE _ hS]
  have t0 : 0 < 2 * to := by omega
  have o0 := Int.emod_nonneg (sl + upper) (show 2 * to ≠ 0 by omega)
  have o1 := Int.emod_lt_of_pos (sl + upper) t0
  have o2 : sl + upper = (sl + upper) / (2 * to) * (2 * to) + (sl + upper) % (2 * to) := by
    generalize sl + upper = y
    rw [Int.mul_comm]; exact (Int.mul_ediv_add_emod _ _).symm
  have C := root_core hS (by omega) x2 x0 x1 (by omega) A.2.2.1 A.2.2.2 l1 ha o2 o0 o1
  exact ⟨_, _, ⟨by omega, o2, C.2.2.1, by omega, o0, o1, by rw [d4]; omega, by omega⟩, C.1, C.2.1⟩
def LFin (size root head m told1 left1 : Int) : Prop :=
  (¬ left1 < 0 → told1 = root / 2 ^ (size - m).toNat ∧ left1 = head - told1 * told1) ∧ (left1 < 0 → told1 - 1 = root / 2 ^ (size - m).toNat ∧ left1 + (2 * (told1 - 1) + 1) = head - (told1 - 1) * (told1 - 1))
theorem LTurn.fin {size root number d m to le step head told1 left1 st so hm p2 q o : Int} {post : List Int} (T : LTurn size root number d m to le post) (L : LRoot size root number) (hstep : step = m - d) (hhead : head = number / 2 ^ (2 * (size - m)).toNat)
    (F1 : to * 2 ^ step.toNat + q = root / 2 ^ (size - m).toNat ∨ to * 2 ^ step.toNat + q = root / 2 ^ (size - m).toNat + 1)
    (F2 : (to * 2 ^ step.toNat + q) * (to * 2 ^ step.toNat + q) + (o * 2 ^ step.toNat + head % 2 ^ step.toNat - q * q) = head)
    (ht : told1 = st + q) (hl : left1 = so + hm - q * q) (hst : st = to * 2 ^ step.toNat) (hso : so = o * 2 ^ step.toNat) (hhm : hm = head.fmod p2) (hp2 : p2 = 1 * 2 ^ step.toNat) : LFin size root head m told1 left1 := by
  have ms := Up.le T.up
  have A := L.at (d := m) (by have := T.m2; omega) ms
  rw [← hhead] at A
  have hS := ppos step.toNat
  rw [Int.one_mul] at hp2
  subst hp2
  rw [fmodE _ hS] at hhm
  rw [← hst, ← ht] at F1 F2
  rw [← hso, ← hhm, ← hl] at F2
  have hm1 := ppos (m - 1).toNat
  unfold LFin
  generalize root / 2 ^ (size - m).toNat = X at *
  have e1 : (X + 1) * (X + 1) = X * X + 2 * X + 1 := by grind
  rcases F1 with F1 | F1
  · rw [F1] at F2 ⊢
    exact ⟨fun _ => ⟨rfl, by omega⟩, fun h => by omega⟩
  · rw [F1] at F2 ⊢
    have e2 : X + 1 - 1 = X := by omega
    rw [e2]
    exact ⟨fun h => by omega, fun _ => ⟨rfl, by omega⟩⟩
theorem LFin.n1 {size root head m told left z : Int} (H : LFin size root head m told left) (h : ¬ left < 0) (hz : z = root / 2 ^ (size - m).toNat) : told = z := by rw [hz]; exact (H.1 h).1
theorem LFin.n2 {size root head m told left : Int} (H : LFin size root head m told left) (h : ¬ left < 0) : left = head - told * told := (H.1 h).2
theorem LFin.n3 {size root head m told left z told2 : Int} (H : LFin size root head m told left) (h : left < 0) (ht : told2 = told - 1) (hz : z = root / 2 ^ (size - m).toNat) : told2 = z := by rw [hz, ht]; exact (H.2 h).1
theorem LFin.n4 {size root head m told left told2 left2 : Int} (H : LFin size root head m told left) (h : left < 0) (ht : told2 = told - 1) (hl : left2 = left + (2 * told2 + 1)) : left2 = head - told2 * told2 := by rw [hl, ht]; exact (H.2 h).2
theorem law3_start {size root number zs left0 : Int} {ys : List Int} (L : LRoot size root number) (hu : Up size 1 ys) (hz : zs = number / 2 ^ (2 * size - 2).toNat) (hl : left0 = zs - 1) : LInv size root number ys [] 1 1 left0 ∧ intBits 1 ≤ 20000 ∧ intBits left0 ≤ 40000 := by
  have A := L.at (d := 1) (by omega) (by have := L.s1; omega)
  have e1 : (2 : Int) ^ ((1 : Int) - 1).toNat = 1 := by decide
  have e2 : (2 : Int) ^ (1 : Int).toNat = 2 := by decide
  rw [e1, e2] at A
  have hr : root / 2 ^ (size - 1).toNat = 1 := by omega
  have e3 : (2 * size - 2).toNat = (2 * (size - 1)).toNat := by congr 1; omega
  rw [e3] at hz
  have h2 : left0 = number / 2 ^ (2 * (size - 1)).toNat - 1 * 1 := by omega
  have hb := L.bits (m := 1) (told := 1) (left := left0) (by omega) (by have := L.s1; omega) hr.symm h2
  exact ⟨⟨ys, rfl, hu, by omega, hr.symm, h2⟩, hb.1, hb.2⟩
theorem sizes_end {size : Int} {xs : List Int} (h : SWord size xs) (hl : ¬ 1 < lastI xs) : ∃ ys, (xs.take (xs.length - 1)).reverse = ys ∧ Up size 1 ys := by
  obtain ⟨⟨l, ys, rfl, hu⟩, _, h1⟩ := h
  rw [lastI_rev] at hl h1
  have e : l = 1 := by omega
  subst e
  have e2 : ((1 :: ys).reverse.take ((1 :: ys).reverse.length - 1)).reverse = ys := by
    rw [List.length_reverse, List.reverse_cons, List.length_cons, Nat.add_sub_cancel, List.take_append_of_le_length (by rw [List.length_reverse]; exact Nat.le_refl _), List.take_of_length_le (by rw [List.length_reverse]; exact Nat.le_refl _), List.reverse_reverse]
  exact ⟨ys, e2, hu⟩
theorem law3_root {size half x root rest number : Int} (hr : root = half + x) (hn : number = root * root + rest) (s1 : 2 ≤ size) (s2 : size ≤ 12000) (hh : half = 1 * 2 ^ (size - 1).toNat) (x0 : 0 ≤ x) (x1 : x < half) (r0 : 0 ≤ rest) (r1 : rest < 2 * root + 1) : LRoot size root number := by
  have e : (2 : Int) ^ size.toNat = 2 ^ (size - 1).toNat * 2 := by rw [← Int.pow_succ]; congr 1; omega
  exact ⟨s1, s2, by omega, by omega, by omega, by omega⟩
theorem ne_f {prog : Program} {w : World} {A : Around} {E : Value → Shared → Prop} {s : Shared} {a b : Int} {t u : Tok} {Q : Value → Shared → Prop} (e : a = b) (h : Q (.bool false) s) : wpAny (model prog w) A (compareOp .NotEq (.int a t) (.int b u)) Q E s :=
  ne_int (by rw [e]; simpa using h)
local macro_rules | `(tactic| bits_by_make) => `(tactic| with_reducible assumption)
local macro_rules | `(tactic| walk_at "storeName") => `(tactic| ((fail_if_success ((with_reducible refine abs_skip ?ka ?kb); (case ka => with_reducible assumption))); k_extra "abs"))
local macro_rules | `(tactic| walk_at "binaryOp Pow int int") => `(tactic| ((with_reducible refine' pow3_z ?ka ?kb ?_); (case ka => bits_by_make); (case kb => decide); k_extra "intro3"))
local macro_rules | `(tactic| walk_at "binaryOp Pow int int") => `(tactic| ((with_reducible refine pow2_p (N := 20000) ?kb1 ?kb2 ?kb3 ?_); (case kb1 => omega); (case kb2 => omega); (case kb3 => decide); k_extra "introP"))
local macro_rules | `(tactic| walk_at "binaryOp Mod int int") => `(tactic| ((with_reducible refine' mod_p ?ka ?kb ?_); (case ka => first | decide | assumption | k_extra "pos"); (case kb => bits_by_make); k_extra "introM"))
local macro_rules | `(tactic| walk_at "call ref") => `(tactic| k_extra "mycall")
local macro_rules | `(tactic| walk_at "binaryOp LShift int int") => `(tactic| ((with_reducible refine' shl_p (N := 40000) ?kb1 ?kb2 ?kb3 ?kb4 ?_); (case kb1 => omega); (case kb2 => bits_by_make); (case kb3 => omega); (case kb4 => decide); k_extra "introS"))
local macro_rules | `(tactic| walk_at "binaryOp RShift int int") => `(tactic| ((with_reducible refine' shr_p ?kb1 ?kb2 ?_); (case kb1 => omega); (case kb2 => bits_by_make); k_extra "introS"))
local macro_rules | `(tactic| walk_at "execs cons") => `(tactic| ((with_reducible refine gen_toks ?_); intro tk; (with_reducible refine wpAny_execs_cons ?_); try dsimp only))
local macro_rules | `(tactic| walk_at "execs nil") => `(tactic| ((with_reducible refine gen_toks ?_); intro tk; (with_reducible refine wpAny_execs_nil ?_)))
local macro_rules | `(tactic| walk_at "binaryOp Mult int int") => `(tactic| ((with_reducible refine' mul_p ?kb1 ?kb2 ?kb3 ?_); (case kb1 => bits_by_make); (case kb2 => bits_by_make); (case kb3 => decide)))
theorem last_z {prog : Program} {w : World} {A : Around} {E : Value → Shared → Prop} {s : Shared} {value slice : Expr} {l : Addr} {vs : List Value} {ns : List Int} {u : Tok} {Q : Value → Shared → Prop} (hl : s.heap.IsList l vs.toArray) (hi : IntsAre vs ns)
    (h1 : 1 ≤ ns.length) (h : ∀ t, Q (.int (lastI ns) t) s)
    (hs : subscripted slice false (.ref l) (.int (-1) u) = operate [.ref l, .int (-1) u] (getItem (.ref l) (.int (-1) u)) := by with_unfolding_all rfl) (hg : ∀ r, letTemporaryGo value (.ref l) r = pure () := by intro _; with_unfolding_all rfl) :
    wpAny (model prog w) A (subscriptTail value slice (.ref l) (.int (-1) u)) Q E s := item_list_ints_neg hl hi (by decide) (by omega) (by decide) h hs hg
local macro_rules | `(tactic| walk_at "subscriptTail Name UnaryOp ref int") => `(tactic| ((with_reducible show wpAny _ _ (subscriptTail _ _ (Value.ref _) (Value.int _ _)) _ _ _); (with_unfolding_all refine' last_z ?k1 ?k2 ?k3 ?_; (case k1 => is_list); (case k2 => l_ints); (case k3 => assumption); k_whole); intro _))
local macro_rules | `(tactic| walk_at "exec While Compare cons nil") => `(tactic| k_extra "mywhile")
local macro_rules | `(tactic| walk_at "pyIter ref") => `(tactic| k_extra "rev")
local macro_rules | `(tactic| walk_at "compareOp NotEq int int") => `(tactic| k_extra "ne")
set_option maxRecDepth 100000 in
set_option maxHeartbeats 8000000 in
theorem X : PySem.Challenge.rw_dn0134_03.Holds := hd (by
  k_with_none
  k_with "abs" => (first
    | ((with_reducible show wpAny _ _ (storeName _ (Str.ofString "size") _) _ _ _); (with_reducible refine' abs_store ?ka ?_); (case ka => bits_by_make); intro size asize hsize bsize)
    | ((with_reducible show wpAny _ _ (storeName _ (Str.ofString "root") _) _ _ _); (with_reducible refine' abs_store ?ka ?_); (case ka => bits_by_make); intro root aroot hroot broot)
    | ((with_reducible show wpAny _ _ (storeName _ (Str.ofString "number") _) _ _ _); (with_reducible refine' abs_store ?ka ?_); (case ka => bits_by_make); intro number anumber hnumber bnumber)
    | ((with_reducible show wpAny _ _ (storeName _ (Str.ofString "done") _) _ _ _); (with_reducible refine' abs_store ?ka ?_); (case ka => bits_by_make); intro done adone hdone bdone)
    | ((with_reducible show wpAny _ _ (storeName _ (Str.ofString "told") _) _ _ _); (with_reducible refine' abs_store ?ka ?_); (case ka => bits_by_make); intro told atold htold btold)
    | ((with_reducible show wpAny _ _ (storeName _ (Str.ofString "step") _) _ _ _); (with_reducible refine' abs_store ?ka ?_); (case ka => bits_by_make); intro step astep hstep bstep)
    | ((with_reducible show wpAny _ _ (storeName _ (Str.ofString "head") _) _ _ _); (with_reducible refine' abs_store ?ka ?_); (case ka => bits_by_make); intro head ahead hhead bhead)
    | ((with_reducible show wpAny _ _ (storeName _ (Str.ofString "left") _) _ _ _); (with_reducible refine' abs_store ?ka ?_); (case ka => bits_by_make); intro left aleft hleft bleft; (try (have hfin := hT.fin hRoot hstep (by assumption) hF1 hF2 htold hleft (by assumption) (by assumption) (by assumption) (by assumption))))
    | ((with_reducible refine' abs_store ?ka ?_); (case ka => bits_by_make); intro z az hz bz))
  k_with "introM" => (intro zm am hzm lom him bzm)
  k_with "introS" => (intro zs as hzs bzs; (try (have pzs := shl1_pos hzs)))
  k_with "pos" => (first | omega)
  k_with "mywhile" => ((k_while (fun _ xs => SWord size xs ∧ 1 ≤ xs.length ∧ xs.length ≤ 12001) (fun _ xs => (lastI xs).toNat) "sizes"))
  k_with "state" => (first
    | exact sizes_start (by omega) (by omega)
    | exact sizes_turn (by assumption) (by assumption) (by omega)
    | exact hT.nextS hRoot kEq (by assumption) (hfin.n1 (by assumption) rfl) (hfin.n2 (by assumption))
    | exact hT.nextS hRoot kEq (by assumption) (hfin.n3 (by assumption) (by assumption) rfl) (hfin.n4 (by assumption) (by assumption) (by assumption))
   )
  k_with "measure" => (exact sizes_less (by assumption))
  k_with "ne" => ((refine ne_f ?ka ?_); (case ka => first | exact hfin.n1 (by assumption) (by assumption) | exact hfin.n2 (by assumption) | exact hfin.n3 (by assumption) (by assumption) (by assumption) | exact hfin.n4 (by assumption) (by assumption) (by assumption)))
  k_with "rev" => (
    have hRoot : LRoot size root number := by (exact law3_root hroot hnumber (by omega) (by omega) (by assumption) (by assumption) (by assumption) (by assumption) (by assumption))
    obtain ⟨ys, hys, hUp⟩ := sizes_end (by assumption) (by assumption)
    (rename Fr _ _ _ _ => lF'); (rename News _ _ _ _ => lN'); (rename IntsAre _ (List.take _ _) => hI9)
    (with_unfolding_all refine' kst_rev (σ := Int × Nat × Int × Nat × Int × Nat) (fun _ => []) (fun c => [(Str.ofString "done", Value.int c.1 c.2.1), (Str.ofString "told", Value.int c.2.2.1 c.2.2.2.1), (Str.ofString "left", Value.int c.2.2.2.2.1 c.2.2.2.2.2)]) (fun _ => True) [Str.ofString "step", Str.ofString "head", Str.ofString "upper", Str.ofString "quotient", Str.ofString "over"] (fun pre c => LInv size root number ys pre c.1 c.2.2.1 c.2.2.2.2.1 ∧ intBits c.2.2.1 ≤ 20000 ∧ intBits c.2.2.2.2.1 ≤ 40000) (done, _, told, _, left, _) (by rfl) hI9 lF' lN' (List.Mem.head _) (List.Mem.tail _ (List.Mem.head _)) ?kne (List.forall_mem_nil _) (List.forall_mem_nil _) True.intro ?kk ?kp ?kturn ?kdone)
    (case kne => k_ne)
    (case kk => kst_all)
    (case kp => (subst hdone; subst htold; exact law3_start hRoot hUp (by assumption) (by assumption)))
    (all_goals (try clear lF' lN'))
    (case' kturn => (
      rintro ⟨d, td, to, tt, le, tl⟩ kPre kPost kN kT kU kH kTk kOwn kEq kMem kOff kFacts kInv kFr kNews
      have kMark := kstMark
      dsimp only [kstB] at kFr
      dsimp only at kNews kInv
      simp only [List.nil_append] at kNews
      rw [hys] at kEq
      obtain ⟨kI, kB1, kB2⟩ := kInv
      have hT := kI.turn kEq
      have hT1 := hT.d1
      have hT2 := hT.e
      have hT3 := hT.m2
      have hT4 := Up.le hT.up
      have ad : Abs d := .mk
      have akN : Abs kN := .mk
      have ato : Abs to := .mk
      have ale : Abs le := .mk))
    (case' kdone => (
      rintro ⟨d, td, to, tt, le, tl⟩ kU kH kTk kFacts kInv kFr kNews
      have kMark := kstMark
      dsimp only [kstB] at kFr
      dsimp only at kNews kInv))
    (all_goals (try dsimp only))
    (all_goals (try k_fold)))
  k_with "mycall" => (
      (with_reducible show wpAny _ _ (call (Value.ref 21) _ _) _ _ _)
      obtain ⟨q, o, hP2, hF1, hF2⟩ := hT.call hRoot (by assumption) (by assumption) (by assumption) (by assumption) (by assumption) (by assumption)
      have aq : Abs q := .mk
      have ao : Abs o := .mk
      have hbq := hP2.bq (N := 20000) (by omega)
      have hbo := hP2.br (N := 20000) (by omega)
      have ho0 := hP2.r0
      have ho1 := hP2.r1
      k_dflt (refine' pair_use ?k1 ?k2 ?k3 ?k4 ?k5 ?kK (use2 hP2 ?kn) ?kd ?ku ?_)
      (case k1 => k_asm)
      (case k2 => k_asm)
      (case k3 => k_asm)
      (case k4 => k_asm)
      (case k5 => k_asm)
      (case kK => exact rfl)
      (case kd => ktr_room)
      (case ku => ktr_units)
      (case kn => omega)
      intro D' x1 x2 c' h' tk' F' N' l'
      (try dsimp only)
      (try k_fold))
  k_go0
  (all_goals try k_fold)
  k_steps)
end Mine
theorem PySem.Challenge.cw_dn0134_03_holds : PySem.Challenge.rw_dn0134_03.Holds :=
  Mine.X
