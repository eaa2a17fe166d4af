import PyProof.Rows.All
import Wide.All
import OpenK.AllK
import Wide.FinOn
import PySem.Challenge.RW_dn0134_10
open PySem PySem.W PyProof.Rows
set_option Elab.async false
namespace Mine
open PySem.Builtin.Int (intBits)

theorem ppos (k : Nat) : (0 : Int) < 2 ^ k := kbt_pos k
theorem pmono {i j : Nat} (h : i ≤ j) : (2 : Int) ^ i ≤ 2 ^ j := by
  have := Nat.pow_le_pow_right (n := 2) (by decide) h
  rw [← kbt_cast, ← kbt_cast]; omega
theorem uniqNN {q b r q' r' : Int} (h : q * b + r = q' * b + r') (r0 : 0 ≤ r) (r1 : r < b) (r0' : 0 ≤ r') (r1' : r' < b) : q = q' ∧ r = r' := by
  have hb : 0 < b := by omega
  have h1 := kbt_unique (a := q * b + r) (b := b) (q := q) (r := r) hb (by rw [Int.mul_comm b q]; omega) r0 r1
  have h2 := kbt_unique (a := q * b + r) (b := b) (q := q') (r := r') hb (by rw [Int.mul_comm b q']; omega) r0' r1'
  exact ⟨h1.1.symm.trans h2.1, h1.2.symm.trans h2.2⟩
theorem mul_le_of {a b c : Int} (hc : 0 ≤ c) (h : a ≤ b) : a * c ≤ b * c := Int.mul_le_mul_of_nonneg_right h hc
theorem mul_lt_of {a b c : Int} (hc : 0 < c) (h : a < b) : a * c < b * c := Int.mul_lt_mul_of_pos_right h hc
theorem lt_of_mul {a b c : Int} (hc : 0 < c) (h : a * c < b * c) : a < b := Int.lt_of_mul_lt_mul_right h (Int.le_of_lt hc)
theorem bits_of_lt {x : Int} {k : Nat} (h0 : 0 ≤ x) (h : x < 2 ^ k) : intBits x ≤ k := by
  refine intBits_le_iff.mpr ?_
  have := kbt_cast k
  omega
theorem lt_of_bits {x : Int} {k : Nat} (h : intBits x ≤ k) : x < 2 ^ k := by
  have h1 := intBits_le_iff.mp h
  have := kbt_cast k
  omega
theorem fdivP (a : Int) (k : Nat) : a.fdiv (2 ^ k) = a / 2 ^ k := Int.fdiv_eq_ediv_of_nonneg _ (Int.le_of_lt (kbt_pos k))
theorem and_all (x : Int) : Builtin.bitAnd x (-1) = x := by
  have hn : ¬ (0 : Int) ≤ -1 := by decide
  have e : (Builtin.bitNot (-1)).toNat = 0 := by decide
  by_cases hx : 0 ≤ x
  · rw [bitAnd_pn hx hn, e, Nat.and_zero]; simp
  · rw [bitAnd_nn hx hn, e, Nat.or_zero]
    unfold Builtin.bitNot
    omega
/-- the bits of the one and of the other -/
theorem or_add {x y : Int} {k : Nat} (y0 : 0 ≤ y) (y1 : y < 2 ^ k) : Builtin.bitOr (x * 2 ^ k) y = x * 2 ^ k + y := by
  have hp := kbt_pos k
  have key : ∀ k : Nat, ∀ x y : Int, 0 ≤ y → y < 2 ^ k → Builtin.bitAnd (Builtin.bitNot (x * 2 ^ k)) (Builtin.bitNot y) = Builtin.bitNot (x * 2 ^ k + y) := by
    intro k
    induction k with
    | zero =>
      intro x y h0 h1
      have : y = 0 := by rw [Int.pow_zero] at h1; omega
      subst this
      rw [Int.add_zero]
      have e : Builtin.bitNot 0 = -1 := rfl
      rw [e, and_all]
    | succ k ih =>
      intro x y h0 h1
      rw [Int.pow_succ] at h1
      rw [kbt_halves]
      have e1 : Builtin.bitNot (x * 2 ^ (k + 1)) / 2 = Builtin.bitNot (x * 2 ^ k) := by
        unfold Builtin.bitNot
        rw [Int.pow_succ, ← Int.mul_assoc]; omega
      have e2 : Builtin.bitNot y / 2 = Builtin.bitNot (y / 2) := by unfold Builtin.bitNot; omega
      rw [e1, e2, ih x (y / 2) (by omega) (by omega)]
      unfold Builtin.bitNot
      rw [Int.pow_succ, ← Int.mul_assoc]
      generalize x * 2 ^ k = z
      split <;> omega
  unfold Builtin.bitOr
  rw [key k x y y0 y1]
  unfold Builtin.bitNot; omega
end Mine
namespace Mine
open PySem.Builtin.Int (intBits)
structure Pre2 (a b n q r : Int) : Prop where
  n1 : 1 ≤ n
  e : a = q * b + r
  q0 : 0 ≤ q
  q1 : q < 2 ^ n.toNat
  r0 : 0 ≤ r
  r1 : r < b
  b1 : 2 ^ (n.toNat - 1) ≤ b
  b2 : b < 2 ^ n.toNat
structure Pre3 (a12 a3 b b1 b2 n q r : Int) : Prop where
  n1 : 1 ≤ n
  ea : a12 * 2 ^ n.toNat + a3 = q * b + r
  q0 : 0 ≤ q
  q1 : q < 2 ^ n.toNat
  r0 : 0 ≤ r
  r1 : r < b
  e : b = b1 * 2 ^ n.toNat + b2
  b10 : 2 ^ (n.toNat - 1) ≤ b1
  b11 : b1 < 2 ^ n.toNat
  b20 : 0 ≤ b2
  b21 : b2 < 2 ^ n.toNat
  a30 : 0 ≤ a3
  a31 : a3 < 2 ^ n.toNat
section
variable {a12 a3 b b1 b2 n q r : Int}
theorem Pre3.a12b (H : Pre3 a12 a3 b b1 b2 n q r) : 0 ≤ a12 ∧ a12 < b := by
  obtain ⟨n1, ea, q0, q1, r0, r1, e, b10, b11, b20, b21, a30, a31⟩ := H
  have hP := ppos n.toNat
  have hB := ppos (n.toNat - 1)
  generalize (2 : Int) ^ n.toNat = P at *
  have hb1 : 0 ≤ b1 * P := Int.mul_nonneg (by omega) (by omega)
  have hb : 0 < b := by omega
  constructor
  · have h0 : 0 ≤ q * b := Int.mul_nonneg q0 (by omega)
    have : (-1) * P < a12 * P := by omega
    have := lt_of_mul hP this
    omega
  · refine lt_of_mul hP ?_
    have h1 : (q + 1) * b ≤ P * b := mul_le_of (by omega) (by omega)
    rw [Int.add_mul, Int.one_mul, Int.mul_comm P b] at h1
    omega
theorem Pre3.eqCase (H : Pre3 a12 a3 b b1 b2 n q r) (h : a12 / 2 ^ n.toNat = b1) :
    (2 ^ n.toNat - 1) * b + ((a12 - b1 * 2 ^ n.toNat + b1) * 2 ^ n.toNat + a3 - (2 ^ n.toNat - 1) * b2) = q * b + r ∧
      (a12 - b1 * 2 ^ n.toNat + b1) * 2 ^ n.toNat + a3 - (2 ^ n.toNat - 1) * b2 < b ∧ 0 ≤ a12 - b1 * 2 ^ n.toNat + b1 ∧ a12 - b1 * 2 ^ n.toNat + b1 < 2 ^ (n.toNat + 1) := by
  have h2 := H.a12b
  obtain ⟨n1, ea, q0, q1, r0, r1, e, b10, b11, b20, b21, a30, a31⟩ := H
  have hP := ppos n.toNat
  have hB := ppos (n.toNat - 1)
  have hs : (2 : Int) ^ (n.toNat + 1) = 2 ^ n.toNat * 2 := Int.pow_succ ..
  rw [hs]
  generalize (2 : Int) ^ n.toNat = P at *
  have hm := Int.emod_nonneg a12 (show P ≠ 0 by omega)
  have hm2 := Int.emod_lt_of_pos a12 hP
  have hd := Int.emod_def a12 P
  rw [h, Int.mul_comm P b1] at hd
  generalize hx : a12 - b1 * P = x at *
  have h3 : x * P ≤ (b2 - 1) * P := mul_le_of (by omega) (by omega)
  have e1 : (x + b1) * P = x * P + b1 * P := Int.add_mul ..
  have e2 : (b2 - 1) * P = b2 * P - P := by rw [Int.sub_mul, Int.one_mul]
  have e3 : (P - 1) * b2 = b2 * P - b2 := by rw [Int.sub_mul, Int.one_mul, Int.mul_comm]
  have e4 : (P - 1) * b = b * P - b := by rw [Int.sub_mul, Int.one_mul, Int.mul_comm]
  have e5 : b * P = b1 * P * P + b2 * P := by rw [e, Int.add_mul]
  have e6 : a12 * P = b1 * P * P + x * P := by rw [← hx, Int.sub_mul]; omega
  refine ⟨by omega, by omega, by omega, by omega⟩
theorem Pre3.neCase (H : Pre3 a12 a3 b b1 b2 n q r) (h : a12 / 2 ^ n.toNat ≠ b1) : ∃ q' r', Pre2 a12 b1 n q' r' := by
  have h2 := H.a12b
  obtain ⟨n1, ea, q0, q1, r0, r1, e, b10, b11, b20, b21, a30, a31⟩ := H
  have hP := ppos n.toNat
  have hB := ppos (n.toNat - 1)
  have hb1 : 0 < b1 := by omega
  have h3 : a12 < b1 * 2 ^ n.toNat := by
    generalize (2 : Int) ^ n.toNat = P at *
    have h4 : a12 / P < b1 + 1 := Int.ediv_lt_of_lt_mul hP (by rw [Int.add_mul]; omega)
    exact Int.lt_mul_of_ediv_lt hP (by omega)
  refine ⟨a12 / b1, a12 % b1, n1, ?_, Int.ediv_nonneg h2.1 (by omega), Int.ediv_lt_of_lt_mul hb1 (by rw [Int.mul_comm]; exact h3), Int.emod_nonneg _ (by omega), Int.emod_lt_of_pos _ hb1, b10, b11⟩
  rw [Int.mul_comm]; exact (Int.mul_ediv_add_emod a12 b1).symm
theorem Pre3.ne2 (H : Pre3 a12 a3 b b1 b2 n q r) {q' r' : Int} (h : Pre2 a12 b1 n q' r') :
    q' * b + (r' * 2 ^ n.toNat + a3 - q' * b2) = q * b + r ∧ r' * 2 ^ n.toNat + a3 - q' * b2 < b := by
  obtain ⟨n1, ea, q0, q1, r0, r1, e, b10, b11, b20, b21, a30, a31⟩ := H
  obtain ⟨_, e', q0', q1', r0', r1', _, _⟩ := h
  have hP := ppos n.toNat
  generalize (2 : Int) ^ n.toNat = P at *
  have h1 : 0 ≤ q' * b2 := Int.mul_nonneg q0' b20
  have h2 : r' * P ≤ (b1 - 1) * P := mul_le_of (by omega) (by omega)
  have e2 : (b1 - 1) * P = b1 * P - P := by rw [Int.sub_mul, Int.one_mul]
  refine ⟨?_, by omega⟩
  rw [← ea, e', e, Int.mul_add, Int.add_mul, ← Int.mul_assoc]
  omega
end
section
variable {a b n q r : Int}
theorem Pre2.pad (H : Pre2 a b n q r) : Pre2 (a * 2) (b * 2) (n + 1) q (r * 2) := by
  obtain ⟨n1, e, q0, q1, r0, r1, b1, b2⟩ := H
  have e1 : (n + 1).toNat = n.toNat + 1 := by omega
  have e2 : (n + 1).toNat - 1 = (n.toNat - 1) + 1 := by omega
  have hs : (2 : Int) ^ (n.toNat + 1) = 2 ^ n.toNat * 2 := Int.pow_succ ..
  have hs' : (2 : Int) ^ (n.toNat - 1 + 1) = 2 ^ (n.toNat - 1) * 2 := Int.pow_succ ..
  have hP := ppos n.toNat
  refine ⟨by omega, ?_, q0, ?_, by omega, by omega, ?_, ?_⟩
  · rw [e, Int.add_mul, Int.mul_assoc]
  · rw [e1, hs]; omega
  · rw [e2, hs']; omega
  · rw [e1, hs]; omega
/-- the first half's division and the second's -/
theorem Pre2.halves (H : Pre2 a b n q r) {h : Int} (hn : n = h * 2) : ∃ q1 r1 q2, Pre3 (a / 2 ^ n.toNat) ((a / 2 ^ h.toNat) % 2 ^ h.toNat) b (b / 2 ^ h.toNat) (b % 2 ^ h.toNat) h q1 r1 ∧
    Pre3 r1 (a % 2 ^ h.toNat) b (b / 2 ^ h.toNat) (b % 2 ^ h.toNat) h q2 r ∧ q = q1 * 2 ^ h.toNat + q2 := by
  obtain ⟨n1, e, q0, q1, r0, r1, b1, b2⟩ := H
  have hb : 0 < b := by omega
  have hk : n.toNat = h.toNat + h.toNat := by omega
  have hk' : n.toNat - 1 = (h.toNat - 1) + h.toNat := by omega
  have hP := ppos h.toNat
  have hP' := ppos (h.toNat - 1)
  have ep : (2 : Int) ^ n.toNat = 2 ^ h.toNat * 2 ^ h.toNat := by rw [hk, Int.pow_add]
  have ep' : (2 : Int) ^ (n.toNat - 1) = 2 ^ (h.toNat - 1) * 2 ^ h.toNat := by rw [hk', Int.pow_add]
  have h1 : 1 ≤ h := by omega
  rw [ep] at b2 q1 ⊢
  rw [ep'] at b1
  have a0 : 0 ≤ a := by
    have : 0 ≤ q * b := Int.mul_nonneg q0 (by omega)
    omega
  have k1 : 2 ^ (h.toNat - 1) ≤ b / 2 ^ h.toNat := Int.le_ediv_of_mul_le hP b1
  have k2 : b / 2 ^ h.toNat < 2 ^ h.toNat := Int.ediv_lt_of_lt_mul hP b2
  have k3 := Int.emod_nonneg b (show (2 : Int) ^ h.toNat ≠ 0 by omega)
  have k4 := Int.emod_lt_of_pos b hP
  have k5 : b = b / 2 ^ h.toNat * 2 ^ h.toNat + b % 2 ^ h.toNat := by rw [Int.mul_comm]; exact (Int.mul_ediv_add_emod b _).symm
  have c3 := Int.emod_nonneg (a / 2 ^ h.toNat) (show (2 : Int) ^ h.toNat ≠ 0 by omega)
  have c4 := Int.emod_lt_of_pos (a / 2 ^ h.toNat) hP
  have d3 := Int.emod_nonneg a (show (2 : Int) ^ h.toNat ≠ 0 by omega)
  have d4 := Int.emod_lt_of_pos a hP
  have f1 : a / (2 ^ h.toNat * 2 ^ h.toNat) = a / 2 ^ h.toNat / 2 ^ h.toNat := (Int.ediv_ediv_of_nonneg (by omega)).symm
  rw [f1]
  have f2 : a / 2 ^ h.toNat / 2 ^ h.toNat * 2 ^ h.toNat + (a / 2 ^ h.toNat) % 2 ^ h.toNat = a / 2 ^ h.toNat := by rw [Int.mul_comm]; exact Int.mul_ediv_add_emod _ _
  have f3 : a / 2 ^ h.toNat * 2 ^ h.toNat + a % 2 ^ h.toNat = a := by rw [Int.mul_comm]; exact Int.mul_ediv_add_emod _ _
  have g0 : 0 ≤ a / 2 ^ h.toNat := Int.ediv_nonneg a0 (by omega)
  have g1 : a / 2 ^ h.toNat < 2 ^ h.toNat * b := by
    refine Int.ediv_lt_of_lt_mul hP ?_
    have h3 : (q + 1) * b ≤ 2 ^ h.toNat * 2 ^ h.toNat * b := mul_le_of (by omega) (by omega)
    rw [Int.add_mul, Int.one_mul] at h3
    rw [Int.mul_right_comm]
    omega
  generalize hx : a / 2 ^ h.toNat = x at *
  have m1 := Int.emod_nonneg x (show b ≠ 0 by omega)
  have m2 := Int.emod_lt_of_pos x hb
  have m3 : x = x / b * b + x % b := by rw [Int.mul_comm]; exact (Int.mul_ediv_add_emod x b).symm
  have m4 : x / b < 2 ^ h.toNat := Int.ediv_lt_of_lt_mul hb g1
  have m5 : 0 ≤ x / b := Int.ediv_nonneg g0 (by omega)
  generalize x / b = y at *
  generalize x % b = z at *
  have w0 : 0 ≤ z * 2 ^ h.toNat := Int.mul_nonneg m1 (by omega)
  have w1 : z * 2 ^ h.toNat ≤ (b - 1) * 2 ^ h.toNat := mul_le_of (by omega) (by omega)
  have w2 : (b - 1) * 2 ^ h.toNat = 2 ^ h.toNat * b - 2 ^ h.toNat := by rw [Int.sub_mul, Int.one_mul, Int.mul_comm]
  have v1 := Int.emod_nonneg (z * 2 ^ h.toNat + a % 2 ^ h.toNat) (show b ≠ 0 by omega)
  have v2 := Int.emod_lt_of_pos (z * 2 ^ h.toNat + a % 2 ^ h.toNat) hb
  have v3 : z * 2 ^ h.toNat + a % 2 ^ h.toNat = (z * 2 ^ h.toNat + a % 2 ^ h.toNat) / b * b + (z * 2 ^ h.toNat + a % 2 ^ h.toNat) % b := by
    generalize z * 2 ^ h.toNat + a % 2 ^ h.toNat = y'
    rw [Int.mul_comm]; exact (Int.mul_ediv_add_emod _ b).symm
  have v4 : (z * 2 ^ h.toNat + a % 2 ^ h.toNat) / b < 2 ^ h.toNat := Int.ediv_lt_of_lt_mul hb (by omega)
  have v5 : 0 ≤ (z * 2 ^ h.toNat + a % 2 ^ h.toNat) / b := Int.ediv_nonneg (by omega) (by omega)
  generalize hu : (z * 2 ^ h.toNat + a % 2 ^ h.toNat) / b = u at *
  generalize hv : (z * 2 ^ h.toNat + a % 2 ^ h.toNat) % b = v at *
  have U : q = y * 2 ^ h.toNat + u ∧ r = v := by
    refine uniqNN (b := b) ?_ r0 r1 v1 v2
    rw [← e, ← f3, m3, Int.add_mul, Int.add_mul, Int.mul_right_comm y b]
    omega
  obtain ⟨U1, rfl⟩ := U
  exact ⟨y, z, u, ⟨h1, by rw [f2]; exact m3, m5, m4, m1, m2, k5, k1, k2, k3, k4, c3, c4⟩, ⟨h1, v3, v5, v4, v1, v2, k5, k1, k2, k3, k4, d3, d4⟩, U1⟩
end
end Mine
namespace Mine
section
variable {a12 a3 b b1 b2 n q r : Int}
theorem Pre3.start1 (H : Pre3 a12 a3 b b1 b2 n q r) (h : a12.fdiv (2 ^ n.toNat) = b1) :
    (1 * 2 ^ n.toNat - 1) * b + (Builtin.bitOr ((a12 - b1 * 2 ^ n.toNat + b1) * 2 ^ n.toNat) a3 - (1 * 2 ^ n.toNat - 1) * b2) = q * b + r ∧ Builtin.bitOr ((a12 - b1 * 2 ^ n.toNat + b1) * 2 ^ n.toNat) a3 - (1 * 2 ^ n.toNat - 1) * b2 < b := by
  rw [or_add H.a30 H.a31, Int.one_mul]
  have h' := H.eqCase (by rw [← fdivP]; exact h)
  exact ⟨h'.1, h'.2.1⟩
theorem Pre3.start2 (H : Pre3 a12 a3 b b1 b2 n q r) {q' r' : Int} (h : Pre2 a12 b1 n q' r') :
    q' * b + (Builtin.bitOr (r' * 2 ^ n.toNat) a3 - q' * b2) = q * b + r ∧ Builtin.bitOr (r' * 2 ^ n.toNat) a3 - q' * b2 < b := by
  rw [or_add H.a30 H.a31]
  exact H.ne2 h
theorem d3_turn {x y b c : Int} (h : y * b + x = c ∧ x < b) (h0 : x < 0) : (y - 1) * b + (x + b) = c ∧ x + b < b := by
  rw [Int.sub_mul, Int.one_mul]; omega
end
end Mine
namespace Mine
theorem Pre3.fin {a12 a3 b b1 b2 n q r x y : Int} (H : Pre3 a12 a3 b b1 b2 n q r) (h : y * b + x = q * b + r) (h0 : ¬ x < 0) (h1 : x < b) : y = q ∧ x = r :=
  uniqNN h (by omega) h1 H.r0 H.r1
theorem news_sub {h₀ h : Heap} {L : Addr} {news news' : List (Addr × Obj)} (N : News h₀ L h news') (hs : ∀ p ∈ news, p ∈ news') : News h₀ L h news := fun p hp => N p (hs p hp)
theorem sub0 {p : Addr × Obj} {l l' : List (Addr × Obj)} (h : ∀ q ∈ l, q ∈ l') : ∀ q ∈ p :: l, q ∈ p :: l' := fun q hq => (List.mem_cons.mp hq).elim (fun e => e ▸ .head _) fun m => .tail _ (h q m)
theorem sub1 {p : Addr × Obj} {l l' : List (Addr × Obj)} (h : ∀ q ∈ l, q ∈ l') : ∀ q ∈ l, q ∈ p :: l' := fun q hq => .tail _ (h q hq)
theorem subr {l : List (Addr × Obj)} : ∀ q ∈ l, q ∈ l := fun _ h => h
end Mine
namespace Mine
open PySem.Builtin.Int (intBits)
section
variable {a b n q r : Int}
theorem Pre2.a0 (H : Pre2 a b n q r) : 0 ≤ a := by
  have h1 := H.r0; have h2 := H.r1
  have : 0 ≤ q * b := Int.mul_nonneg H.q0 (by omega)
  have := H.e
  omega
theorem Pre2.alt (H : Pre2 a b n q r) : a < 2 ^ (n.toNat + n.toNat) := by
  have h1 := H.r0; have h2 := H.r1
  have h3 : (q + 1) * b ≤ 2 ^ n.toNat * b := mul_le_of (by omega) (by have := H.q1; omega)
  have h4 : b * 2 ^ n.toNat ≤ 2 ^ n.toNat * 2 ^ n.toNat := mul_le_of (Int.le_of_lt (ppos _)) (Int.le_of_lt H.b2)
  rw [Int.pow_add]
  have := H.e
  rw [Int.add_mul, Int.one_mul] at h3
  rw [Int.mul_comm b] at h4
  omega
theorem Pre2.big (H : Pre2 a b n q r) (h : ¬ (intBits a : Int) - n ≤ 4000) : 4000 < n := by
  have h1 := bits_of_lt H.a0 H.alt
  have := H.n1
  omega
theorem and_mask (x : Int) (k : Nat) : Builtin.bitAnd x (1 * 2 ^ k - 1) = x % 2 ^ k := by rw [Int.one_mul, kbt_mask]
theorem Pre2.halvesT (H : Pre2 a b n q r) {h : Int} (hn : n = h * 2) : ∃ q1 r1 q2, Pre3 (a.fdiv (2 ^ n.toNat)) (Builtin.bitAnd (a.fdiv (2 ^ h.toNat)) (1 * 2 ^ h.toNat - 1)) b (b.fdiv (2 ^ h.toNat)) (Builtin.bitAnd b (1 * 2 ^ h.toNat - 1)) h q1 r1 ∧
    Pre3 r1 (Builtin.bitAnd a (1 * 2 ^ h.toNat - 1)) b (b.fdiv (2 ^ h.toNat)) (Builtin.bitAnd b (1 * 2 ^ h.toNat - 1)) h q2 r ∧ Builtin.bitOr (q1 * 2 ^ h.toNat) q2 = q := by
  simp only [fdivP, and_mask]
  obtain ⟨q1, r1, q2, h1, h2, h3⟩ := H.halves hn
  exact ⟨q1, r1, q2, h1, h2, by rw [or_add h2.q0 h2.q1]; exact h3.symm⟩
theorem halves0 (hp : Builtin.bitAnd n 1 = 0) : n = n.fdiv (2 ^ (1 : Int).toNat) * 2 := by
  rw [bitAnd_m1] at hp
  have e : (2 : Int) ^ (1 : Int).toNat = 2 := by decide
  rw [e, Int.fdiv_eq_ediv_of_nonneg _ (by decide)]
  omega
theorem halves1 (hp : Builtin.bitAnd n 1 ≠ 0) : n + 1 = (n + 1).fdiv (2 ^ (1 : Int).toNat) * 2 := by
  rw [bitAnd_m1] at hp
  have e : (2 : Int) ^ (1 : Int).toNat = 2 := by decide
  rw [e, Int.fdiv_eq_ediv_of_nonneg _ (by decide)]
  omega
theorem Pre2.padT (H : Pre2 a b n q r) : Pre2 (a * 2 ^ (1 : Int).toNat) (b * 2 ^ (1 : Int).toNat) (n + 1) q (r * 2) := H.pad
theorem halfLe {n h : Int} {j : Nat} (hn : n = h * 2) (hk : n ≤ 2 ^ (j + 1) + 1) : h ≤ 2 ^ j := by
  rw [Int.pow_succ] at hk; omega
theorem Pre2.fdm (H : Pre2 a b n q r) : a.fdiv b = q ∧ a.fmod b = r := by
  have h1 := H.r0; have h2 := H.r1
  rw [Int.fdiv_eq_ediv_of_nonneg _ (by omega), Int.fmod_eq_emod_of_nonneg _ (by omega)]
  exact kbt_unique (by omega) (by rw [H.e, Int.mul_comm]; omega) h1 h2
end
theorem half_z {prog : Program} {w : World} {A : Around} {E : Value → Shared → Prop} {s : Shared} {Q : Value → Shared → Prop} {n : Int} {t u : Tok} (he : n = n.fdiv (2 ^ (1 : Int).toNat) * 2) (h : ∀ z, n = z * 2 → Q (.int z s.toks) { s with toks := s.toks + 1 }) :
    wpAny (model prog w) A (binaryOp .RShift (.int n t) (.int 1 u)) Q E s := rshift_int (by decide) (h _ he)
theorem ihalf_z {prog : Program} {w : World} {A : Around} {E : Value → Shared → Prop} {s : Shared} {Q : Value → Shared → Prop} {r : Int} {t u : Tok} (h : Q (.int r s.toks) { s with toks := s.toks + 1 }) :
    wpAny (model prog w) A (inplaceOp .RShift (.int (r * 2) t) (.int 1 u)) Q E s := irshift_int (by decide) (by
  have e : (r * 2).fdiv (2 ^ (1 : Int).toNat) = r := by
    have e : (2 : Int) ^ (1 : Int).toNat = 2 := by decide
    rw [e, Int.fdiv_eq_ediv_of_nonneg _ (by decide)]
    omega
  rw [e]; exact h)
abbrev pairO (q r : Int) (t1 t2 : Tok) (c : Nat) : Obj := { cls := .type "tuple", data := .seq #[.int q t1, .int r t2] c }
theorem divmod_D {prog : Program} {w : World} {A : Around} {E : Value → Shared → Prop} {s : Shared} {a b q r : Int} {t u : Tok} {Q : Value → Shared → Prop} {h₀ : Heap} {L : Addr} {m : Str → Option Value} {news : List (Addr × Obj)} (F : Fr h₀ L s.heap m) (N : News h₀ L s.heap news) (hb : b ≠ 0) (hq : a.fdiv b = q ∧ a.fmod b = r)
    (hp : PySem.PylongRoom (model prog w) A s)
    (h : ∀ D t1 t2 h' tk, Fr h₀ L h' m → News h₀ L h' ((D, pairO q r t1 t2 0) :: news) → AllLt D news → Q (.ref D) { s with toks := tk, heap := h' }) :
    wpAny (model prog w) A (call (.builtin "divmod") [.int a t, .int b u]) Q E s := by
  refine divmod_N F N hb (fun h' F' N' => ?_) (Or.inr hp)
  rw [hq.1, hq.2] at N'
  exact h _ _ _ h' _ F' N' (allLt_of fun p hp => Heap.lt_size (N p hp).1)
end Mine
namespace Mine
open PySem.Builtin.Int (intBits)
theorem abs2 (k : Nat) : ((2 : Int) ^ k).natAbs = 2 ^ k := by rw [← kbt_cast, Int.natAbs_natCast]
inductive Abs (z : Int) : Prop where | mk
theorem abs_skip {M : Model} {A : Around} {env : Env} {x : Str} {z : Int} {t : Tok} {Q : Unit → Shared → Prop} {E : Value → Shared → Prop} {s : Shared} (_ : Abs z) (h : wpAny M A (storeName env x (.int z t)) Q E s) : wpAny M A (storeName env x (.int z t)) Q E s := h
theorem abs_store {M : Model} {A : Around} {env : Env} {x : Str} {e : Int} {t : Tok} {Q : Unit → Shared → Prop} {E : Value → Shared → Prop} {s : Shared} {N : Nat} (hb : intBits e ≤ N)
    (h : ∀ z, Abs z → z = e → intBits z ≤ N → wpAny M A (storeName env x (.int z t)) Q E s) : wpAny M A (storeName env x (.int e t)) Q E s := h e .mk rfl hb
section
variable {prog : Program} {w : World} {A : Around} {E : Value → Shared → Prop} {s : Shared} {a b : Int} {t u : Tok} {Q : Value → Shared → Prop}
theorem pow3_z {l : Int} {N : Nat} (hb : intBits l ≤ N) (hN : 2 * N ≤ 100000000) (h : ∀ z, Abs z → z = 3 ^ intBits l → intBits z ≤ 2 * N + 1 → Q (.int z s.toks) { s with toks := s.toks + 1 }) :
    wpAny (model prog w) A (binaryOp .Pow (.int 3 t) (.int (intBits l : Int) u)) Q E s := by
  refine pow_int (by omega) ?_ ?_
  · have e : intBits (3 : Int) = 2 := by decide
    rw [e]
    have : (2 : Int) ^ 27 = 134217728 := by decide
    omega
  · have e : ((intBits l : Int)).toNat = intBits l := by omega
    rw [e]
    refine h _ .mk rfl ?_
    refine Nat.le_trans (intBits_pow_le (m := 2) (by decide) _) ?_
    omega
theorem mod_p {N : Nat} (hc : 0 < b) (hb : intBits b ≤ N) (h : ∀ z, Abs z → z = a.fmod b → 0 ≤ z → z < b → intBits z ≤ N → Q (.int z s.toks) { s with toks := s.toks + 1 }) : wpAny (model prog w) A (binaryOp .Mod (.int a t) (.int b u)) Q E s := by
  have e : a.fmod b = a % b := Int.fmod_eq_emod_of_nonneg _ (Int.le_of_lt hc)
  have h0 := Int.emod_nonneg a (show b ≠ 0 by omega)
  have h1 := Int.emod_lt_of_pos a hc
  rw [← e] at h0 h1
  exact mod_int' (by omega) (h _ .mk rfl h0 h1 (bits_fmod_by (by omega) hb))
theorem pow2_p {e : Int} {N : Nat} (h0 : 0 ≤ e) (h1 : e ≤ N) (hN : N ≤ 10000000) (h : ∀ z, Abs z → z = 2 ^ e.toNat → 0 < z → intBits z ≤ N + 1 → Q (.int z s.toks) { s with toks := s.toks + 1 }) :
    wpAny (model prog w) A (binaryOp .Pow (.int 2 t) (.int e u)) Q E s := by
  refine pow_int h0 ?_ (h _ .mk rfl (kbt_pos _) ?_)
  · have e : intBits (2 : Int) = 2 := by decide
    rw [e]
    have : (2 : Int) ^ 27 = 134217728 := by decide
    omega
  · refine intBits_le_iff.mpr ?_
    have e1 := abs2 e.toNat
    rw [e1]
    exact Nat.pow_lt_pow_right (by decide) (by omega)
theorem shl_p {e x : Int} {N m : Nat} (h0 : 0 ≤ e) (hx : intBits x ≤ m) (h1 : e ≤ N) (hN : m + N ≤ 100000000) (h : ∀ z, Abs z → z = x * 2 ^ e.toNat → intBits z ≤ m + N → Q (.int z s.toks) { s with toks := s.toks + 1 }) :
    wpAny (model prog w) A (binaryOp .LShift (.int x t) (.int e u)) Q E s := by
  refine lshift_int h0 ?_ (h _ .mk rfl ?_)
  · have : (2 : Int) ^ 27 = 134217728 := by decide
    omega
  · by_cases hx0 : x = 0
    · subst hx0
      rw [Int.zero_mul]
      exact Nat.zero_le _
    refine intBits_le_iff.mpr ?_
    have e1 := abs2 e.toNat
    rw [Int.natAbs_mul, e1]
    have h2 := intBits_le_iff.mp hx
    have h3 : x.natAbs * 2 ^ e.toNat < 2 ^ m * 2 ^ e.toNat := Nat.mul_lt_mul_of_pos_right h2 (Nat.two_pow_pos _)
    rw [← Nat.pow_add] at h3
    exact Nat.lt_of_lt_of_le h3 (Nat.pow_le_pow_right (by decide) (by omega))
theorem shr_p {e x : Int} {m : Nat} (h0 : 0 ≤ e) (hx : intBits x ≤ m) (h : ∀ z, Abs z → z = x / 2 ^ e.toNat → intBits z ≤ m → Q (.int z s.toks) { s with toks := s.toks + 1 }) :
    wpAny (model prog w) A (binaryOp .RShift (.int x t) (.int e u)) Q E s := by
  have e1 := fdivP x e.toNat
  exact rshift_int h0 (by rw [e1]; exact h _ .mk rfl (by rw [← e1]; exact bits_fdiv hx))
theorem fdv_p {m : Nat} (hc : 0 < b) (hx : intBits a ≤ m) (hp : PySem.PylongRoom (model prog w) A s) (h : ∀ z, Abs z → z = a / b → intBits z ≤ m → Q (.int z s.toks) { s with toks := s.toks + 1 }) :
    wpAny (model prog w) A (binaryOp .FloorDiv (.int a t) (.int b u)) Q E s := by
  have e1 : a.fdiv b = a / b := Int.fdiv_eq_ediv_of_nonneg _ (Int.le_of_lt hc)
  exact floordiv_int (by omega) (by rw [e1]; exact h _ .mk rfl (by rw [← e1]; exact bits_fdiv hx)) (Or.inr hp)
end
theorem fmodB (a : Int) {b : Int} (h : 0 < b) : 0 ≤ a.fmod b ∧ a.fmod b < b := by
  rw [Int.fmod_eq_emod_of_nonneg _ (Int.le_of_lt h)]
  exact ⟨Int.emod_nonneg _ (by omega), Int.emod_lt_of_pos _ h⟩
theorem fdivE (a : Int) {b : Int} (h : 0 < b) : a.fdiv b = a / b := Int.fdiv_eq_ediv_of_nonneg _ (Int.le_of_lt h)
theorem fmodE (a : Int) {b : Int} (h : 0 < b) : a.fmod b = a % b := Int.fmod_eq_emod_of_nonneg _ (Int.le_of_lt h)
theorem Pre2.bq {a b n q r : Int} (H : Pre2 a b n q r) {N : Nat} (hn : n ≤ N) : intBits q ≤ N := Nat.le_trans (bits_of_lt H.q0 H.q1) (by have := H.n1; omega)
theorem Pre2.br {a b n q r : Int} (H : Pre2 a b n q r) {N : Nat} (hn : n ≤ N) : intBits r ≤ N := Nat.le_trans (bits_of_lt H.r0 (Int.lt_trans H.r1 H.b2)) (by have := H.n1; omega)
theorem eq_t {prog : Program} {w : World} {A : Around} {E : Value → Shared → Prop} {s : Shared} {a b : Int} {t u : Tok} {Q : Value → Shared → Prop} (e : a = b) (h : Q (.bool true) s) : wpAny (model prog w) A (compareOp .Eq (.int a t) (.int b u)) Q E s :=
  eq_int (by rw [e, beq_self_eq_true]; exact h)
theorem gen_toks {α : Type} {M : Model} {A : Around} {m : Sem α} {Q : α → Shared → Prop} {E : Value → Shared → Prop} {h : Heap} {g : Array GenState} {d : Drawn} {X : Nat} {o : OsState}
    (H : ∀ tk, wpAny M A m Q E { heap := h, gens := g, drawn := d, toks := tk, os := o }) : wpAny M A m Q E { heap := h, gens := g, drawn := d, toks := X, os := o } := H X
theorem mul_p {prog : Program} {w : World} {A : Around} {E : Value → Shared → Prop} {s : Shared} {a b : Int} {t u : Tok} {Q : Value → Shared → Prop} {m n : Nat} (ha : intBits a ≤ m) (hb : intBits b ≤ n) (h : m + n ≤ 134217728) (hq : Q (.int (a * b) s.toks) { s with toks := s.toks + 1 }) :
    wpAny (model prog w) A (binaryOp .Mult (.int a t) (.int b u)) Q E s := mul_int hq (mulOk_of_bits ha hb h)
end Mine
namespace Mine
section
variable {prog : Program} {w : World} {A : Around} {E : Value → Shared → Prop} {s : Shared} {env : Env} {h₀ : Heap} {x : Str} {body : List Stmt} {Q : Flow → Shared → Prop}
/-- a loop from behind over a list of ints that the call has made, by an invariant over the state -/
theorem kst_rev {σ : Type} {I l : Addr} {vs : List Value} {ns : List Int} {nn : Nat} {m₀ : Str → Option Value} (Led : σ → List (Addr × Obj)) (ps : σ → List (Str × Value)) (Facts : σ → Prop) (stored : List Str) (P : List Int → σ → Prop) (c₀ : σ) {all : List (Addr × Obj)}
    (hh : A.handled = none) (hi : IntsAre vs ns) (F : Fr h₀ env.locals s.heap m₀) (NA : News h₀ env.locals s.heap all) (hI : (I, revObj l ((vs.length : Int) - 1)) ∈ all) (hl : (l, listOf vs.toArray nn) ∈ all) (hne : l ≠ I) (N : News h₀ env.locals s.heap (Led c₀)) (hoff : ∀ p ∈ Led c₀, p.1 ≠ I ∧ p.1 ≠ l) (hf : Facts c₀) (hk : ∀ p ∈ ps c₀, m₀ p.1 = some p.2) (hp : P [] c₀)
    (turn : ∀ (c : σ) pre post n t (u : Str → Option Value) h tk own, ns.reverse = pre ++ n :: post → n ∈ ns → OwnOff own ((Led c₀).map (·.1)) → Facts c → P pre c →
      Fr h₀ env.locals h (fun y => if y = x then some (.int n t) else kstB (fun z => if stored.contains z then u z else m₀ z) (ps c) y) → News h₀ env.locals h (Led c ++ own) →
      wpAny (model prog w) A (execs body env) (InvPostN h₀ env.locals (KstS Led ps Facts x stored m₀ P (pre ++ [n])) own ((Led c₀).map (·.1)) { s with heap := h, toks := tk } Q) E { s with heap := h, toks := tk })
    (done : ∀ (c : σ) (u : Str → Option Value) h tk, Facts c → P ns.reverse c → Fr h₀ env.locals h (fun y => if y = x then u y else kstB (fun z => if stored.contains z then u z else m₀ z) (ps c) y) → News h₀ env.locals h (Led c) → Q .next { s with heap := h, toks := tk }) :
    wpAny (model prog w) A (pyIter (.ref I)) (fun it s₂ => LoopAtV prog w A h₀ env x body Q E it s₂) E s := by
  have hIx := NA _ hI
  have hlx := NA _ hl
  have hL : s.heap.IsList l vs.toArray := ⟨_, hlx.1, rfl, nn, rfl⟩
  have hit : s.heap.IsRevIter I l ((vs.length : Int) - 1) := ⟨_, hIx.1, rfl, rfl⟩
  refine wpAny_pyIter_revIter hit ?_
  have W := Walks.listRev (prog := prog) (w := w) hh I l hne vs.toArray
  have hlen : vs.toArray.size = ns.length := by simp [hi.length]
  rw [hlen] at W
  have hr : ns.reverse.length = ns.length := List.length_reverse
  refine loop_invN (fun i m nx => KstS Led ps Facts x stored m₀ P (ns.reverse.take i) m nx) W ?_ ?_ ?_ ?_ ?_ F N ⟨c₀, rfl, hf, hk, fun _ _ _ _ => rfl, by simpa using hp⟩ ?_ ?_
  · intro hm
    rcases List.mem_cons.mp hm with e | hm
    · exact hIx.2.1 e.symm
    · exact hlx.2.1 (List.mem_singleton.mp hm).symm
  · intro b hb
    rw [List.mem_singleton.mp hb]
    exact hIx.2.2
  · intro p hp hm
    exact (hoff p hp).1 (List.mem_singleton.mp hm)
  · intro p hp hm
    rcases List.mem_cons.mp hm with e | hm
    · exact (hoff p hp).1 e
    · exact (hoff p hp).2 (List.mem_singleton.mp hm)
  · refine ⟨Nat.zero_le _, ?_, hL⟩
    have e : ((ns.length : Nat) : Int) - 1 - ((0 : Nat) : Int) = (vs.length : Int) - 1 := by rw [hi.length]; omega
    rw [e]
    exact hit
  · rintro i v m₁ nx h tk own hin hP _ hoff' ⟨c, rfl, hf', h1, h2, hp'⟩ F₁ N₁
    have hlt' : i < ns.reverse.length := by rw [hr]; exact hin
    have hP2 : vs.toArray[ns.length - 1 - i]? = some v := hP
    have hget : ns[ns.length - 1 - i]? = some ns.reverse[i] := by
      rw [List.getElem_reverse]
      exact List.getElem?_eq_getElem (by omega)
    obtain ⟨t, hx⟩ := hi.get _ _ hget
    have hv : v = .int ns.reverse[i] t := by
      have : vs[ns.length - 1 - i]? = some v := by simpa using hP2
      rw [hx] at this; exact (Option.some.inj this).symm
    subst hv
    have hn : ns.reverse[i]? = some ns.reverse[i] := List.getElem?_eq_getElem hlt'
    have hs : ns.reverse.take (i + 1) = ns.reverse.take i ++ [ns.reverse[i]] := by rw [List.take_add_one, hn]; rfl
    have e : ns.reverse = ns.reverse.take i ++ ns.reverse[i] :: ns.reverse.drop (i + 1) := by
      have ht := List.take_append_drop (i + 1) ns.reverse
      rw [hs, List.append_assoc] at ht
      exact ht.symm
    have key := turn c _ _ ns.reverse[i] t m₁ h tk own e (List.mem_reverse.mp (List.getElem_mem hlt')) hoff' hf' hp' (kst_fr h1 h2 F₁) N₁
    have goalE : (fun m nx => KstS Led ps Facts x stored m₀ P (ns.reverse.take (i + 1)) m nx) = KstS Led ps Facts x stored m₀ P (ns.reverse.take i ++ [ns.reverse[i]]) := by rw [hs]
    rw [goalE]
    exact key
  · rintro m₁ nx h tk ⟨c, rfl, hf', h1, h2, hp'⟩ F₁ N₁
    rw [List.take_of_length_le (by rw [hr]; exact Nat.le_refl _)] at hp'
    exact done c m₁ h tk hf' hp' (kst_frOut h1 h2 F₁) N₁
end
end Mine
namespace Mine
section
variable {prog : Program} {w : World} {A : Around} {E : Value → Shared → Prop} {s : Shared} {env : Env} {h₀ : Heap} {x : Str} {body : List Stmt} {Q : Flow → Shared → Prop}
/-- a loop over a range that changes nothing that is asked behind it -/
theorem rng0 {r : Addr} {a₀ b₀ : Int} {t₀ u₀ v₀ : Tok} {n : Nat} {m₀ : Str → Option Value} {news : List (Addr × Obj)} (stored : List Str)
    (hh : A.handled = none) (F : Fr h₀ env.locals s.heap m₀) (N : News h₀ env.locals s.heap news) (hr : IsRange s.heap r a₀ b₀ 1 t₀ u₀ v₀) (hsmall : Builtin.Range.small a₀ b₀ 1 = true) (hn : Builtin.Range.rangeSize a₀ b₀ 1 = (n : Int))
    (turn : ∀ (k : Int) t (u : Str → Option Value) h tk own, a₀ ≤ k → k < a₀ + n → OwnOff own (news.map (·.1)) →
      Fr h₀ env.locals h (fun y => if y = x then some (.int k t) else if stored.contains y then u y else m₀ y) → News h₀ env.locals h (news ++ own) →
      wpAny (model prog w) A (execs body env) (InvPostN h₀ env.locals (KstS (σ := Unit) (fun _ => news) (fun _ => []) (fun _ => True) x stored m₀ (fun _ _ => True) [k]) own (news.map (·.1)) { s with heap := h, toks := tk } Q) E { s with heap := h, toks := tk })
    (done : ∀ (u : Str → Option Value) h tk, Fr h₀ env.locals h (fun y => if y = x then u y else if stored.contains y then u y else m₀ y) → News h₀ env.locals h news → Q .next { s with heap := h, toks := tk }) :
    wpAny (model prog w) A (pyIter (.ref r)) (fun it s₂ => LoopAtV prog w A h₀ env x body Q E it s₂) E s := by
  refine kst_range (σ := Unit) (fun _ => news) (fun _ => []) (fun _ => True) stored (fun _ _ => True) () hh hr hsmall hn F N trivial (List.forall_mem_nil _) trivial ?_ ?_
  · intro c pre k t u h tk own hk hlt hoff _ _ F' N'
    refine wpAny_mono (turn k t u h tk own (by omega) (by omega) hoff F' N') (fun f s₂ p => ?_) fun _ _ e => e
    cases f with
    | ret v => exact p
    | brk => exact p
    | next => exact p
    | cont => exact p
  · intro c u h tk _ _ F' N'
    exact done u h tk F' N'
end
end Mine
namespace Mine
set_option maxRecDepth 100000
set_option maxHeartbeats 8000000
open_top hd for PySem.Challenge.rw_dn0134_10
end Mine
namespace Mine
open PySem.Builtin.Int (intBits)
/-- the same by the divisor -/
def Cg (d a b : Int) : Prop := ∃ k, a = b + k * d
theorem Cg.rfl' (d a : Int) : Cg d a a := ⟨0, by omega⟩
theorem Cg.symm {d a b : Int} (h : Cg d a b) : Cg d b a := by
  obtain ⟨k, h⟩ := h
  exact ⟨-k, by rw [Int.neg_mul]; omega⟩
theorem Cg.trans {d a b c : Int} (h : Cg d a b) (h2 : Cg d b c) : Cg d a c := by
  obtain ⟨k, h⟩ := h
  obtain ⟨j, h2⟩ := h2
  exact ⟨k + j, by rw [Int.add_mul]; omega⟩
theorem Cg.mul {d a b x y : Int} (h : Cg d a b) (h2 : Cg d x y) : Cg d (a * x) (b * y) := by
  obtain ⟨k, h⟩ := h
  obtain ⟨j, h2⟩ := h2
  exact ⟨b * j + k * y + k * j * d, by rw [h, h2]; grind⟩
theorem Cg.eq {d a b : Int} (h : Cg d a b) (a0 : 0 ≤ a) (a1 : a < d) (b0 : 0 ≤ b) (b1 : b < d) : a = b := by
  obtain ⟨k, h⟩ := h
  have := uniqNN (b := d) (q := 0) (r := a) (q' := k) (r' := b) (by omega) a0 a1 b0 b1
  exact this.2
/-- an odd divisor below the power of two, and its inverse -/
structure Mont (d P inv : Int) : Prop where
  d0 : 0 < d
  dP : d < P
  iv : ∃ j, inv * d = 1 + j * P
theorem Mont.cancel {d P inv a b : Int} (H : Mont d P inv) (h : Cg d (a * P) (b * P)) : Cg d a b := by
  obtain ⟨j, hj⟩ := H.iv
  obtain ⟨k, hk⟩ := h
  refine ⟨(a - b) * inv - j * k, ?_⟩
  have e : (a - b) * (inv * d) = (a - b) + j * (a * P - b * P) := by rw [hj]; grind
  have e2 : a * P - b * P = k * d := by omega
  rw [e2] at e
  grind
/-- what a step down tells -/
structure Redc (d P N r : Int) : Prop where
  r0 : 0 ≤ r
  r1 : r < d
  c : Cg d (r * P) N
theorem Mont.redc {d P inv N times made : Int} (H : Mont d P inv) (n0 : 0 ≤ N) (n1 : N < d * P) (ht : times = (-(N * inv)) % P) (hm : made = (N + times * d) / P) :
    (made ≥ d → Redc d P N (made - d)) ∧ (¬ made ≥ d → Redc d P N made) := by
  obtain ⟨d0, dP, j, hj⟩ := H
  have hP : 0 < P := by omega
  have t0 : 0 ≤ times := by rw [ht]; exact Int.emod_nonneg _ (by omega)
  have t1 : times < P := by rw [ht]; exact Int.emod_lt_of_pos _ hP
  have t2 := Int.mul_ediv_add_emod (-(N * inv)) P
  rw [← ht] at t2
  generalize -(N * inv) / P = t at t2
  have key : N + times * d = (-(N * j) - t * d) * P := by
    have e1 : times = -(N * inv) - P * t := by omega
    have e2 : N * (inv * d) = N + N * j * P := by rw [hj]; grind
    rw [e1]
    grind
  have hm' : made = -(N * j) - t * d := by rw [hm, key]; exact Int.mul_ediv_cancel _ (by omega)
  rw [← hm'] at key
  have td : 0 ≤ times * d := Int.mul_nonneg t0 (by omega)
  have td1 : times * d ≤ (P - 1) * d := mul_le_of (by omega) (by omega)
  have td2 : (P - 1) * d = d * P - d := by grind
  have m0 : 0 ≤ made := by
    have : (-1) * P < made * P := by omega
    have := lt_of_mul hP this
    omega
  have m1 : made < 2 * d := by
    refine lt_of_mul hP ?_
    have : 2 * d * P = d * P + d * P := by grind
    omega
  refine ⟨fun h => ⟨by omega, by omega, times - P, ?_⟩, fun h => ⟨m0, by omega, times, by omega⟩⟩
  rw [Int.sub_mul, Int.sub_mul, Int.mul_comm P d]; omega
theorem Redc.bits {d P N r : Int} (H : Redc d P N r) {n : Nat} (h : intBits d ≤ n) : intBits r ≤ n :=
  bits_of_natAbs_le (b := d) (by have := H.r0; have := H.r1; omega) h
/-- the next product -/
theorem Mont.next {d P inv rest other shape kept shape' rest' : Int} (H : Mont d P inv) (h1 : Cg d shape (rest * P)) (h2 : Cg d kept (other * P)) (h3 : Redc d P (shape * kept) shape') (h4 : Redc d P shape' rest') :
    Cg d shape' (rest' * P) ∧ Cg d rest' (rest * other) := by
  refine ⟨h4.c.symm, ?_⟩
  refine H.cancel (H.cancel ?_)
  have e1 := h4.c.mul (Cg.rfl' d P)
  have e2 := h3.c
  have e3 := h1.mul h2
  have e4 : rest * P * (other * P) = rest * other * P * P := by grind
  rw [e4] at e3
  exact e1.trans (e2.trans e3)
/-- the quotient by the low end -/
theorem Mont.quot {d P inv N rest quotient : Int} (H : Mont d P inv) (c : Cg d rest N) (r0 : 0 ≤ rest) (r1 : rest < d) (n0 : 0 ≤ N) (n1 : N < d * P) (hq : quotient = ((N - rest) * inv) % P) :
    N = quotient * d + rest ∧ 0 ≤ quotient ∧ quotient < P := by
  obtain ⟨d0, dP, j, hj⟩ := H
  have hP : 0 < P := by omega
  obtain ⟨k, hk⟩ := c.symm
  have e : (N - rest) * inv = k + k * j * P := by
    have : N - rest = k * d := by omega
    rw [this]
    have : k * d * inv = k * (inv * d) := by grind
    rw [this, hj]; grind
  have k0 : 0 ≤ k := by
    have : (-1) * d < k * d := by omega
    have := lt_of_mul d0 this
    omega
  have k1 : k < P := by
    refine lt_of_mul d0 ?_
    rw [Int.mul_comm P]; omega
  have hk2 : quotient = k := by
    rw [hq, e, Int.add_mul_emod_self_right]; exact Int.emod_eq_of_lt k0 k1
  rw [hk2]
  exact ⟨by omega, k0, k1⟩
/-- a turn of the inverse -/
theorem inv_turn {d f j K : Int} (h : d * f = 1 + j * K) : d * (f * (2 - d * f)) = 1 + -(j * j) * (K * K) := by
  have : d * (f * (2 - d * f)) = (d * f) * (2 - d * f) := by grind
  rw [this, h]; grind
theorem inv_mod {d g j K : Int} (h : d * g = 1 + j * K) : ∃ j', d * (g % K) = 1 + j' * K := by
  have := Int.mul_ediv_add_emod g K
  refine ⟨j - d * (g / K), ?_⟩
  have e : g % K = g - K * (g / K) := by omega
  rw [e, Int.mul_sub, h]; grind
end Mine
namespace Mine
/-- a top that imports nothing -/
def prog0 : Program := { (default : Program) with main := { (default : Module) with body := [] } }
theorem ghost_noseer {h₁ : Heap} {tabs : List (Addr × Addr)} (hT : TabsAt tabs h₁) (x : h₁.NoSeer) : (ghostOf h₁ tabs).NoSeer where
  statics := let ⟨mc, a, b⟩ := x.statics; ⟨mc, ghost_ns hT a, b⟩
  mods := let ⟨mc, a, b⟩ := x.mods; ⟨mc, ghost_ns hT a, b⟩
  imp := let ⟨mc, a, b⟩ := x.imp; ⟨mc, ghost_ns hT a, b⟩
  main := let ⟨mg, bm, ob, a, b, c, d, e⟩ := x.main; ⟨mg, bm, ob, ghost_ns hT a, b, ghost_get hT c (fun q => by rw [q] at d; cases d), d, e⟩
theorem top0 {h : Heap} {loose : List Str} {mean : ExcName → Option Value} {mg mb : Str → Option Value} (T : Top topProg loose mean mg mb h) (S : h.NoSeer) : Top prog0 loose mean mg mb h where
  g := T.g
  b := T.b
  nolimit := T.nolimit
  nodigits := T.nodigits
  fn := fun d hd => absurd (show d ∈ ([] : List DefRec) from hd) List.not_mem_nil
  own := fun o ho => absurd (show o ∈ ([] : List OwnSpec) from ho) List.not_mem_nil
  const := fun x d e => by cases (show (none : Option PyData) = some d from e)
  free := fun x h1 h2 _ _ _ => T.free x h1 h2 (show x ∉ ([] : List Str) from List.not_mem_nil) (show x ∉ ([] : List Str) from List.not_mem_nil) (show x ∉ ([] : List Str) from List.not_mem_nil)
  builtins := T.builtins
  tab := fun d hd => absurd (show d ∈ ([] : List DefRec) from hd) List.not_mem_nil
  bmain := T.bmain
  seer := fun _ => S
theorem prog0_none : importsNone prog0 = true := by decide +kernel
theorem top0_of {h₁ : Heap} {tabs : List (Addr × Addr)} {p : Program} {loose loose' : List Str} {mean mean' : ExcName → Option Value} {mg mb mg' mb' : Str → Option Value} (hT : TabsAt tabs h₁) (T : Top p loose mean mg mb h₁) (hp : importsNone p = true) (T' : Top topProg loose' mean' mg' mb' (ghostOf h₁ tabs)) : Top prog0 loose' mean' mg' mb' (ghostOf h₁ tabs) :=
  top0 T' (ghost_noseer hT (T.seer hp))
end Mine
namespace Mine
theorem room_of {p : Program} {loose : List Str} {mean : ExcName → Option Value} {mg mb : Str → Option Value} {g h : Heap} {L : Addr} {m : Str → Option Value} (T : Top p loose mean mg mb g) (F : Fr g L h m) : h.NoLimit := T.nolimit.keeps F.keep
def PairCall (prog : Program) (w : World) (K : Frag) (p : Program) (loose : List Str) (mean : ExcName → Option Value) (mg mb : Str → Option Value) (f : Addr) (vs : List Value) (q r : Int) (k : Nat) : Prop :=
  ∀ (dp un : Nat) (gd : Option (List Code)) (cn : Str) (cs : Scope) (a : Addr) (ccd : Value) (cl : List (Str × Addr)) (outer : List Env) (A₀ : Around) (base h₀ : Heap) (L : Addr) (m : Str → Option Value) (news : List (Addr × Obj)) (s : Shared)
    (Q E : Value → Shared → Prop),
    Below A₀ base outer h₀ → Fr h₀ L s.heap m → K.In h₀ → News h₀ L s.heap news → Top p loose mean mg mb h₀ → cs.kind = .function → dp + k + 104 < recursionLimit → un + 8 * k + 100 < cLine →
    (∀ D t1 t2 c h' tk', Fr h₀ L h' m → News h₀ L h' ((D, pairO q r t1 t2 c) :: news) → AllLt D news → Q (.ref D) { s with heap := h', toks := tk' }) →
    wpAny (model prog w) (ktrTop dp un gd cn cs L a ccd cl outer) (call (.ref f) vs) Q E s

theorem pair_use {prog : Program} {w : World} {K : Frag} {p : Program} {loose : List Str} {mean : ExcName → Option Value} {mg mb : Str → Option Value} {f : Addr} {vs : List Value} {q r : Int} {k : Nat}
   {dp un : Nat} {gd : Option (List Code)} {cn : Str} {cs : Scope} {a : Addr} {ccd : Value} {cl : List (Str × Addr)} {outer : List Env} {A₀ : Around} {base h₀ : Heap} {L : Addr} {m : Str → Option Value} {news : List (Addr × Obj)} {s : Shared} {Q E : Value → Shared → Prop}
   (B : Below A₀ base outer h₀) (F : Fr h₀ L s.heap m) (X : K.In h₀) (N : News h₀ L s.heap news) (T : Top p loose mean mg mb h₀) (hk : cs.kind = .function) (C : PairCall prog w K p loose mean mg mb f vs q r k)
   (hd : dp + k + 104 < recursionLimit) (hu : un + 8 * k + 100 < cLine)
   (ret : ∀ D t1 t2 c h' tk', Fr h₀ L h' m → News h₀ L h' ((D, pairO q r t1 t2 c) :: news) → AllLt D news → Q (.ref D) { s with heap := h', toks := tk' }) :
    wpAny (model prog w) (ktrTop dp un gd cn cs L a ccd cl outer) (call (.ref f) vs) Q E s := C _ _ _ _ _ _ _ _ _ _ _ _ _ _ _ _ _ _ B F X N T hk hd hu ret

section
variable (w : World) (mean : ExcName → Option Value) (mg mb : Str → Option Value)
abbrev PC := PairCall PySem.Challenge.rw_dn0134_10.row.prog w (hd.heap_39 w.params) prog0 (looseW hd.view_39 [] ++ List.map (fun x => x.name) (recsOf hd.view_39) ++ List.map (fun x => x.fst) (litsOf hd.view_39) ++ List.map (fun x => x.name) (clssOf hd.view_39 (looseW hd.view_39 []))) mean mg mb
def Div2 (k : Nat) : Prop := ∀ (a b n q r : Int) (t u v : Tok), Pre2 a b n q r → n ≤ 2 ^ k → k ≤ 19 → PC w mean mg mb 21 [.int a t, .int b u, .int n v] q r (2 * k + 2)
def Div3 (k : Nat) : Prop := ∀ (a12 a3 b b1 b2 n q r : Int) (t1 t2 t3 t4 t5 t6 : Tok), Pre3 a12 a3 b b1 b2 n q r → n ≤ 2 ^ k → k ≤ 19 → PC w mean mg mb 28 [.int a12 t1, .int a3 t2, .int b t3, .int b1 t4, .int b2 t5, .int n t6] q r (2 * k + 3)
end
end Mine
namespace Mine
open PySem.Builtin.Int (intBits)
local macro_rules | `(tactic| bits_by_make) => `(tactic| with_reducible assumption)
local macro_rules | `(tactic| walk_at "exec While Compare cons cons") => `(tactic| k_extra "mywhile")
local macro_rules | `(tactic| walk_at "exec While Compare cons nil") => `(tactic| k_extra "mywhile")
set_option maxRecDepth 100000 in
set_option maxHeartbeats 8000000 in
theorem div3_step (w : World) (mean : ExcName → Option Value) (mg mb : Str → Option Value) (k : Nat) (H : Div2 w mean mg mb k) : Div3 w mean mg mb k := by
  (have hh : PySem.Challenge.rw_dn0134_10 = PySem.Challenge.rw_dn0134_10 ∧ hd.heap_39 = hd.heap_39 := by (k_fill; exact ⟨rfl, rfl⟩))
  clear hh
  w_top off
  k_with_none
  intro a12 a3 b b1 b2 n q r t1 t2 t3 t4 t5 t6 P hn hk19
  have hn19 : n ≤ 524288 := Int.le_trans hn (pmono hk19)
  have hn1 := P.n1
  have hbp : intBits ((2 : Int) ^ n.toNat) ≤ 600000 := Nat.le_trans (bits_of_lt (k := n.toNat + 1) (Int.le_of_lt (ppos _)) (by rw [Int.pow_succ]; have := ppos n.toNat; omega)) (by omega)
  have hbb1 : intBits b1 ≤ 600000 := Nat.le_trans (bits_of_lt (by have := ppos (n.toNat - 1); have := P.b10; omega) P.b11) (by omega)
  have hbb2 : intBits b2 ≤ 600000 := Nat.le_trans (bits_of_lt P.b20 P.b21) (by omega)
  have hba : intBits a12 ≤ 5000000 := bits_of_natAbs_le (b := b) (by have := P.a12b; omega) (by rw [P.e]; exact Nat.le_trans (bits_add (bits_mul hbb1 hbp) hbb2) (by decide))
  unfold PC PairCall
  intro dp un gd cn cs a ccd cl outer A₀ base h₀ L m news s Q E B F X N T hk hd hu hret
  k_with "call ref" => (
    obtain ⟨q', r', hP'⟩ := P.neCase (by rw [← fdivP]; assumption)
    have hbr : intBits r' ≤ 600000 := Nat.le_trans (bits_of_lt hP'.r0 (Int.lt_trans hP'.r1 hP'.b2)) (by omega)
    have hbq : intBits q' ≤ 600000 := Nat.le_trans (bits_of_lt hP'.q0 hP'.q1) (by omega)
    (refine' pair_use ?k1 ?k2 ?k3 ?k4 ?k5 ?kK (H _ _ _ q' r' _ _ _ hP' hn hk19) ?kd ?ku ?_)
    (case k1 => k_asm)
    (case k2 => k_asm)
    (case k3 => k_asm)
    (case k4 => k_asm)
    (case k5 => k_asm)
    (case kK => exact rfl)
    (case kd => ktr_room)
    (case ku => ktr_units)
    intro D' x1 x2 c' h' tk' F' N' l'
    (try dsimp only)
    (try k_fold))
  k_with "mywhile" => (k_while (fun _ x y => y * b + x = q * b + r ∧ x < b) (fun _ x y => (- x).toNat) "r" "q")
  k_with "state" => (first | exact P.start1 (by assumption) | exact P.start2 (by assumption) | exact d3_turn ⟨by assumption, by assumption⟩ (by assumption))
  have hb0 : 0 < b := by have := P.r0; have := P.r1; omega
  refine wpAny_call ?_
  k_dflt ktr_enter
  k_steps
  all_goals (
    obtain ⟨e1, e2⟩ := P.fin (by assumption) (by assumption) (by assumption)
    subst e1
    subst e2
    refine hret _ _ _ _ _ _ (by k_asm) (news_sub (by k_asm) (sub0 (sub1 subr))) ?_
    first | assumption | exact And.right (by assumption))
end Mine
namespace Mine
open PySem.Builtin.Int (intBits)
local macro_rules | `(tactic| bits_by_make) => `(tactic| with_reducible assumption)
local macro_rules | `(tactic| walk_at "binaryOp RShift int int") => `(tactic| k_extra "half")
local macro_rules | `(tactic| walk_at "inplaceOp RShift int int") => `(tactic| with_reducible refine ihalf_z ?_)
local macro_rules | `(tactic| walk_at "inplaceOp LShift int int") => `(tactic| (with_reducible refine ilshift_int ?kbn ?kbs ?_; (case kbn => decide); (case kbs => refine kbm_shl (m := 2000000) (Nat.le_trans (by with_reducible assumption) ?_) ?_ ?_ <;> decide)))
local macro_rules | `(tactic| walk_at "call builtin:divmod") => `(tactic| k_extra "mydiv")
set_option maxRecDepth 100000 in
set_option maxHeartbeats 8000000 in
theorem div2_step (w : World) (mean : ExcName → Option Value) (mg mb : Str → Option Value) (k : Nat) (H : ∀ j, k = j + 1 → Div3 w mean mg mb j) : Div2 w mean mg mb k := by
  (have hh : PySem.Challenge.rw_dn0134_10 = PySem.Challenge.rw_dn0134_10 ∧ hd.heap_39 = hd.heap_39 := by (k_fill; exact ⟨rfl, rfl⟩))
  clear hh
  w_top off
  k_with_none
  intro a b n q r t1 t2 t3 P hn hk19
  have hn19 : n ≤ 524288 := Int.le_trans hn (pmono hk19)
  have hn1 := P.n1
  have hba : intBits a ≤ 1200000 := Nat.le_trans (bits_of_lt P.a0 P.alt) (by omega)
  have hbb : intBits b ≤ 600000 := Nat.le_trans (bits_of_lt (by have := P.r0; have := P.r1; omega) P.b2) (by omega)
  have hb0 : b ≠ 0 := by have := P.r0; have := P.r1; omega
  unfold PC PairCall
  intro dp un gd cn cs aa ccd cl outer A₀ base h₀ L m news s Q E B F X N T hk hd hu hret
  k_with "half" => (first
    | (with_reducible refine half_z (halves0 (by assumption)) ?_; intro hz ez)
    | (with_reducible refine half_z (halves1 (by assumption)) ?_; intro hz ez))
  k_with "mydiv" => (
    (refine' divmod_D ?k1 ?k2 hb0 P.fdm (PySem.PylongRoom.of (room_of (by assumption) (by assumption)) ?kd) ?_)
    (case k1 => k_asm)
    (case k2 => k_asm)
    (case kd => (simp only [Builtin.pylongFrames]; ktr_room))
    intro D' x1 x2 h' tk' F' N' l'
    (try dsimp only)
    (try k_fold))
  k_with "call ref" => (first
    | (
      (refine' pair_use ?k1 ?k2 ?k3 ?k4 ?k5 ?kK (hJ _ _ _ _ _ _ q2 _ _ _ _ _ _ _ h2 hjz hj19) ?kd ?ku ?_)
      (case k1 => k_asm)
      (case k2 => k_asm)
      (case k3 => k_asm)
      (case k4 => k_asm)
      (case k5 => k_asm)
      (case kK => exact rfl)
      (case kd => ktr_room)
      (case ku => ktr_units)
      intro D' x1 x2 c' h' tk' F' N' l'
      (try dsimp only)
      (try k_fold))
    | (
      obtain ⟨j, hj⟩ : ∃ j, k = j + 1 := ⟨k - 1, by have := P.big (by assumption); have : k ≠ 0 := (by intro e; subst e; simp at hn; omega); omega⟩
      have hJ := H j hj
      have hj19 : j ≤ 19 := by omega
      have hjz : hz ≤ 2 ^ j := halfLe ez (by rw [← hj]; omega)
      obtain ⟨q1, r1, q2, h1, h2, h3⟩ := (by first | exact P.halvesT ez | exact P.padT.halvesT ez : ∃ q1 r1 q2, _ ∧ _ ∧ _)
      have hbq1 : intBits q1 ≤ 600000 := Nat.le_trans (bits_of_lt h1.q0 h1.q1) (by omega)
      (refine' pair_use ?k1 ?k2 ?k3 ?k4 ?k5 ?kK (hJ _ _ _ _ _ _ q1 r1 _ _ _ _ _ _ h1 hjz hj19) ?kd ?ku ?_)
      (case k1 => k_asm)
      (case k2 => k_asm)
      (case k3 => k_asm)
      (case k4 => k_asm)
      (case k5 => k_asm)
      (case kK => exact rfl)
      (case kd => ktr_room)
      (case ku => ktr_units)
      intro D' x1 x2 c' h' tk' F' N' l'
      (try dsimp only)
      (try k_fold)))
  refine wpAny_call ?_
  k_dflt ktr_enter
  k_steps
  all_goals (first
    | exact absurd ‹Builtin.bitAnd n 1 = 0› ‹Builtin.bitAnd n 1 ≠ 0›
    | exact hret _ _ _ _ _ _ (by k_asm) (by k_asm) (by assumption)
    | (subst h3; refine hret _ _ _ _ _ _ (by k_asm) (news_sub (by k_asm) (sub0 (sub1 (sub1 (sub1 subr))))) ?_; exact (And.right (And.right (And.right (by assumption))))))
theorem div_all (w : World) (mean : ExcName → Option Value) (mg mb : Str → Option Value) : ∀ k, Div2 w mean mg mb k ∧ Div3 w mean mg mb k
  | 0 => have h := div2_step w mean mg mb 0 (fun j e => by omega); ⟨h, div3_step w mean mg mb 0 h⟩
  | k + 1 => have h := div2_step w mean mg mb (k + 1) (fun j e => by obtain rfl : k = j := by omega
                                                                     exact (div_all w mean mg mb k).2); ⟨h, div3_step w mean mg mb (k + 1) h⟩
theorem use2 {w : World} {mean : ExcName → Option Value} {mg mb : Str → Option Value} {a b n q r : Int} {t u v : Tok} (h : Pre2 a b n q r) (hn : n ≤ 262144) : PC w mean mg mb 21 [.int a t, .int b u, .int n v] q r 38 := (div_all w mean mg mb 18).1 a b n q r t u v h hn (by decide)
theorem use3 {w : World} {mean : ExcName → Option Value} {mg mb : Str → Option Value} {a12 a3 b b1 b2 n q r : Int} {t1 t2 t3 t4 t5 t6 : Tok} (h : Pre3 a12 a3 b b1 b2 n q r) (hn : n ≤ 262144) : PC w mean mg mb 28 [.int a12 t1, .int a3 t2, .int b t3, .int b1 t4, .int b2 t5, .int n t6] q r 39 := (div_all w mean mg mb 18).2 a12 a3 b b1 b2 n q r t1 t2 t3 t4 t5 t6 h hn (by decide)
end Mine
namespace Mine
def RelCall (prog : Program) (w : World) (K : Frag) (p : Program) (loose : List Str) (mean : ExcName → Option Value) (mg mb : Str → Option Value) (f : Addr) (vs : List Value) (R : Int → Prop) (k : Nat) : Prop :=
  ∀ (dp un : Nat) (gd : Option (List Code)) (cn : Str) (cs : Scope) (a : Addr) (ccd : Value) (cl : List (Str × Addr)) (outer : List Env) (A₀ : Around) (base h₀ : Heap) (L : Addr) (m : Str → Option Value) (news : List (Addr × Obj)) (s : Shared)
    (Q E : Value → Shared → Prop),
    Below A₀ base outer h₀ → Fr h₀ L s.heap m → K.In h₀ → News h₀ L s.heap news → Top p loose mean mg mb h₀ → cs.kind = .function → dp + k + 104 < recursionLimit → un + 8 * k + 100 < cLine →
    (∀ z t h' tk', R z → Fr h₀ L h' m → News h₀ L h' news → Q (.int z t) { s with heap := h', toks := tk' }) →
    wpAny (model prog w) (ktrTop dp un gd cn cs L a ccd cl outer) (call (.ref f) vs) Q E s
theorem rel_use {prog : Program} {w : World} {K : Frag} {p : Program} {loose : List Str} {mean : ExcName → Option Value} {mg mb : Str → Option Value} {f : Addr} {vs : List Value} {R : Int → Prop} {k : Nat}
   {dp un : Nat} {gd : Option (List Code)} {cn : Str} {cs : Scope} {a : Addr} {ccd : Value} {cl : List (Str × Addr)} {outer : List Env} {A₀ : Around} {base h₀ : Heap} {L : Addr} {m : Str → Option Value} {news : List (Addr × Obj)} {s : Shared} {Q E : Value → Shared → Prop}
   (B : Below A₀ base outer h₀) (F : Fr h₀ L s.heap m) (X : K.In h₀) (N : News h₀ L s.heap news) (T : Top p loose mean mg mb h₀) (hk : cs.kind = .function) (C : RelCall prog w K p loose mean mg mb f vs R k)
   (hd : dp + k + 104 < recursionLimit) (hu : un + 8 * k + 100 < cLine)
   (ret : ∀ z t h' tk', R z → Fr h₀ L h' m → News h₀ L h' news → Q (.int z t) { s with heap := h', toks := tk' }) :
    wpAny (model prog w) (ktrTop dp un gd cn cs L a ccd cl outer) (call (.ref f) vs) Q E s := C _ _ _ _ _ _ _ _ _ _ _ _ _ _ _ _ _ _ B F X N T hk hd hu ret
section
variable (w : World) (mean : ExcName → Option Value) (mg mb : Str → Option Value)
abbrev RC := RelCall PySem.Challenge.rw_dn0134_10.row.prog w (hd.heap_39 w.params) prog0 (looseW hd.view_39 [] ++ List.map (fun x => x.name) (recsOf hd.view_39) ++ List.map (fun x => x.fst) (litsOf hd.view_39) ++ List.map (fun x => x.name) (clssOf hd.view_39 (looseW hd.view_39 []))) mean mg mb
end
end Mine
namespace Mine
open PySem.Builtin.Int (intBits)
/-- what a row of digits is worth -/
def evalD (P : Int) : List Int → Int
  | [] => 0
  | d :: r => d + P * evalD P r
theorem evalD_append (P : Int) (xs ys : List Int) : evalD P (xs ++ ys) = evalD P xs + P ^ xs.length * evalD P ys := by
  induction xs with
  | nil => simp [evalD]
  | cons d r ih =>
    rw [List.cons_append, evalD, evalD, ih, List.length_cons, Int.pow_succ]
    grind
/-- the digits from place l on to place r -/
def cutD (ns : List Int) (l r : Nat) : List Int := (ns.drop l).take (r - l)
theorem cutD_one {ns : List Int} {l : Nat} (h : l < ns.length) : cutD ns l (l + 1) = [ns.getD l 0] := by
  unfold cutD
  have e : l + 1 - l = 1 := by omega
  rw [e, List.drop_eq_getElem_cons h, List.getD_eq_getElem?_getD, List.getElem?_eq_getElem h]
  rfl
theorem cutD_split {ns : List Int} {l m r : Nat} (h1 : l ≤ m) (h2 : m ≤ r) (h3 : r ≤ ns.length) : cutD ns l r = cutD ns l m ++ cutD ns m r := by
  unfold cutD
  have e : r - l = (m - l) + (r - m) := by omega
  rw [e, List.take_add, List.drop_drop]
  congr 2
  congr 1
  omega
theorem cutD_len {ns : List Int} {l r : Nat} (h1 : l ≤ r) (h3 : r ≤ ns.length) : (cutD ns l r).length = r - l := by
  unfold cutD
  rw [List.length_take, List.length_drop]; omega
theorem cutD_all (ns : List Int) : cutD ns 0 ns.length = ns := by
  unfold cutD
  rw [List.drop_zero, Nat.sub_zero, List.take_length]
/-- the worth of a part by its two halves, as the program takes it -/
theorem inner_val {ns : List Int} {n l m r : Int} (n0 : 0 ≤ n) (l0 : 0 ≤ l) (h1 : l ≤ m) (h2 : m ≤ r) (h3 : r ≤ ns.length) :
    evalD (2 ^ n.toNat) (cutD ns m.toNat r.toNat) * 2 ^ ((m - l) * n).toNat + evalD (2 ^ n.toNat) (cutD ns l.toNat m.toNat) = evalD (2 ^ n.toNat) (cutD ns l.toNat r.toNat) := by
  rw [cutD_split (l := l.toNat) (m := m.toNat) (r := r.toNat) (by omega) (by omega) (by omega), evalD_append, cutD_len (by omega) (by omega)]
  have e : ((m - l) * n).toNat = n.toNat * (m.toNat - l.toNat) := by
    have h : ((n.toNat * (m.toNat - l.toNat) : Nat) : Int) = (m - l) * n := by
      rw [Int.natCast_mul, Int.toNat_of_nonneg n0, Int.natCast_sub (by omega), Int.toNat_of_nonneg (by omega), Int.toNat_of_nonneg l0, Int.mul_comm]
    omega
  rw [e, Int.pow_mul]
  generalize (2 : Int) ^ n.toNat = P
  rw [Int.mul_comm]; omega
/-- bits of a part -/
theorem inner_bits {ns : List Int} {n : Int} {B : Nat} (n0 : 0 ≤ n) (hb : ∀ x ∈ ns, intBits x ≤ B) : ∀ k l : Nat, l + k + 1 ≤ ns.length → intBits (evalD (2 ^ n.toNat) (cutD ns l (l + (k + 1)))) ≤ B + n.toNat * k + k := by
  intro k
  induction k with
  | zero =>
    intro l h
    rw [show l + (0 + 1) = l + 1 from rfl, cutD_one (by omega), evalD, evalD, Int.mul_zero, Int.add_zero]
    have : ns.getD l 0 ∈ ns := by
      rw [List.getD_eq_getElem?_getD, List.getElem?_eq_getElem (by omega)]
      exact List.getElem_mem _
    have := hb _ this
    omega
  | succ k ih =>
    intro l h
    rw [cutD_split (m := l + 1) (by omega) (by omega) (by omega), evalD_append, cutD_one (by omega)]
    have h1 := ih (l + 1) (by omega)
    have e : l + 1 + (k + 1) = l + (k + 1 + 1) := by omega
    rw [e] at h1
    have h2 : intBits (evalD (2 ^ n.toNat) [ns.getD l 0]) ≤ B := by
      rw [evalD, evalD, Int.mul_zero, Int.add_zero]
      have : ns.getD l 0 ∈ ns := by
        rw [List.getD_eq_getElem?_getD, List.getElem?_eq_getElem (by omega)]
        exact List.getElem_mem _
      exact hb _ this
    rw [show [ns.getD l 0].length = 1 from rfl, Int.pow_succ, Int.pow_zero, Int.one_mul]
    generalize evalD (2 ^ n.toNat) (cutD ns (l + 1) (l + (k + 1 + 1))) = v at *
    have h3 : intBits (2 ^ n.toNat * v) ≤ n.toNat + (B + n.toNat * k + k) := by
      by_cases hv : v = 0
      · rw [hv, Int.mul_zero]; exact Nat.zero_le _
      refine intBits_le_iff.mpr ?_
      rw [Int.natAbs_mul, abs2, Nat.pow_add]
      exact Nat.mul_lt_mul_of_pos_left (intBits_le_iff.mp h1) (Nat.two_pow_pos _)
    refine Nat.le_trans (bits_add h2 h3) ?_
    rw [Nat.mul_succ]
    omega
theorem inner_bits' {ns : List Int} {n l r : Int} {B N : Nat} (n0 : 0 ≤ n) (hb : ∀ x ∈ ns, intBits x ≤ B) (l0 : 0 ≤ l) (h1 : l < r) (h2 : r ≤ ns.length) (hN : (B : Int) + n * ns.length + ns.length ≤ N) :
    intBits (evalD (2 ^ n.toNat) (cutD ns l.toNat r.toNat)) ≤ N := by
  have h := inner_bits n0 hb (r.toNat - l.toNat - 1) l.toNat (by omega)
  have e : l.toNat + (r.toNat - l.toNat - 1 + 1) = r.toNat := by omega
  rw [e] at h
  refine Nat.le_trans h ?_
  have h3 : n.toNat * (r.toNat - l.toNat - 1) ≤ n.toNat * ns.length := Nat.mul_le_mul_left _ (by omega)
  have h4 : ((n.toNat * ns.length : Nat) : Int) = n * ns.length := by rw [Int.natCast_mul, Int.toNat_of_nonneg n0]
  omega
theorem mid_bounds {l r : Int} (h : l + 1 < r) (l0 : 0 ≤ l) : l < (l + r) / 2 ∧ (l + r) / 2 < r := by omega
end Mine
namespace Mine
open PySem.Builtin.Int (intBits)
theorem ne_rest {d e : Addr} {l : List (Addr × Obj)} (h : AllLt d l) (hde : @LE.le Nat _ d e) : ∀ p ∈ l, p.1 ≠ e := fun p hp => Nat.ne_of_lt (Nat.lt_of_lt_of_le (kst_ltOf h p hp) hde)
def InnerC (prog : Program) (w : World) (K : Frag) (p : Program) (loose : List Str) (mean : ExcName → Option Value) (mg mb : Str → Option Value) (fI : Addr) (pre : List (Addr × Obj)) (ns : List Int) (n : Int) (k : Nat) : Prop :=
  ∀ (l r : Int) (t u : Tok) (dp un : Nat) (gd : Option (List Code)) (cn : Str) (cs : Scope) (a : Addr) (ccd : Value) (cl : List (Str × Addr)) (outer : List Env) (A₀ : Around) (base h₀ : Heap) (L : Addr) (m : Str → Option Value) (rest : List (Addr × Obj)) (s : Shared)
    (Q E : Value → Shared → Prop), 0 ≤ l → l < r → r ≤ ns.length → r - l ≤ 2 ^ k →
    Below A₀ base outer h₀ → Fr h₀ L s.heap m → K.In h₀ → News h₀ L s.heap (pre ++ rest) → Top p loose mean mg mb h₀ → cs.kind = .function → dp + k + 104 < recursionLimit → un + 8 * k + 100 < cLine →
    (∀ t' h' tk', Fr h₀ L h' m → News h₀ L h' (pre ++ rest) → Q (.int (evalD (2 ^ n.toNat) (cutD ns l.toNat r.toNat)) t') { s with heap := h', toks := tk' }) →
    wpAny (model prog w) (ktrTop dp un gd cn cs L a ccd cl outer) (call (.ref fI) [.int l t, .int r u]) Q E s
section
variable {prog : Program} {w : World} {K : Frag} {p : Program} {loose : List Str} {mean : ExcName → Option Value} {mg mb : Str → Option Value} {fI : Addr} {pre : List (Addr × Obj)} {ns : List Int} {n : Int}
theorem inner_all (step : ∀ k, (∀ j, k = j + 1 → InnerC prog w K p loose mean mg mb fI pre ns n j) → InnerC prog w K p loose mean mg mb fI pre ns n k) : ∀ k, InnerC prog w K p loose mean mg mb fI pre ns n k
  | 0 => step 0 fun j e => by omega
  | k + 1 => step (k + 1) fun j e => by
      obtain rfl : k = j := by omega
      exact inner_all step k
theorem inner_use {k : Nat} {l r : Int} {t u : Tok} {dp un : Nat} {gd : Option (List Code)} {cn : Str} {cs : Scope} {a : Addr} {ccd : Value} {cl : List (Str × Addr)} {outer : List Env} {A₀ : Around} {base h₀ : Heap} {L : Addr} {m : Str → Option Value} {news : List (Addr × Obj)} {s : Shared}
    {Q E : Value → Shared → Prop} (C : InnerC prog w K p loose mean mg mb fI pre ns n k) (l0 : 0 ≤ l) (lr : l < r) (hr : r ≤ ns.length) (hk2 : r - l ≤ 2 ^ k)
    (B : Below A₀ base outer h₀) (F : Fr h₀ L s.heap m) (X : K.In h₀) (N : News h₀ L s.heap news) (hp : ∀ p ∈ pre, p ∈ news) (T : Top p loose mean mg mb h₀) (hk : cs.kind = .function) (hdp : dp + k + 104 < recursionLimit) (hu : un + 8 * k + 100 < cLine)
    (ret : ∀ t' h' tk', Fr h₀ L h' m → News h₀ L h' news → Q (.int (evalD (2 ^ n.toNat) (cutD ns l.toNat r.toNat)) t') { s with heap := h', toks := tk' }) :
    wpAny (model prog w) (ktrTop dp un gd cn cs L a ccd cl outer) (call (.ref fI) [.int l t, .int r u]) Q E s :=
  C l r t u dp un gd cn cs a ccd cl outer A₀ base h₀ L m news s Q E l0 lr hr hk2 B F X (fun q hq => by
    rcases List.mem_append.mp hq with hq | hq
    · exact N q (hp q hq)
    · exact N q hq) T hk hdp hu fun t' h' tk' F' N' => ret t' h' tk' F' fun q hq => N' q (List.mem_append.mpr (.inr hq))
theorem inner_use6 {nm ql : Str} {prm : Arguments} {bd : List Stmt} {sc : Scope} {clo : List (Str × Addr)} {doc pm ct : Value} {c2 c3 c4 c5 c6 : Addr} {o2 o3 o4 o5 o6 : Obj} {k : Nat} {l r : Int} {t u : Tok} {dp un : Nat} {gd : Option (List Code)} {cn : Str} {cs : Scope} {a : Addr} {ccd : Value} {cl : List (Str × Addr)} {outer : List Env} {A₀ : Around} {base h₀ : Heap} {L : Addr} {m : Str → Option Value} {news : List (Addr × Obj)} {s : Shared}
    {Q E : Value → Shared → Prop} (N : News h₀ L s.heap news) (m1 : (fI, fnMade nm ql prm bd sc clo doc pm c2 ct) ∈ news) (m2 : (c2, o2) ∈ news) (m3 : (c3, o3) ∈ news) (m4 : (c4, o4) ∈ news) (m5 : (c5, o5) ∈ news) (m6 : (c6, o6) ∈ news)
    (C : InnerC prog w K p loose mean mg mb fI [(fI, fnMade nm ql prm bd sc clo doc pm c2 ct), (c2, o2), (c3, o3), (c4, o4), (c5, o5), (c6, o6)] ns n k) (l0 : 0 ≤ l) (lr : l < r) (hr : r ≤ ns.length) (hk2 : r - l ≤ 2 ^ k)
    (B : Below A₀ base outer h₀) (F : Fr h₀ L s.heap m) (X : K.In h₀) (T : Top p loose mean mg mb h₀) (hk : cs.kind = .function) (hdp : dp + k + 104 < recursionLimit) (hu : un + 8 * k + 100 < cLine)
    (ret : ∀ t' h' tk', Fr h₀ L h' m → News h₀ L h' news → Q (.int (evalD (2 ^ n.toNat) (cutD ns l.toNat r.toNat)) t') { s with heap := h', toks := tk' }) :
    wpAny (model prog w) (ktrTop dp un gd cn cs L a ccd cl outer) (call (.ref fI) [.int l t, .int r u]) Q E s :=
  inner_use C l0 lr hr hk2 B F X N (List.forall_mem_cons.mpr ⟨m1, List.forall_mem_cons.mpr ⟨m2, List.forall_mem_cons.mpr ⟨m3, List.forall_mem_cons.mpr ⟨m4, List.forall_mem_cons.mpr ⟨m5, List.forall_mem_cons.mpr ⟨m6, List.forall_mem_nil _⟩⟩⟩⟩⟩⟩) T hk hdp hu ret
end
section
variable {prog : Program} {w : World} {A : Around} {E : Value → Shared → Prop} {s : Shared} {h₀ : Heap} {L : Addr} {news : List (Addr × Obj)} {l : Addr} {vs : List Value} {ns : List Int} {c : Nat}
theorem truth_z {Q : Bool → Shared → Prop} (N : News h₀ L s.heap news) (hm : (l, listOf vs.toArray c) ∈ news) (hi : IntsAre vs ns) (hlen : ns.length ≤ 1000000)
    (h1 : ns ≠ [] → ∀ tk, Q true { s with toks := tk }) (h2 : ns = [] → ∀ tk, Q false { s with toks := tk }) : wpAny (model prog w) A (truthy (.ref l)) Q E s := by
  have hl : s.heap.IsList l vs.toArray := ⟨_, (N _ hm).1, rfl, c, rfl⟩
  have e := hi.length
  refine wpAny_truthy_list hl (by rw [List.size_toArray, e]; omega) ?_
  cases ns with
  | nil =>
    have : vs = [] := List.length_eq_zero_iff.mp (by rw [e]; rfl)
    subst this
    exact h2 rfl _
  | cons x r =>
    cases vs with
    | nil => simp at e
    | cons v vr => exact h1 (by simp) _
end
/-- the table of a def's inner defs: empty, or with the one code object -/
def TabS (P : Addr) (line col : Nat) (ql : Str) (X : Obj) (C : Addr) (Y : Obj) : Prop :=
  (X = tabObj #[] ∧ C = P ∧ Y = X) ∨ (X = tabObj #[rawInt line, rawInt col, .ref C] ∧ C ≠ P ∧ ∃ vs t, Y.data = .fields vs ∧ vs[1]? = some (.str ql t))
theorem TabS.grown {P : Addr} {line col : Nat} {ql : Str} {X Y : Obj} {C : Addr} (h : TabS P line col ql X C Y) : ∃ ps, X = tabObj ps := by
  rcases h with h | h
  · exact ⟨_, h.1⟩
  · exact ⟨_, h.1⟩
/-- the table with the one code object -/
def TabF (P : Addr) (line col : Nat) (ql : Str) (X : Obj) (C : Addr) (Y : Obj) : Prop :=
  X = tabObj #[rawInt line, rawInt col, .ref C] ∧ C ≠ P ∧ ∃ vs t, Y.data = .fields vs ∧ vs[1]? = some (.str ql t)
theorem TabF.toS {P : Addr} {line col : Nat} {ql : Str} {X Y : Obj} {C : Addr} (h : TabF P line col ql X C Y) : TabS P line col ql X C Y := .inr h
theorem TabF.grown {P : Addr} {line col : Nat} {ql : Str} {X Y : Obj} {C : Addr} (h : TabF P line col ql X C Y) : ∃ ps, X = tabObj ps := ⟨_, h.1⟩
/-- its code object lies apart from what is no record -/
theorem TabF.off {P : Addr} {line col : Nat} {ql : Str} {X Y o : Obj} {C a : Addr} {h₀ h : Heap} {L : Addr} {news : List (Addr × Obj)} (H : TabF P line col ql X C Y) (N : News h₀ L h news) (hC : (C, Y) ∈ news) (hO : (a, o) ∈ news) (ho : ∀ vs, o.data ≠ .fields vs) : C ≠ a := by
  obtain ⟨_, _, vs, t, e1, _⟩ := H
  intro e
  have g1 := (N _ hC).1
  have g2 := (N _ hO).1
  rw [e, g2] at g1
  have g3 : o = Y := Option.some.inj g1
  exact ho vs (by rw [g3]; exact e1)
theorem TabS.start (P : Addr) (line col : Nat) (ql : Str) : TabS P line col ql (tabObj #[]) P (tabObj #[]) := .inl ⟨rfl, rfl, rfl⟩
theorem tab_fin {P C' lst : Addr} {line col : Nat} {ql : Str} {X' Y' ol : Obj} {full rest : List (Addr × Obj)} {vs : Array Value} {t : Tok} {h₀ h : Heap} {L : Addr} (N : News h₀ L h full) (hX : (P, X') ∈ full) (e : X' = tabObj #[rawInt line, rawInt col, .ref C']) (hY : (C', Y') ∈ full) (hne : C' ≠ P) (h1 : Y'.data = .fields vs) (h2 : vs[1]? = some (.str ql t))
    (hl : (lst, ol) ∈ full) (hs : ∀ q ∈ rest, q ∈ full) : TabF P line col ql X' C' Y' ∧ News h₀ L h ((P, X') :: (C', Y') :: (lst, ol) :: rest) :=
  ⟨⟨e, hne, vs, t, h1, h2⟩, fun q hq => N q (by
    rcases List.mem_cons.mp hq with rfl | hq
    · exact hX
    rcases List.mem_cons.mp hq with rfl | hq
    · exact hY
    rcases List.mem_cons.mp hq with rfl | hq
    · exact hl
    exact hs q hq)⟩
end Mine
namespace Mine
open PySem.Builtin.Int (intBits)
section
variable {prog : Program} {w : World} {A : Around} {E : Value → Shared → Prop} {s : Shared} {a b : Int} {t u : Tok} {Q : Value → Shared → Prop}
theorem half_p (h : ∀ z, z = a / 2 → Q (.int z s.toks) { s with toks := s.toks + 1 }) : wpAny (model prog w) A (binaryOp .RShift (.int a t) (.int 1 u)) Q E s := by
  refine rshift_int (by decide) (h _ ?_)
  have e : (2 : Int) ^ (1 : Int).toNat = 2 := by decide
  rw [e, Int.fdiv_eq_ediv_of_nonneg _ (by decide)]
theorem mulS_p (a0 : 0 ≤ a) (a1 : a ≤ 1000000) (b0 : 0 ≤ b) (b1 : b ≤ 10000000) (h : ∀ z, z = a * b → Q (.int z s.toks) { s with toks := s.toks + 1 }) : wpAny (model prog w) A (binaryOp .Mult (.int a t) (.int b u)) Q E s :=
  mul_p (m := 20) (n := 24) (bits_of_lt a0 (by have : (2 : Int) ^ 20 = 1048576 := by decide
                                               omega)) (bits_of_lt b0 (by have : (2 : Int) ^ 24 = 16777216 := by decide
                                                                          omega)) (by decide) (h _ rfl)
theorem shlD_p {x e : Int} (h0 : 0 ≤ e) (h1 : e ≤ 10000000) (hx : intBits x ≤ 10000000) (h : ∀ z, z = x * 2 ^ e.toNat → Q (.int z s.toks) { s with toks := s.toks + 1 }) : wpAny (model prog w) A (binaryOp .LShift (.int x t) (.int e u)) Q E s :=
  shl_p (N := 10000000) (m := 10000000) h0 hx h1 (by decide) fun z _ e _ => h z e
end
section
variable {prog : Program} {w : World} {A : Around} {E : Value → Shared → Prop} {s : Shared} {h₀ : Heap} {L : Addr} {news : List (Addr × Obj)} {value slice : Expr} {l : Addr} {vs : List Value} {ns : List Int} {c : Nat} {k : Int} {u : Tok} {Q : Value → Shared → Prop}
theorem itemD (N : News h₀ L s.heap news) (hm : (l, listOf vs.toArray c) ∈ news) (hi : IntsAre vs ns) (h0 : 0 ≤ k) (h1 : k < (ns.length : Int)) (h2 : (ns.length : Int) ≤ 1000000) (h : ∀ t, Q (.int (ns.getD k.toNat 0) t) s)
    (hs : subscripted slice false (.ref l) (.int k u) = operate [.ref l, .int k u] (getItem (.ref l) (.int k u)) := by with_unfolding_all rfl) (hg : ∀ r, letTemporaryGo value (.ref l) r = pure () := by intro _; with_unfolding_all rfl) :
    wpAny (model prog w) A (subscriptTail value slice (.ref l) (.int k u)) Q E s :=
  item_list_ints ⟨_, (N _ hm).1, rfl, c, rfl⟩ hi h0 h1 (by omega) h hs hg
end
theorem half_le {l r : Int} {k : Nat} (h : r - l ≤ 2 ^ k) (h1 : l + 1 < r) : ∃ j, k = j + 1 ∧ r - (l + r) / 2 ≤ 2 ^ j ∧ (l + r) / 2 - l ≤ 2 ^ j := by
  cases k with
  | zero => simp at h; omega
  | succ j => exact ⟨j, rfl, by rw [Int.pow_succ] at h; omega, by rw [Int.pow_succ] at h; omega⟩
theorem shift_le {l m r n : Int} {ns : List Int} {B : Nat} (n0 : 0 ≤ n) (l0 : 0 ≤ l) (h1 : l ≤ m) (h2 : m ≤ r) (h3 : r ≤ ns.length) (hN : (B : Int) + n * ns.length + ns.length ≤ 10000000) : 0 ≤ (m - l) * n ∧ (m - l) * n ≤ 10000000 := by
  have h4 : (m - l) * n ≤ ns.length * n := mul_le_of n0 (by omega)
  rw [Int.mul_comm (ns.length : Int)] at h4
  have : 0 ≤ n * ns.length := Int.mul_nonneg n0 (by omega)
  exact ⟨Int.mul_nonneg (by omega) n0, by omega⟩
theorem evalD_one (P x : Int) : evalD P [x] = x := by rw [evalD, evalD, Int.mul_zero, Int.add_zero]
local macro_rules | `(tactic| k_all) => `(tactic| first | assumption | exact ne_rest (by assumption) (by omega))
local macro_rules | `(tactic| walk_at "truthy ref") => `(tactic| k_extra "truth")
local macro_rules | `(tactic| walk_at "call ref") => `(tactic| k_extra "mycall")
local macro_rules | `(tactic| walk_at "eval Name") => `(tactic| (k_here; k_dflt (refine' nameX_F ?N ?c ?m ?d ?_ ?a ?b; (case a => rfl); (case b => rfl); (case N => k_asm); (case c => rfl); (case m => k_mem); (case d => k_asm); k_whole)))
local macro_rules | `(tactic| walk_at "binaryOp RShift int int") => `(tactic| k_extra "half")
local macro_rules | `(tactic| walk_at "binaryOp Mult int int") => `(tactic| k_extra "mul")
local macro_rules | `(tactic| walk_at "binaryOp LShift int int") => `(tactic| k_extra "shl")
local macro_rules | `(tactic| walk_at "subscriptTail Name Name ref int") => `(tactic| k_extra "item")
set_option maxRecDepth 100000 in
set_option maxHeartbeats 8000000 in
theorem dig_c (w : World) (mean : ExcName → Option Value) (mg mb : Str → Option Value) {n : Int} {vs : List Value} {ns : List Int} {c Bd : Nat} {lst : Addr} {t : Tok} {Xo Yo : Obj} {Co : Addr} (hI : IntsAre vs ns) (hlen : ns.length ≤ 1000000) (n0 : 0 ≤ n) (hB : ∀ x ∈ ns, intBits x ≤ Bd) (hN : (Bd : Int) + n * ns.length + ns.length ≤ 10000000) (n1 : n ≤ 10000000)
    {dp un : Nat} {gd : Option (List Code)} {cn : Str} {cs : Scope} {a : Addr} {ccd : Value} {cl : List (Str × Addr)} {outer : List Env} {A₀ : Around} {base h₀ : Heap} {L : Addr} {m : Str → Option Value} {rest : List (Addr × Obj)} {s : Shared}
    {Q E : Value → Shared → Prop} (B : Below A₀ base outer h₀) (F : Fr h₀ L s.heap m) (X : (hd.heap_39 w.params).In h₀) (N : News h₀ L s.heap ((37, Xo) :: (Co, Yo) :: (lst, listOf vs.toArray c) :: rest)) (T : Top prog0 (looseW hd.view_39 [] ++ List.map (fun x => x.name) (recsOf hd.view_39) ++ List.map (fun x => x.fst) (litsOf hd.view_39) ++ List.map (fun x => x.name) (clssOf hd.view_39 (looseW hd.view_39 []))) mean mg mb h₀) (hC : CodeHd h₀ 41 37) (hr : ∀ p ∈ rest, p.1 ≠ 37) (hlp : lst ≠ 37) (hTab : TabS 37 47 4 (Str.ofString "_digits2int.<locals>.inner") Xo Co Yo) (hk : cs.kind = .function) (hdp : dp + 22 + 104 < recursionLimit) (hu : un + 8 * 22 + 100 < cLine)
    (hret : ∀ X' C' Y' t' h' tk', TabF 37 47 4 (Str.ofString "_digits2int.<locals>.inner") X' C' Y' → Fr h₀ L h' m → News h₀ L h' ((37, X') :: (C', Y') :: (lst, listOf vs.toArray c) :: rest) → Q (.int (evalD (2 ^ n.toNat) ns) t') { s with heap := h', toks := tk' }) :
    wpAny (model PySem.Challenge.rw_dn0134_10.row.prog w) (ktrTop dp un gd cn cs L a ccd cl outer) (call (.ref 42) [.ref lst, .int n t]) Q E s := by
  (have hh : PySem.Challenge.rw_dn0134_10 = PySem.Challenge.rw_dn0134_10 ∧ hd.heap_39 = hd.heap_39 := by (k_fill; exact ⟨rfl, rfl⟩))
  clear hh
  w_top off
  k_with_none
  k_with "truth" => (k_dflt (refine' truth_z ?zN ?zm hI hlen ?_ ?_; (case zN => k_asm); (case zm => k_mem)); rotate_left; (intro hnil tk1); rotate_left; (intro hne tk1; have hpos := List.length_pos_iff.mpr hne))
  k_with "half" => ((with_reducible refine half_p ?_); intro mid hmid)
  k_with "mul" => ((with_reducible refine' mulS_p ?za ?zb n0 n1 ?_); (case za => omega); (case zb => omega); intro sh hsh)
  k_with "shl" => (have hsl := shift_le (l := il) (m := mid) (r := ir) n0 (by omega) (by omega) (by omega) (by omega) hN; rw [← hsh] at hsl; (k_dflt (refine' shlD_p hsl.1 hsl.2 (inner_bits' (N := 10000000) n0 hB ?za ?zb ?zc (by exact hN)) ?_)); (case za => omega); (case zb => omega); (case zc => omega); intro zl hzl)
  k_with "item" => (k_dflt (refine' itemD ?zN ?zm hI ?za ?zb ?zc ?_; (case zN => k_asm); (case zm => k_mem); (case za => omega); (case zb => omega); (case zc => omega)); intro ti)
  k_with "mycall" => (first
    | (obtain ⟨j, hj, hj1, hj2⟩ := half_le (l := il) (r := ir) ik (by omega)
       k_dflt (refine' inner_use6 (k := j) ?zN ?zm1 ?zm2 ?zm3 ?zm4 ?zm5 ?zm6 (hIH j hj) ?l0 ?lr ?hr2 ?hk2 ?zB ?zF ?zX ?zT ?kK ?zd ?zu ?_)
       (case zN => k_asm)
       (case zm1 => k_dflt k_mem)
       (case zm2 => k_dflt k_mem)
       (case zm3 => k_dflt k_mem)
       (case zm4 => k_dflt k_mem)
       (case zm5 => k_dflt k_mem)
       (case zm6 => k_dflt k_mem)
       (case l0 => omega)
       (case lr => omega)
       (case hr2 => omega)
       (case hk2 => omega)
       (case zB => k_asm)
       (case zF => k_asm)
       (case zX => k_asm)
       (case zT => k_asm)
       (case kK => exact rfl)
       (case zd => ktr_room)
       (case zu => ktr_units)
       intro ti h' tk' F' N'
       (try dsimp only)
       (try k_fold))
    | ((fail_if_success (have h9 := hIH)); k_dflt (refine' inner_use6 (c3 := L' + 1 + 1 + 1) (c4 := L' + 1 + 1) (c5 := L' + 1) (c6 := lst) (o6 := listOf vs.toArray c) (ns := ns) (n := n) (k := 20) ?zN ?zm1 ?zm2 ?zm3 ?zm4 ?zm5 ?zm6 (inner_all ?step 20) ?l0 ?lr ?hr2 ?hk2 ?zB ?zF ?zX ?zT ?kK ?zd ?zu ?_)
       (case zN => k_asm)
       (case zm1 => k_dflt k_mem)
       (case zm2 => k_dflt k_mem)
       (case zm3 => k_dflt k_mem)
       (case zm4 => k_dflt k_mem)
       (case zm5 => k_dflt k_mem)
       (case zm6 => k_dflt k_mem)
       (case l0 => decide)
       (case lr => omega)
       (case hr2 => omega)
       (case hk2 => (simp; omega))
       (case zB => k_asm)
       (case zF => k_asm)
       (case zX => k_asm)
       (case zT => k_asm)
       (case kK => exact rfl)
       (case zd => ktr_room)
       (case zu => ktr_units)
       (case step => (
         intro k hIH
         unfold InnerC
         intro il ir ti ui dp2 un2 gd2 cn2 cs2 a2 ccd2 cl2 outer2 A2 base2 h2 L2 m2 rest2 s2 Q2 E2 il0 ilr irn ik IB IF IX IN IT Ik Id Iu Iret
         simp only [List.cons_append, List.nil_append] at IN Iret
         refine wpAny_call ?_
         k_dflt (refine' code_nest ?k1 ?k2 ?k3 ?k4 ?k5 ?kA ?kF ?kK ?k6 ?k7 ?k8 ?k9 ?kB ?_ ?c2 ?c3 ?c4 ?c5; (case kA => exact rfl); (case kF => exact rfl); (case kK => assumption); (case k1 => k_asm); (case k2 => k_asm); (case k3 => k_asm); (case k4 => k_asm); (case k5 => k_asm); (case k6 => k_mem); (case k7 => exact codeRec_news (by k_asm) (by k_mem) (by assumption) (by assumption)); (case k8 => ktr_room); (case k9 => exact BindsTo.of_eq rfl); (case c5 => decide); (case kB => exact locs rfl); (case c2 => exact rfl); (case c3 => exact rfl); (case c4 => exact rfl); k_whole; intro g2' L2' h2' FG2' F2' N2' B2' X2' T2'; (try dsimp only); (try k_fold))
         k_dflt (k_steps)
         all_goals (first
           | ((have e9 : evalD (2 ^ n.toNat) (cutD ns il.toNat ir.toNat) = ns.getD il.toNat 0 := by rw [show ir.toNat = il.toNat + 1 by omega, cutD_one (by omega), evalD_one]); rw [← e9]; exact Iret _ _ _ (by k_asm) (by k_asm))
           | ((have e9 := inner_val (ns := ns) (l := il) (m := mid) (r := ir) n0 il0 (by omega) (by omega) irn); rw [← hsh] at e9; rw [hzl, e9]; exact Iret _ _ _ (by k_asm) (by k_asm)))))
       intro ti h' tk' F' N'
       (try dsimp only)
       (try k_fold)))
  rcases hTab with ⟨rfl, rfl, rfl⟩ | ⟨rfl, hCne, vsC, tC, hY1, hY2⟩
  · replace N := news_sub N (sub0 (sub1 subr))
    refine wpAny_call ?_
    k_dflt (refine' code_defC ?k1 ?k2 ?k3 ?k4 ?k5 ?kA ?kF ?kK ?k6 ?k7 ?k8 ?k9 ?kB ?kD ?_ ?c2 ?c3 ?c4; (case kA => exact rfl); (case kF => exact rfl); (case kK => assumption); (case k1 => k_asm); (case k2 => k_asm); (case k3 => k_asm); (case k4 => k_asm); (case k5 => k_asm); (case k6 => k_is); (case k7 => k_is); (case k8 => ktr_room); (case k9 => exact BindsTo.of_eq rfl); (case kB => exact rfl); (case kD => decide); (case c2 => exact rfl); (case c3 => exact rfl); (case c4 => exact rfl); k_whole; intro g' L' h' tk' cells' FG' F' N' Y' B' X' T' l1)
    (try k_lt l1); (first | obtain ⟨l1a, l1e, l1b, l1c⟩ := l1 | obtain ⟨l1a, l1b, l1c⟩ := l1); have hC' := hC.keeps FG'.keep; k_cells Y'; (try simp only [List.cons_append, List.nil_append] at N'); (try dsimp only); (try k_fold)
    k_steps
    all_goals (
      (obtain ⟨hf1, hf2⟩ := tab_fin (P := 37) (line := 47) (col := 4) (ql := Str.ofString "_digits2int.<locals>.inner") (h₀ := h₀) (L := L) (lst := lst) (ol := listOf vs.toArray c) (rest := rest) (by k_asm) (by k_mem) rfl (by k_mem) (by first | assumption | k_ne) (by assumption) (by assumption) (by k_mem) (by (repeat' (first | exact subr | (refine sub1 ?_)))))
      first
        | ((have e9 : evalD (2 ^ n.toNat) (cutD ns (Int.toNat 0) ((ns.length : Int)).toNat) = evalD (2 ^ n.toNat) ns := (by rw [Int.toNat_natCast]; exact congrArg _ (cutD_all ns))); rw [e9]; exact hret _ _ _ _ _ _ hf1 (by k_asm) hf2)
        | (subst hnil; exact hret _ _ _ _ _ _ hf1 (by k_asm) hf2))
  ·
    refine wpAny_call ?_
    k_dflt (refine' code_defC ?k1 ?k2 ?k3 ?k4 ?k5 ?kA ?kF ?kK ?k6 ?k7 ?k8 ?k9 ?kB ?kD ?_ ?c2 ?c3 ?c4; (case kA => exact rfl); (case kF => exact rfl); (case kK => assumption); (case k1 => k_asm); (case k2 => k_asm); (case k3 => k_asm); (case k4 => k_asm); (case k5 => k_asm); (case k6 => k_is); (case k7 => k_is); (case k8 => ktr_room); (case k9 => exact BindsTo.of_eq rfl); (case kB => exact rfl); (case kD => decide); (case c2 => exact rfl); (case c3 => exact rfl); (case c4 => exact rfl); k_whole; intro g' L' h' tk' cells' FG' F' N' Y' B' X' T' l1)
    (try k_lt l1); (first | obtain ⟨l1a, l1e, l1b, l1c⟩ := l1 | obtain ⟨l1a, l1b, l1c⟩ := l1); have hC' := hC.keeps FG'.keep; k_cells Y'; (try simp only [List.cons_append, List.nil_append] at N'); (try dsimp only); (try k_fold)
    k_steps
    all_goals (
      (obtain ⟨hf1, hf2⟩ := tab_fin (P := 37) (line := 47) (col := 4) (ql := Str.ofString "_digits2int.<locals>.inner") (h₀ := h₀) (L := L) (lst := lst) (ol := listOf vs.toArray c) (rest := rest) (by k_asm) (by k_mem) rfl (by k_mem) (by first | assumption | k_ne) (by assumption) (by assumption) (by k_mem) (by (repeat' (first | exact subr | (refine sub1 ?_)))))
      first
        | ((have e9 : evalD (2 ^ n.toNat) (cutD ns (Int.toNat 0) ((ns.length : Int)).toNat) = evalD (2 ^ n.toNat) ns := (by rw [Int.toNat_natCast]; exact congrArg _ (cutD_all ns))); rw [e9]; exact hret _ _ _ _ _ _ hf1 (by k_asm) hf2)
        | (subst hnil; exact hret _ _ _ _ _ _ hf1 (by k_asm) hf2))
end Mine
namespace Mine
open PySem.Builtin.Int (intBits)
theorem and_self_z (x : Int) : Builtin.bitAnd x x = x := by
  have h1 := bitXor_and x x
  have h2 := bitXor_self x
  omega
theorem and_high : ∀ (k : Nat) (u v : Int), 0 ≤ v → v < 2 ^ k → Builtin.bitAnd (u * 2 ^ k + v) (u * 2 ^ k) = u * 2 ^ k := by
  intro k
  induction k with
  | zero =>
    intro u v h0 h1
    have : v = 0 := by rw [Int.pow_zero] at h1; omega
    subst this
    rw [Int.add_zero, and_self_z]
  | succ k ih =>
    intro u v h0 h1
    rw [Int.pow_succ] at h1
    rw [kbt_halves]
    have e1 : (u * 2 ^ (k + 1) + v) / 2 = u * 2 ^ k + v / 2 := by
      rw [Int.pow_succ, ← Int.mul_assoc]; omega
    have e2 : u * 2 ^ (k + 1) / 2 = u * 2 ^ k := by
      rw [Int.pow_succ, ← Int.mul_assoc]; omega
    rw [e1, e2, ih u (v / 2) (by omega) (by omega)]
    have ep : u * 2 ^ (k + 1) = u * 2 ^ k * 2 := by rw [Int.pow_succ, Int.mul_assoc]
    rw [ep]
    generalize u * 2 ^ k = z
    split <;> omega
/-- the low end, as the program takes it -/
theorem xor_low (x : Int) (k : Nat) : Builtin.bitXor x (x / 2 ^ k * 2 ^ k) = x % 2 ^ k := by
  have hp := ppos k
  have h0 := Int.emod_nonneg x (show (2 : Int) ^ k ≠ 0 by omega)
  have h1 := Int.emod_lt_of_pos x hp
  have e : x / 2 ^ k * 2 ^ k + x % 2 ^ k = x := by rw [Int.mul_comm]; exact Int.mul_ediv_add_emod _ _
  have h := and_high k (x / 2 ^ k) (x % 2 ^ k) h0 h1
  rw [e] at h
  rw [bitXor_and, h]
  omega
/-- the k lowest digits of x -/
def digs (P : Int) : Nat → Int → List Int
  | 0, _ => []
  | k + 1, x => x % P :: digs P k (x / P)
theorem digs_len (P : Int) : ∀ (k : Nat) (x : Int), (digs P k x).length = k
  | 0, _ => rfl
  | k + 1, x => by rw [digs, List.length_cons, digs_len]
theorem digs_add {P : Int} (hP : 0 < P) : ∀ (j k : Nat) (x : Int), digs P (j + k) x = digs P j (x % P ^ j) ++ digs P k (x / P ^ j)
  | 0, k, x => by rw [Nat.zero_add, Int.pow_zero, Int.ediv_one]; rfl
  | j + 1, k, x => by
    have e : j + 1 + k = j + k + 1 := by omega
    have hp : 0 < P ^ j := Int.pow_pos hP
    rw [e, digs, digs_add hP j k, digs, List.cons_append]
    have e1 : x % P ^ (j + 1) % P = x % P := Int.emod_emod_of_dvd x ⟨P ^ j, by rw [Int.pow_succ, Int.mul_comm]⟩
    have e2 : x % P ^ (j + 1) / P = x / P % P ^ j := by
      have h0 : P ^ (j + 1) = P * P ^ j := by rw [Int.pow_succ, Int.mul_comm]
      rw [h0]
      have hx := Int.mul_ediv_add_emod x P
      have hr := Int.emod_nonneg x (show P ≠ 0 by omega)
      have hr1 := Int.emod_lt_of_pos x hP
      have hy := Int.mul_ediv_add_emod (x / P) (P ^ j)
      have hs := Int.emod_nonneg (x / P) (show P ^ j ≠ 0 by omega)
      have hs1 := Int.emod_lt_of_pos (x / P) hp
      generalize x % P = r at *
      generalize hq : x / P = q at *
      generalize q % P ^ j = s at *
      generalize q / P ^ j = t at *
      generalize P ^ j = R at *
      have ex : x = (P * s + r) + P * R * t := by rw [← hx, ← hy]; grind
      have hlt : P * s + r < P * R := by
        have : P * (s + 1) ≤ P * R := Int.mul_le_mul_of_nonneg_left (by omega) (by omega)
        rw [Int.mul_add, Int.mul_one] at this
        omega
      have h0' : 0 ≤ P * s + r := by
        have := Int.mul_nonneg (Int.le_of_lt hP) hs
        omega
      rw [ex, Int.add_mul_emod_self_left, Int.emod_eq_of_lt h0' hlt, Int.add_comm, Int.add_mul_ediv_left _ _ (by omega), Int.ediv_eq_zero_of_lt hr hr1]
      omega
    have e3 : x / P ^ (j + 1) = x / P / P ^ j := by rw [Int.pow_succ, Int.mul_comm]; exact (Int.ediv_ediv_of_nonneg (by omega)).symm
    rw [e1, e2, e3]
theorem digs_one {P x : Int} (h0 : 0 ≤ x) (h1 : x < P) : digs P 1 x = [x] := by
  rw [digs, digs, Int.emod_eq_of_lt h0 h1]
theorem digs_eval {P : Int} (hP : 0 < P) : ∀ (k : Nat) (x : Int), 0 ≤ x → x < P ^ k → evalD P (digs P k x) = x
  | 0, x, h0, h1 => by rw [Int.pow_zero] at h1; rw [digs, evalD]; omega
  | k + 1, x, h0, h1 => by
    rw [digs, evalD, digs_eval hP k (x / P) (Int.ediv_nonneg h0 (by omega)) (Int.ediv_lt_of_lt_mul hP (by rw [← Int.pow_succ]; exact h1))]
    have := Int.mul_ediv_add_emod x P
    omega
theorem digs_lt {P : Int} (hP : 0 < P) : ∀ (k : Nat) (x : Int), ∀ d ∈ digs P k x, 0 ≤ d ∧ d < P
  | 0, _, d, h => by rw [digs] at h; cases h
  | k + 1, x, d, h => by
    rw [digs] at h
    rcases List.mem_cons.mp h with rfl | h
    · exact ⟨Int.emod_nonneg _ (by omega), Int.emod_lt_of_pos _ hP⟩
    · exact digs_lt hP k _ d h
end Mine
namespace Mine
open PySem.Builtin.Int (intBits)
/-- the row with the digits of x from place l on to place r -/
def putD (P : Int) (ns : List Int) (l r : Nat) (x : Int) : List Int := ns.take l ++ (digs P (r - l) x ++ ns.drop r)
theorem putD_len {P x : Int} {ns : List Int} {l r : Nat} (h : l ≤ r) (h2 : r ≤ ns.length) : (putD P ns l r x).length = ns.length := by
  unfold putD
  rw [List.length_append, List.length_append, List.length_take, digs_len, List.length_drop]; omega
theorem putD_one {P x : Int} {ns : List Int} {l : Nat} (h0 : 0 ≤ x) (h1 : x < P) (h : l < ns.length) : ns.set l x = putD P ns l (l + 1) x := by
  unfold putD
  have e : l + 1 - l = 1 := by omega
  rw [e, digs_one h0 h1, List.set_eq_take_append_cons_drop, if_pos h]
  rfl
theorem putD_split {P x : Int} {ns : List Int} {l m r : Nat} (hP : 0 < P) (h1 : l ≤ m) (h2 : m ≤ r) (h3 : r ≤ ns.length) :
    putD P (putD P ns l m (x % P ^ (m - l))) m r (x / P ^ (m - l)) = putD P ns l r x := by
  have e : r - l = (m - l) + (r - m) := by omega
  have hl : (ns.take l ++ digs P (m - l) (x % P ^ (m - l))).length = m := by
    rw [List.length_append, List.length_take, digs_len]; omega
  have e1 : putD P ns l m (x % P ^ (m - l)) = (ns.take l ++ digs P (m - l) (x % P ^ (m - l))) ++ ns.drop m := by
    unfold putD; rw [List.append_assoc]
  have e2 : (putD P ns l m (x % P ^ (m - l))).take m = ns.take l ++ digs P (m - l) (x % P ^ (m - l)) := by
    rw [e1]; exact List.take_left' hl
  have e3 : (putD P ns l m (x % P ^ (m - l))).drop r = ns.drop r := by
    have : r = m + (r - m) := by omega
    rw [e1, this, ← List.drop_drop, List.drop_left' hl, List.drop_drop]
  unfold putD at e2 e3 ⊢
  rw [e2, e3, e, digs_add hP, List.append_assoc, List.append_assoc]
theorem putD_all {P x : Int} {ns : List Int} : putD P ns 0 ns.length x = digs P ns.length x := by
  unfold putD
  rw [List.take_zero, List.nil_append, Nat.sub_zero, List.drop_length, List.append_nil]
def InnerM (prog : Program) (w : World) (K : Frag) (p : Program) (loose : List Str) (mean : ExcName → Option Value) (mg mb : Str → Option Value) (fI lst : Addr) (c : Nat) (pre : List (Addr × Obj)) (n : Int) (len k : Nat) : Prop :=
  ∀ (x l r : Int) (t u v : Tok) (vs : List Value) (ns : List Int) (dp un : Nat) (gd : Option (List Code)) (cn : Str) (cs : Scope) (a : Addr) (ccd : Value) (cl : List (Str × Addr)) (outer : List Env) (A₀ : Around) (base h₀ : Heap) (L : Addr) (m : Str → Option Value) (rest : List (Addr × Obj)) (s : Shared)
    (Q E : Value → Shared → Prop), 0 ≤ x → x < (2 ^ n.toNat) ^ (r.toNat - l.toNat) → 0 ≤ l → l < r → r ≤ ns.length → ns.length = len → r - l ≤ 2 ^ k → IntsAre vs ns → (∀ p ∈ rest, p.1 ≠ lst) →
    Below A₀ base outer h₀ → Fr h₀ L s.heap m → K.In h₀ → News h₀ L s.heap ((lst, listOf vs.toArray c) :: (pre ++ rest)) → Top p loose mean mg mb h₀ → cs.kind = .function → dp + k + 104 < recursionLimit → un + 8 * k + 100 < cLine →
    (∀ vs' h' tk', IntsAre vs' (putD (2 ^ n.toNat) ns l.toNat r.toNat x) → Fr h₀ L h' m → News h₀ L h' ((lst, listOf vs'.toArray c) :: (pre ++ rest)) → Q .none { s with heap := h', toks := tk' }) →
    wpAny (model prog w) (ktrTop dp un gd cn cs L a ccd cl outer) (call (.ref fI) [.int x t, .int l u, .int r v]) Q E s
section
variable {prog : Program} {w : World} {K : Frag} {p : Program} {loose : List Str} {mean : ExcName → Option Value} {mg mb : Str → Option Value} {fI lst : Addr} {c : Nat} {pre : List (Addr × Obj)} {n : Int} {len : Nat}
theorem innerM_all (step : ∀ k, (∀ j, k = j + 1 → InnerM prog w K p loose mean mg mb fI lst c pre n len j) → InnerM prog w K p loose mean mg mb fI lst c pre n len k) : ∀ k, InnerM prog w K p loose mean mg mb fI lst c pre n len k
  | 0 => step 0 fun j e => by omega
  | k + 1 => step (k + 1) fun j e => by
      obtain rfl : k = j := by omega
      exact innerM_all step k
theorem innerM_use {nm ql : Str} {prm : Arguments} {bd : List Stmt} {sc : Scope} {clo : List (Str × Addr)} {doc pm ct : Value} {c2 c3 c4 c5 : Addr} {o2 o3 o4 o5 : Obj} {k : Nat} {x l r : Int} {t u v : Tok} {vs : List Value} {ns : List Int} {dp un : Nat} {gd : Option (List Code)} {cn : Str} {cs : Scope} {a : Addr} {ccd : Value} {cl : List (Str × Addr)} {outer : List Env} {A₀ : Around} {base h₀ : Heap} {L : Addr} {m : Str → Option Value} {news : List (Addr × Obj)} {g : Obj → List (Addr × Obj)} {s : Shared}
    {Q E : Value → Shared → Prop} (N : News h₀ L s.heap news) (U : UpdF lst (listOf vs.toArray c) news g) (m1 : (fI, fnMade nm ql prm bd sc clo doc pm c2 ct) ∈ news) (m2 : (c2, o2) ∈ news) (m3 : (c3, o3) ∈ news) (m4 : (c4, o4) ∈ news) (m5 : (c5, o5) ∈ news)
    (n1 : fI ≠ lst) (n2 : c2 ≠ lst) (n3 : c3 ≠ lst) (n4 : c4 ≠ lst) (n5 : c5 ≠ lst)
    (C : InnerM prog w K p loose mean mg mb fI lst c [(fI, fnMade nm ql prm bd sc clo doc pm c2 ct), (c2, o2), (c3, o3), (c4, o4), (c5, o5)] n len k) (x0 : 0 ≤ x) (x1 : x < (2 ^ n.toNat) ^ (r.toNat - l.toNat)) (l0 : 0 ≤ l) (lr : l < r) (hr : r ≤ ns.length) (hlen : ns.length = len) (hk2 : r - l ≤ 2 ^ k) (hI : IntsAre vs ns)
    (B : Below A₀ base outer h₀) (F : Fr h₀ L s.heap m) (X : K.In h₀) (T : Top p loose mean mg mb h₀) (hk : cs.kind = .function) (hdp : dp + k + 104 < recursionLimit) (hu : un + 8 * k + 100 < cLine)
    (ret : ∀ vs' h' tk', IntsAre vs' (putD (2 ^ n.toNat) ns l.toNat r.toNat x) → Fr h₀ L h' m → News h₀ L h' (g (listOf vs'.toArray c)) → Q .none { s with heap := h', toks := tk' }) :
    wpAny (model prog w) (ktrTop dp un gd cn cs L a ccd cl outer) (call (.ref fI) [.int x t, .int l u, .int r v]) Q E s := by
  obtain ⟨pr, post, rfl, hg, h1, h2⟩ := U.split
  refine C x l r t u v vs ns dp un gd cn cs a ccd cl outer A₀ base h₀ L m (pr ++ post) s Q E x0 x1 l0 lr hr hlen hk2 hI ?_ B F X ?_ T hk hdp hu ?_
  · intro q hq
    rcases List.mem_append.mp hq with hq | hq
    · exact h1 q hq
    · exact h2 q hq
  · intro q hq
    rcases List.mem_cons.mp hq with rfl | hq
    · exact N _ (List.mem_append_right _ (.head _))
    rcases List.mem_append.mp hq with hq | hq
    · simp only [List.mem_cons, List.not_mem_nil, or_false] at hq
      rcases hq with rfl | rfl | rfl | rfl | rfl
      · exact N _ m1
      · exact N _ m2
      · exact N _ m3
      · exact N _ m4
      · exact N _ m5
    rcases List.mem_append.mp hq with hq | hq
    · exact N q (List.mem_append_left _ hq)
    · exact N q (List.mem_append_right _ (.tail _ hq))
  · intro vs' h' tk' hI' F' N'
    refine ret vs' h' tk' hI' F' fun q hq => ?_
    rw [hg] at hq
    rcases List.mem_append.mp hq with hq | hq
    · exact N' _ (.tail _ (List.mem_append_right _ (List.mem_append_left _ hq)))
    rcases List.mem_cons.mp hq with rfl | hq
    · exact N' _ (.head _)
    · exact N' _ (.tail _ (List.mem_append_right _ (List.mem_append_right _ hq)))
end
/-- the halves of a number, as the program takes them -/
theorem sh_pow {n l m sh : Int} (n0 : 0 ≤ n) (l0 : 0 ≤ l) (h1 : l ≤ m) (hs : sh = (m - l) * n) : (2 : Int) ^ sh.toNat = (2 ^ n.toNat) ^ (m.toNat - l.toNat) := by
  rw [← Int.pow_mul]
  congr 1
  have h : ((n.toNat * (m.toNat - l.toNat) : Nat) : Int) = (m - l) * n := by
    rw [Int.natCast_mul, Int.toNat_of_nonneg n0, Int.natCast_sub (by omega), Int.toNat_of_nonneg (by omega), Int.toNat_of_nonneg l0, Int.mul_comm]
  omega
theorem half_facts {n l m r sh x up low : Int} (n0 : 0 ≤ n) (l0 : 0 ≤ l) (h1 : l ≤ m) (h2 : m ≤ r) (hs : sh = (m - l) * n) (x0 : 0 ≤ x) (x1 : x < (2 ^ n.toNat) ^ (r.toNat - l.toNat)) (hu : up = x / 2 ^ sh.toNat) (hl : low = x % 2 ^ sh.toNat) :
    0 ≤ low ∧ low < (2 ^ n.toNat) ^ (m.toNat - l.toNat) ∧ 0 ≤ up ∧ up < (2 ^ n.toNat) ^ (r.toNat - m.toNat) ∧ low = x % (2 ^ n.toNat) ^ (m.toNat - l.toNat) ∧ up = x / (2 ^ n.toNat) ^ (m.toNat - l.toNat) := by
  have e := sh_pow n0 l0 h1 hs
  rw [e] at hu hl
  have hP : (0 : Int) < 2 ^ n.toNat := ppos _
  have hp : 0 < ((2 : Int) ^ n.toNat) ^ (m.toNat - l.toNat) := Int.pow_pos hP
  have e2 : ((2 : Int) ^ n.toNat) ^ (r.toNat - l.toNat) = (2 ^ n.toNat) ^ (r.toNat - m.toNat) * (2 ^ n.toNat) ^ (m.toNat - l.toNat) := by rw [← Int.pow_add]; congr 1; omega
  rw [e2] at x1
  refine ⟨?_, ?_, ?_, ?_, hl, hu⟩
  · rw [hl]; exact Int.emod_nonneg _ (by omega)
  · rw [hl]; exact Int.emod_lt_of_pos _ hp
  · rw [hu]; exact Int.ediv_nonneg x0 (by omega)
  · rw [hu]; exact Int.ediv_lt_of_lt_mul hp x1
theorem putD_halves {n l m r x up low : Int} {ns : List Int} (l0 : 0 ≤ l) (h1 : l ≤ m) (h2 : m ≤ r) (h3 : r ≤ ns.length) (hl : low = x % (2 ^ n.toNat) ^ (m.toNat - l.toNat)) (hu : up = x / (2 ^ n.toNat) ^ (m.toNat - l.toNat)) :
    putD (2 ^ n.toNat) (putD (2 ^ n.toNat) ns l.toNat m.toNat low) m.toNat r.toNat up = putD (2 ^ n.toNat) ns l.toNat r.toNat x := by
  rw [hl, hu]
  exact putD_split (ppos _) (by omega) (by omega) (by omega)
theorem up_bits {n l r x : Int} (x0 : 0 ≤ x) (x1 : x < (2 ^ n.toNat) ^ (r.toNat - l.toNat)) (n0 : 0 ≤ n) (l0 : 0 ≤ l) (lr : l ≤ r) {len : Int} (hr : r ≤ len) (hN : n * len ≤ 10000000) : intBits x ≤ 10000000 := by
  rw [← Int.pow_mul] at x1
  refine Nat.le_trans (bits_of_lt x0 x1) ?_
  have h : ((n.toNat * (r.toNat - l.toNat) : Nat) : Int) = n * (r - l) := by
    rw [Int.natCast_mul, Int.toNat_of_nonneg n0, Int.natCast_sub (by omega), Int.toNat_of_nonneg (by omega), Int.toNat_of_nonneg l0]
  have h2 : n * (r - l) ≤ n * len := Int.mul_le_mul_of_nonneg_left (by omega) n0
  omega
/-- how many digits -/
def ndig (x n : Int) : Int := ((intBits x : Int) + n - 1) / n
theorem ndig_eq {x n z : Int} (h : z = ((intBits x : Int) + n - 1) / n) : z = ndig x n := h
theorem ndig_bounds {x n : Int} (n1 : 1 ≤ n) : 0 ≤ ndig x n ∧ ndig x n ≤ intBits x ∧ (intBits x : Int) ≤ n * ndig x n := by
  unfold ndig
  have h0 : (0 : Int) ≤ (intBits x : Int) := by omega
  generalize (intBits x : Int) = b at *
  have hd := Int.mul_ediv_add_emod (b + n - 1) n
  have hm := Int.emod_nonneg (b + n - 1) (show n ≠ 0 by omega)
  have hm1 := Int.emod_lt_of_pos (b + n - 1) (show 0 < n by omega)
  refine ⟨Int.ediv_nonneg (by omega) (by omega), ?_, by omega⟩
  have : (b + n - 1) / n < b + 1 := by
    refine Int.ediv_lt_of_lt_mul (by omega) ?_
    have : b * 1 ≤ b * n := Int.mul_le_mul_of_nonneg_left n1 h0
    rw [Int.add_mul, Int.one_mul]; omega
  omega
theorem ndig_le {x n z : Int} (n1 : 1 ≤ n) (hz : z = ndig x n) : n * z ≤ intBits x + n - 1 := by
  subst hz
  unfold ndig
  have hd := Int.mul_ediv_add_emod ((intBits x : Int) + n - 1) n
  have hm := Int.emod_nonneg ((intBits x : Int) + n - 1) (show n ≠ 0 by omega)
  omega
theorem sh_le {n l m len sh : Int} (n0 : 0 ≤ n) (l0 : 0 ≤ l) (h1 : l ≤ m) (h2 : m ≤ len) (hN : n * len ≤ 10000000) (hs : sh = (m - l) * n) : 0 ≤ sh ∧ sh ≤ 10000000 := by
  have h4 : (m - l) * n ≤ len * n := mul_le_of n0 (by omega)
  rw [Int.mul_comm len] at h4
  have := Int.mul_nonneg (show 0 ≤ m - l by omega) n0
  omega
theorem putD_base {P x : Int} {ns : List Int} {l r : Int} {vs : List Value} (x0 : 0 ≤ x) (x1 : x < P ^ (r.toNat - l.toNat)) (l0 : 0 ≤ l) (e : l + 1 = r) (h : r ≤ ns.length) (hi : IntsAre vs (ns.set l.toNat x)) : IntsAre vs (putD P ns l.toNat r.toNat x) := by
  have e1 : r.toNat = l.toNat + 1 := by omega
  have e2 : r.toNat - l.toNat = 1 := by omega
  rw [e2, Int.pow_succ, Int.pow_zero, Int.one_mul] at x1
  rw [e1, ← putD_one x0 x1 (by omega)]
  exact hi
theorem ndig_lt {x n : Int} (x0 : 0 ≤ x) (n1 : 1 ≤ n) : x < (2 ^ n.toNat) ^ (ndig x n).toNat := by
  have h := ndig_bounds (x := x) n1
  refine Int.lt_of_lt_of_le (lt_of_bits (Nat.le_refl (intBits x))) ?_
  rw [← Int.pow_mul]
  refine pmono ?_
  have e : ((n.toNat * (ndig x n).toNat : Nat) : Int) = n * ndig x n := by rw [Int.natCast_mul, Int.toNat_of_nonneg (by omega), Int.toNat_of_nonneg h.1]
  omega
theorem ndig_lt' {x n z : Int} (x0 : 0 ≤ x) (n1 : 1 ≤ n) (hz : z = ndig x n) : x < (2 ^ n.toNat) ^ (((z.toNat : Nat) : Int).toNat - (0 : Int).toNat) := by
  subst hz
  rw [Int.toNat_natCast]
  exact ndig_lt x0 n1
theorem ndig_pos {x n z : Int} (x0 : 0 ≤ x) (hx : x ≠ 0) (n1 : 1 ≤ n) (hz : z = ndig x n) : 1 ≤ z := by
  subst hz
  have h := ndig_bounds (x := x) n1
  rcases Int.lt_or_le 0 (ndig x n) with h1 | h1
  · omega
  · have e : ndig x n = 0 := by omega
    have hb := h.2.2
    rw [e, Int.mul_zero] at hb
    have h2 := lt_of_bits (x := x) (k := 0) (by omega)
    simp at h2
    omega
theorem put_all {P x z : Int} {vs : List Value} (h : IntsAre vs (putD P (List.replicate z.toNat 0) (0 : Int).toNat ((z.toNat : Nat) : Int).toNat x)) : IntsAre vs (digs P z.toNat x) := by
  have e := putD_all (P := P) (x := x) (ns := List.replicate z.toNat 0)
  rw [List.length_replicate] at e
  rw [← e]
  exact h
theorem put_none {P x n z : Int} {vs : List Value} (hx : x = 0) (hz : z = ndig x n) (n1 : 1 ≤ n) (h : IntsAre vs (List.replicate z.toNat 0)) : IntsAre vs (digs P (ndig x n).toNat x) := by
  have h1 := ndig_bounds (x := x) n1
  have e : intBits x = 0 := by rw [hx]; rfl
  have e2 : ndig x n = 0 := by omega
  rw [hz, e2] at h
  rw [e2]
  exact h
section
variable {prog : Program} {w : World} {A : Around} {E : Value → Shared → Prop} {s : Shared} {h₀ : Heap} {L : Addr} {m : Str → Option Value} {news : List (Addr × Obj)} {l : Addr} {x : Int} {u t0 : Tok} {c : Nat} {Q : Value → Shared → Prop}
theorem rep0 (Fm : Fr h₀ L s.heap m) (N : News h₀ L s.heap news) (hm : (l, listOf #[.int 0 t0] c) ∈ news) (h0 : 0 ≤ x) (h1 : x ≤ 1048576)
    (h : ∀ D vs' h', Fr h₀ L h' m → News h₀ L h' ((D, listOf (List.toArray vs') 0) :: news) → (∀ p ∈ news, p.1 < D) → IntsAre vs' (List.replicate x.toNat 0) → Q (.ref D) { s with heap := h' }) :
    wpAny (model prog w) A (binaryOp .Mult (.ref l) (.int x u)) Q E s := by
  refine KM.mul (vs := [.int 0 t0]) (ns := [0]) Fm N ⟨_, (N _ hm).1, rfl, c, rfl⟩ (.cons 0 t0 .nil) (by omega) (by omega) ?_ ?_
  · rw [List.length_singleton, Nat.one_mul]; omega
  · intro D h' F' N' hl hi _ _ _ _ _
    rw [krep_flat] at hi
    exact h D _ h' F' N' hl hi
end
end Mine
namespace Mine
open PySem.Builtin.Int (intBits)
local macro_rules | `(tactic| k_all) => `(tactic| first | assumption | exact ne_rest (by assumption) (by omega))
local macro_rules | `(tactic| bits_by_make) => `(tactic| with_reducible assumption)
local macro_rules | `(tactic| walk_at "call ref") => `(tactic| k_extra "mycall")
local macro_rules | `(tactic| walk_at "eval Name") => `(tactic| (k_here; k_dflt (refine' nameX_F ?N ?c ?m ?d ?_ ?a ?b; (case a => rfl); (case b => rfl); (case N => k_asm); (case c => rfl); (case m => k_mem); (case d => k_asm); k_whole)))
section
variable {prog : Program} {w : World} {A : Around} {E : Value → Shared → Prop} {s : Shared} {a b : Int} {t u : Tok} {Q : Value → Shared → Prop}
theorem shrD_p {x e : Int} (h0 : 0 ≤ e) (h : ∀ z, z = x / 2 ^ e.toNat → Q (.int z s.toks) { s with toks := s.toks + 1 }) : wpAny (model prog w) A (binaryOp .RShift (.int x t) (.int e u)) Q E s :=
  rshift_int h0 (h _ (fdivP x e.toNat))
theorem xorD_p {x y z : Int} {k : Nat} (hy : y = z * 2 ^ k) (hz : z = x / 2 ^ k) (h : ∀ r, r = x % 2 ^ k → Q (.int r s.toks) { s with toks := s.toks + 1 }) : wpAny (model prog w) A (binaryOp .BitXor (.int x t) (.int y u)) Q E s :=
  xor_int (h _ (by rw [hy, hz, xor_low]))
end
local macro_rules | `(tactic| walk_at "binaryOp RShift int int") => `(tactic| k_extra "shr")
local macro_rules | `(tactic| walk_at "binaryOp Mult int int") => `(tactic| k_extra "mul")
local macro_rules | `(tactic| walk_at "binaryOp LShift int int") => `(tactic| k_extra "shl")
local macro_rules | `(tactic| walk_at "binaryOp BitXor int int") => `(tactic| k_extra "xor")
local macro_rules | `(tactic| walk_at "binaryOp Mult ref int") => `(tactic| k_extra "rep")
local macro_rules | `(tactic| walk_at "call builtin:len") => `(tactic| k_extra "len")
local macro_rules | `(tactic| walk_at "binaryOp FloorDiv int int") => `(tactic| k_extra "floordiv")
set_option maxRecDepth 100000 in
set_option maxHeartbeats 8000000 in
theorem i2d_c (w : World) (mean : ExcName → Option Value) (mg mb : Str → Option Value) {x n : Int} {t u : Tok} {Xo Yo : Obj} {Co : Addr} (x0 : 0 ≤ x) (n1 : 1 ≤ n) (n2 : n ≤ 1000000) (hb : intBits x ≤ 1000000)
    {dp un : Nat} {gd : Option (List Code)} {cn : Str} {cs : Scope} {a : Addr} {ccd : Value} {cl : List (Str × Addr)} {outer : List Env} {A₀ : Around} {base h₀ : Heap} {L : Addr} {m : Str → Option Value} {rest : List (Addr × Obj)} {s : Shared}
    {Q E : Value → Shared → Prop} (B : Below A₀ base outer h₀) (F : Fr h₀ L s.heap m) (X : (hd.heap_39 w.params).In h₀) (N : News h₀ L s.heap ((30, Xo) :: (Co, Yo) :: rest)) (T : Top prog0 (looseW hd.view_39 [] ++ List.map (fun x => x.name) (recsOf hd.view_39) ++ List.map (fun x => x.fst) (litsOf hd.view_39) ++ List.map (fun x => x.name) (clssOf hd.view_39 (looseW hd.view_39 []))) mean mg mb h₀) (hC : CodeHd h₀ 34 30) (hr : ∀ p ∈ rest, p.1 ≠ 30) (hTab : TabS 30 32 4 (Str.ofString "_int2digits.<locals>.inner") Xo Co Yo) (hk : cs.kind = .function) (hdp : dp + 22 + 104 < recursionLimit) (hu : un + 8 * 22 + 100 < cLine)
    (hret : ∀ X' C' Y' D vs' h' tk', TabF 30 32 4 (Str.ofString "_int2digits.<locals>.inner") X' C' Y' → IntsAre vs' (digs (2 ^ n.toNat) (ndig x n).toNat x) → Fr h₀ L h' m → News h₀ L h' ((30, X') :: (C', Y') :: (D, listOf (List.toArray vs') 0) :: rest) → AllLt D rest → @LT.lt Nat _ 30 D → Q (.ref D) { s with heap := h', toks := tk' }) :
    wpAny (model PySem.Challenge.rw_dn0134_10.row.prog w) (ktrTop dp un gd cn cs L a ccd cl outer) (call (.ref 35) [.int x t, .int n u]) Q E s := by
  (have hh : PySem.Challenge.rw_dn0134_10 = PySem.Challenge.rw_dn0134_10 ∧ hd.heap_39 = hd.heap_39 := by (k_fill; exact ⟨rfl, rfl⟩))
  clear hh
  w_top off
  k_with_none
  k_with "shr" => (first
    | ((with_reducible refine half_p ?_); intro mid hmid)
    | ((with_reducible refine' shrD_p ?za ?_); (case za => exact hsl.1); intro up hup))
  k_with "mul" => ((with_reducible refine' mulS_p ?za ?zb ?zc ?ze ?_); (case za => omega); (case zb => omega); (case zc => omega); (case ze => omega); intro sh hsh; have hsl := sh_le (n := n) (l := il) (m := mid) (len := zd) (by omega) il0 (by omega) (by omega) hnz hsh)
  k_with "shl" => ((k_dflt (refine' shlD_p hsl.1 hsl.2 ?za ?_)); (case za => (rw [hup, ← fdivP]; exact bits_fdiv (up_bits ix0 ix1 (by omega) il0 (by omega) (len := zd) (by omega) hnz))); intro zl hzl)
  k_with "xor" => ((k_dflt (refine' xorD_p hzl hup ?_)); intro low hlow; have hhf := half_facts (by omega) il0 (by omega) (by omega) hsh ix0 ix1 hup hlow)
  k_with "len" => (k_dflt (refine' kst_len (k := zd.toNat) ?zN ?zm ?ze ?zf ?_; (case zN => k_asm); (case zm => k_mem); (case ze => (rw [hI.length, List.length_replicate])); (case zf => omega)))
  k_with "mycall" => (first
    | (obtain ⟨j, hj, hj1, hj2⟩ := half_le (l := il) (r := ir) ik (by omega)
       k_dflt (refine' innerM_use (lst := lst) (c := 0) (n := n) (len := zd.toNat) (k := j) ?zN ?zU ?zm1 ?zm2 ?zm3 ?zm4 ?zm5 ?zn1 ?zn2 ?zn3 ?zn4 ?zn5 (hIH j hj) ?x0 ?x1 ?l0 ?lr ?hr2 ?hlen ?hk2 ?hI ?zB ?zF ?zX ?zT ?kK ?zd ?zu ?_)
       (case zN => k_asm)
       (case zU => k_dflt k_updF)
       (case zm1 => k_dflt k_mem)
       (case zm2 => k_dflt k_mem)
       (case zm3 => k_dflt k_mem)
       (case zm4 => k_dflt k_mem)
       (case zm5 => k_dflt k_mem)
       (case zn1 => k_ne)
       (case zn2 => k_ne)
       (case zn3 => k_ne)
       (case zn4 => k_ne)
       (case zn5 => k_ne)
       (case hI => assumption)
       (case x0 => (first | exact hhf.1 | exact hhf.2.2.1))
       (case x1 => (first | exact hhf.2.1 | exact hhf.2.2.2.1))
       (case l0 => omega)
       (case lr => omega)
       (case hr2 => (first | omega | (rw [putD_len (by omega) (by omega)]; omega)))
       (case hlen => (first | exact ilen | (rw [putD_len (by omega) (by omega)]; exact ilen)))
       (case hk2 => omega)
       (case zB => k_asm)
       (case zF => k_asm)
       (case zX => k_asm)
       (case zT => k_asm)
       (case kK => exact rfl)
       (case zd => ktr_room)
       (case zu => ktr_units)
       intro vs2 h' tk' hI2 F' N'
       (try dsimp only)
       (try k_fold))
    | (k_dflt (refine' innerM_use (lst := lst) (c := 0) (c3 := L' + 1 + 1 + 1) (c4 := L' + 1 + 1) (c5 := L' + 1) (n := n) (len := zd.toNat) (k := 20) (ns := List.replicate zd.toNat 0) ?zN ?zU ?zm1 ?zm2 ?zm3 ?zm4 ?zm5 ?zn1 ?zn2 ?zn3 ?zn4 ?zn5 (innerM_all ?step 20) x0 ?x1 ?l0 ?lr ?hr2 ?hlen ?hk2 hI ?zB ?zF ?zX ?zT ?kK ?zd ?zu ?_)
       (case zN => k_asm)
       (case zU => k_dflt k_updF)
       (case zm1 => k_dflt k_mem)
       (case zm2 => k_dflt k_mem)
       (case zm3 => k_dflt k_mem)
       (case zm4 => k_dflt k_mem)
       (case zm5 => k_dflt k_mem)
       (case zn1 => k_ne)
       (case zn2 => k_ne)
       (case zn3 => k_ne)
       (case zn4 => k_ne)
       (case zn5 => k_ne)
       (case x1 => (exact ndig_lt' x0 n1 hzn))
       (case l0 => decide)
       (case lr => (have hp9 := ndig_pos x0 (by assumption) n1 hzn; omega))
       (case hr2 => (rw [List.length_replicate]; omega))
       (case hlen => (exact List.length_replicate))
       (case hk2 => omega)
       (case zB => k_asm)
       (case zF => k_asm)
       (case zX => k_asm)
       (case zT => k_asm)
       (case kK => exact rfl)
       (case zd => ktr_room)
       (case zu => ktr_units)
       (case step => (
         intro k hIH
         unfold InnerM
         intro ix il ir t1 t2 t3 ivs ins dp2 un2 gd2 cn2 cs2 a2 ccd2 cl2 outer2 A2 base2 h2 L2 m2 rest2 s2 Q2 E2 ix0 ix1 il0 ilr irn ilen ik hIi hrst IB IF IX IN IT Ik Id Iu Iret
         simp only [List.cons_append, List.nil_append] at IN Iret
         refine wpAny_call ?_
         k_dflt (refine' code_nest ?k1 ?k2 ?k3 ?k4 ?k5 ?kA ?kF ?kK ?k6 ?k7 ?k8 ?k9 ?kB ?_ ?c2 ?c3 ?c4 ?c5; (case kA => exact rfl); (case kF => exact rfl); (case kK => assumption); (case k1 => k_asm); (case k2 => k_asm); (case k3 => k_asm); (case k4 => k_asm); (case k5 => k_asm); (case k6 => k_mem); (case k7 => exact codeRec_news (by k_asm) (by k_mem) (by assumption) (by assumption)); (case k8 => ktr_room); (case k9 => exact BindsTo.of_eq rfl); (case c5 => decide); (case kB => exact locs rfl); (case c2 => exact rfl); (case c3 => exact rfl); (case c4 => exact rfl); k_whole; intro g2' L2' h2' FG2' F2' N2' B2' X2' T2'; (try dsimp only); (try k_fold))
         k_dflt (k_steps)
         all_goals (first
           | exact Iret _ _ _ (putD_base ix0 ix1 il0 (by assumption) irn (by assumption)) (by k_asm) (by k_asm)
           | (rw [putD_halves il0 (by omega) (by omega) irn hhf.2.2.2.2.1 hhf.2.2.2.2.2] at hI2; exact Iret _ _ _ hI2 (by k_asm) (by k_asm)))))
       intro vs2 h' tk' hI2 F' N'
       (try dsimp only)
       (try k_fold)))
  k_with "rep" => (k_dflt (refine' rep0 ?zF ?zN ?zm ?za ?zb ?_; (case zF => k_asm); (case zN => k_asm); (case zm => k_mem); (case za => omega); (case zb => omega)); intro lst vsA h' F' N' lA hI; (try k_lt lA))
  k_with "floordiv" => (
    (with_reducible refine' fdv_p (m := 100) ?ka ?kb ?kc ?_)
    (case ka => omega)
    (case kb => (exact bits_of_lt (by omega) (by (have e100 : (2 : Int) ^ 100 = 1267650600228229401496703205376 := by decide); omega)))
    (case kc => (k_dflt (exact PySem.PylongRoom.of (room_of (by assumption) (by assumption)) (by (simp only [Builtin.pylongFrames]; ktr_room)))))
    intro zd azd hzd bzd; have hzn := ndig_eq hzd; have hnd := ndig_bounds (x := x) n1; rw [← hzn] at hnd; have hnz : n * zd ≤ 10000000 := (by have := ndig_le n1 hzn; omega))
  rcases hTab with ⟨rfl, rfl, rfl⟩ | ⟨rfl, hCne, vsC, tC, hY1, hY2⟩
  · replace N := news_sub N (sub0 (sub1 subr))
    refine wpAny_call ?_
    k_dflt (refine' code_defC ?k1 ?k2 ?k3 ?k4 ?k5 ?kA ?kF ?kK ?k6 ?k7 ?k8 ?k9 ?kB ?kD ?_ ?c2 ?c3 ?c4; (case kA => exact rfl); (case kF => exact rfl); (case kK => assumption); (case k1 => k_asm); (case k2 => k_asm); (case k3 => k_asm); (case k4 => k_asm); (case k5 => k_asm); (case k6 => k_is); (case k7 => k_is); (case k8 => ktr_room); (case k9 => exact BindsTo.of_eq rfl); (case kB => exact rfl); (case kD => decide); (case c2 => exact rfl); (case c3 => exact rfl); (case c4 => exact rfl); k_whole; intro g' L' h' tk' cells' FG' F' N' Y' B' X' T' l1)
    (try k_lt l1); (first | obtain ⟨l1a, l1e, l1c⟩ := l1 | obtain ⟨l1a, l1c⟩ := l1); have hC' := hC.keeps FG'.keep; k_cells Y'; (try simp only [List.cons_append, List.nil_append] at N'); (try dsimp only); (try k_fold)
    k_steps
    all_goals (
      (obtain ⟨hf1, hf2⟩ := tab_fin (P := 30) (line := 32) (col := 4) (ql := Str.ofString "_int2digits.<locals>.inner") (h₀ := h₀) (L := L) (lst := lst) (rest := rest) (by k_asm) (by k_mem) rfl (by k_mem) (by first | assumption | k_ne) (by assumption) (by assumption) (by k_mem) (by (repeat' (first | exact subr | (refine sub1 ?_)))))
      have hAl : AllLt lst rest := (by first | exact lA.2.2.2.2.2 | exact lA.2.2.2.2.2.2)
      (refine hret _ _ _ _ _ _ _ hf1 ?_ (by k_asm) hf2 hAl (by omega))
      first
        | (rw [← hzn]; exact put_all hI2)
        | (exact put_none (by assumption) hzn n1 hI))
  ·
    refine wpAny_call ?_
    k_dflt (refine' code_defC ?k1 ?k2 ?k3 ?k4 ?k5 ?kA ?kF ?kK ?k6 ?k7 ?k8 ?k9 ?kB ?kD ?_ ?c2 ?c3 ?c4; (case kA => exact rfl); (case kF => exact rfl); (case kK => assumption); (case k1 => k_asm); (case k2 => k_asm); (case k3 => k_asm); (case k4 => k_asm); (case k5 => k_asm); (case k6 => k_is); (case k7 => k_is); (case k8 => ktr_room); (case k9 => exact BindsTo.of_eq rfl); (case kB => exact rfl); (case kD => decide); (case c2 => exact rfl); (case c3 => exact rfl); (case c4 => exact rfl); k_whole; intro g' L' h' tk' cells' FG' F' N' Y' B' X' T' l1)
    (try k_lt l1); (first | obtain ⟨l1a, l1e, l1c⟩ := l1 | obtain ⟨l1a, l1c⟩ := l1); have hC' := hC.keeps FG'.keep; k_cells Y'; (try simp only [List.cons_append, List.nil_append] at N'); (try dsimp only); (try k_fold)
    k_steps
    all_goals (
      (obtain ⟨hf1, hf2⟩ := tab_fin (P := 30) (line := 32) (col := 4) (ql := Str.ofString "_int2digits.<locals>.inner") (h₀ := h₀) (L := L) (lst := lst) (rest := rest) (by k_asm) (by k_mem) rfl (by k_mem) (by first | assumption | k_ne) (by assumption) (by assumption) (by k_mem) (by (repeat' (first | exact subr | (refine sub1 ?_)))))
      have hAl : AllLt lst rest := (by first | exact lA.2.2.2.2.2 | exact lA.2.2.2.2.2.2)
      (refine hret _ _ _ _ _ _ _ hf1 ?_ (by k_asm) hf2 hAl (by omega))
      first
        | (rw [← hzn]; exact put_all hI2)
        | (exact put_none (by assumption) hzn n1 hI))
end Mine
namespace Mine
open PySem.Builtin.Int (intBits)
theorem bits_range {x : Int} (h : 0 < x) : 1 ≤ intBits x ∧ 2 ^ (intBits x - 1) ≤ x ∧ x < 2 ^ intBits x := by
  have h1 := lt_of_bits (Nat.le_refl (intBits x))
  have h0 : 1 ≤ intBits x := by
    rcases Nat.eq_zero_or_pos (intBits x) with e | e
    · rw [e] at h1; simp at h1; omega
    · exact e
  refine ⟨h0, ?_, h1⟩
  rcases Int.lt_or_le x (2 ^ (intBits x - 1)) with h2 | h2
  · have := bits_of_lt (by omega) h2; omega
  · exact h2
/-- a row from the top down -/
def valR (P : Int) (xs : List Int) : Int := xs.foldl (fun v d => v * P + d) 0
theorem valR_snoc (P : Int) (xs : List Int) (d : Int) : valR P (xs ++ [d]) = valR P xs * P + d := by
  unfold valR
  rw [List.foldl_append]
  rfl
theorem evalD_rev (P : Int) (xs : List Int) : evalD P xs.reverse = valR P xs := by
  have key : ∀ (ys : List Int), valR P ys.reverse = evalD P ys := by
    intro ys
    induction ys with
    | nil => rfl
    | cons d r ih =>
      rw [List.reverse_cons, valR_snoc, ih, evalD]
      rw [Int.mul_comm]; omega
  have := key xs.reverse
  rw [List.reverse_reverse] at this
  exact this.symm
structure DmInv (P b : Int) (pre qs : List Int) (r : Int) : Prop where
  e : valR P pre = valR P qs * b + r
  r0 : 0 ≤ r
  r1 : r < b
  q : ∀ x ∈ qs, 0 ≤ x ∧ x < P
  len : qs.length = pre.length
theorem DmInv.start {P b : Int} (hb : 0 < b) : DmInv P b [] [] 0 := ⟨by simp [valR], by omega, hb, (fun _ hx => nomatch hx), rfl⟩
theorem DmInv.turn {P b r d q r' : Int} {pre qs : List Int} (H : DmInv P b pre qs r) (e : r * P + d = q * b + r') (q0 : 0 ≤ q) (q1 : q < P) (r0 : 0 ≤ r') (r1 : r' < b) : DmInv P b (pre ++ [d]) (qs ++ [q]) r' := by
  refine ⟨?_, r0, r1, ?_, by rw [List.length_append, List.length_append, H.len]; rfl⟩
  · rw [valR_snoc, valR_snoc, H.e]
    grind
  · intro x hx
    rcases List.mem_append.mp hx with hx | hx
    · exact H.q x hx
    · rw [List.mem_singleton.mp hx]; exact ⟨q0, q1⟩
theorem DmInv.fin {P b r a : Int} {ds qs : List Int} (H : DmInv P b ds.reverse qs r) (ha : evalD P ds = a) : evalD P qs.reverse = a / b ∧ r = a % b := by
  have e := H.e
  rw [← evalD_rev, List.reverse_reverse, ha, ← evalD_rev] at e
  have h0 := H.r0; have h1 := H.r1
  have hu := kbt_unique (a := a) (b := b) (q := evalD P qs.reverse) (r := r) (by omega) (by rw [Int.mul_comm]; omega) h0 h1
  exact ⟨hu.1.symm, hu.2.symm⟩
/-- the one table's code object is not the other table -/
theorem TabS.apart {P P2 : Addr} {l1 c1 l2 c2 : Nat} {q1 q2 : Str} {X Y X2 Y2 : Obj} {C C2 : Addr} {h₀ h : Heap} {L : Addr} {news : List (Addr × Obj)} (N : News h₀ L h news) (H : TabS P l1 c1 q1 X C Y) (H2 : TabS P2 l2 c2 q2 X2 C2 Y2) (hC : (C, Y) ∈ news) (hP : (P2, X2) ∈ news) (hne : P ≠ P2) : C ≠ P2 := by
  rcases H with ⟨_, h1, _⟩ | ⟨_, _, vs, t, e1, e2⟩
  · rw [h1]; exact hne
  · intro e
    have g1 := (N _ hC).1
    have g2 := (N _ hP).1
    rw [e, g2] at g1
    have g3 : X2 = Y := Option.some.inj g1
    rcases H2 with ⟨h2, _⟩ | ⟨h2, _⟩
    · rw [← g3, h2] at e1
      cases e1
      cases e2
    · rw [← g3, h2] at e1
      cases e1
      cases e2
end Mine
namespace Mine
open PySem.Builtin.Int (intBits)
theorem dm_len {x n : Int} {P : Int} {pre post : List Int} {d : Int} (n1 : 1 ≤ n) (h : (digs P (ndig x n).toNat x).reverse = pre ++ d :: post) : pre.length ≤ intBits x := by
  have h1 := congrArg List.length h
  have h2 := ndig_bounds (x := x) n1
  rw [List.length_reverse, digs_len, List.length_append, List.length_cons] at h1
  omega
theorem dm_all {x n P b r : Int} {qs : List Int} (n1 : 1 ≤ n) (H : DmInv P b (digs P (ndig x n).toNat x).reverse qs r) : (qs.length : Int) = ndig x n ∧ ((200000 : Nat) : Int) + n * qs.reverse.length + qs.reverse.length ≤ 200000 + intBits x + n + intBits x ∧ qs.reverse.length ≤ intBits x := by
  have h1 := H.len
  have h2 := ndig_bounds (x := x) n1
  have h3 := ndig_le (x := x) n1 rfl
  rw [List.length_reverse, digs_len] at h1
  have e : (qs.length : Int) = ndig x n := by omega
  rw [List.length_reverse, e]
  exact ⟨rfl, by omega, by omega⟩
theorem dm_end {x b r : Int} {qs : List Int} (x0 : 0 ≤ x) (hb : 1 ≤ b) (H : DmInv (2 ^ intBits b) b (digs (2 ^ intBits b) (ndig x (intBits b)).toNat x).reverse qs r) : evalD (2 ^ intBits b) qs.reverse = x / b ∧ r = x % b := by
  have hbp := bits_range (x := b) (by omega)
  exact H.fin (digs_eval (ppos _) _ _ x0 (ndig_lt (n := (intBits b : Int)) x0 (by omega)))
/-- a table's code object is no list -/
theorem TabS.neList {P : Addr} {l1 c1 : Nat} {q1 : Str} {X Y : Obj} {C lst : Addr} {arr : Array Value} {cc : Nat} {h₀ h : Heap} {L : Addr} {news : List (Addr × Obj)} (N : News h₀ L h news) (H : TabS P l1 c1 q1 X C Y) (hC : (C, Y) ∈ news) (hP : (lst, listOf arr cc) ∈ news) (hne : @LT.lt Nat _ P lst) : C ≠ lst := by
  rcases H with ⟨_, h1, _⟩ | ⟨_, _, vs, t, e1, e2⟩
  · rw [h1]; exact Nat.ne_of_lt hne
  · intro e
    have g1 := (N _ hC).1
    have g2 := (N _ hP).1
    rw [e, g2] at g1
    have g3 : listOf arr cc = Y := Option.some.inj g1
    rw [← g3] at e1
    cases e1
theorem dm_pre {b r d : Int} {k : Nat} (hb : 2 ^ (k - 1) ≤ b) (hb2 : b < 2 ^ k) (hk : 1 ≤ k) (r0 : 0 ≤ r) (r1 : r < b) (d0 : 0 ≤ d) (d1 : d < 2 ^ k) : ∃ q r', Pre2 (r * 2 ^ k + d) b (k : Int) q r' := by
  have hp := ppos (k - 1)
  have hP := ppos k
  have hb0 : 0 < b := by omega
  have hx0 : 0 ≤ r * 2 ^ k := Int.mul_nonneg r0 (by omega)
  refine ⟨(r * 2 ^ k + d) / b, (r * 2 ^ k + d) % b, by omega, ?_, Int.ediv_nonneg (by omega) (by omega), ?_, Int.emod_nonneg _ (by omega), Int.emod_lt_of_pos _ hb0, hb, hb2⟩
  · exact (Int.ediv_mul_add_emod _ _).symm
  · refine Int.ediv_lt_of_lt_mul hb0 ?_
    have h1 : r * 2 ^ k ≤ (b - 1) * 2 ^ k := mul_le_of (by omega) (by omega)
    have h2 : (b - 1) * 2 ^ k = 2 ^ k * b - 2 ^ k := by rw [Int.sub_mul, Int.one_mul, Int.mul_comm]
    show r * 2 ^ k + d < 2 ^ k * b
    omega
section
variable {prog : Program} {w : World} {A : Around} {E : Value → Shared → Prop} {s : Shared} {h₀ : Heap} {L : Addr} {m : Str → Option Value} {news : List (Addr × Obj)} {g : Obj → List (Addr × Obj)} {D : Addr} {vs : List Value} {n : Nat} {x : Value} {Q : Value → Shared → Prop}
theorem updF_upd {D : Addr} {o o' : Obj} {news : List (Addr × Obj)} {g : Obj → List (Addr × Obj)} (U : UpdF D o news g) : Upd D o o' news (g o') := by
  induction U with
  | head h => exact .head h
  | tail h _ ih => exact .tail h ih
theorem append_L (F : Fr h₀ L s.heap m) (N : News h₀ L s.heap news) (U : UpdF D (listOf vs.toArray n) news g) (hz : vs.length ≤ 1000000)
    (h : ∀ h', Fr h₀ L h' m → News h₀ L h' (g (listOf (vs ++ [x]).toArray (n + 1))) → Q .none { s with heap := h' }) : wpAny (model prog w) A (call (.builtin "list.append") [.ref D, x]) Q E s := by
  refine append_K F N (updF_upd U) (fun h' F' N' => h h' F' ?_) ?_
  · rw [List.push_toArray] at N'
    exact N'
  · rw [List.size_toArray]; exact Nat.le_trans hz (by decide)
theorem reverse_L (F : Fr h₀ L s.heap m) (N : News h₀ L s.heap news) (U : UpdF D (listOf vs.toArray n) news g) (hz : vs.length ≤ 1000000)
    (h : ∀ h', Fr h₀ L h' m → News h₀ L h' (g (listOf vs.reverse.toArray n)) → Q .none { s with heap := h' }) : wpAny (model prog w) A (call (.builtin "list.reverse") [.ref D]) Q E s :=
  kl_reverse F N rfl (updF_upd U) (Nat.le_trans hz (by decide)) h
end
local macro_rules | `(tactic| k_all) => `(tactic| first | assumption | exact ne_rest (by assumption) (by omega))
local macro_rules | `(tactic| bits_by_make) => `(tactic| with_reducible assumption)
local macro_rules | `(tactic| walk_at "pyIter ref") => `(tactic| k_extra "rev")
local macro_rules | `(tactic| walk_at "call ref") => `(tactic| k_extra "mycall")
local macro_rules | `(tactic| walk_at "binaryOp LShift int int") => `(tactic| k_extra "shl")
local macro_rules | `(tactic| kc_close) => `(tactic| k_extra "good")
local macro_rules | `(tactic| walk_at "call builtin:list.append") => `(tactic| k_extra "append")
local macro_rules | `(tactic| walk_at "call builtin:list.reverse") => `(tactic| k_extra "reverse")
set_option maxRecDepth 100000 in
set_option maxHeartbeats 8000000 in
theorem dm_c (w : World) (mean : ExcName → Option Value) (mg mb : Str → Option Value) {x b : Int} {t u : Tok} {XI YI XD YD : Obj} {Ci Cd : Addr} (x0 : 0 ≤ x) (b1 : 1 ≤ b) (hbx : intBits x ≤ 900000) (hbb : intBits b ≤ 200000)
    {dp un : Nat} {gd : Option (List Code)} {cn : Str} {cs : Scope} {a : Addr} {ccd : Value} {cl : List (Str × Addr)} {outer : List Env} {A₀ : Around} {base h₀ : Heap} {L : Addr} {m : Str → Option Value} {rest : List (Addr × Obj)} {s : Shared}
    {Q E : Value → Shared → Prop} (B : Below A₀ base outer h₀) (F : Fr h₀ L s.heap m) (X : (hd.heap_39 w.params).In h₀) (N : News h₀ L s.heap ((30, XI) :: (Ci, YI) :: (37, XD) :: (Cd, YD) :: rest)) (T : Top prog0 (looseW hd.view_39 [] ++ List.map (fun x => x.name) (recsOf hd.view_39) ++ List.map (fun x => x.fst) (litsOf hd.view_39) ++ List.map (fun x => x.name) (clssOf hd.view_39 (looseW hd.view_39 []))) mean mg mb h₀) (hCI : CodeHd h₀ 34 30) (hCD : CodeHd h₀ 41 37)
    (hrI : ∀ p ∈ rest, p.1 ≠ 30) (hrD : ∀ p ∈ rest, p.1 ≠ 37) (hTI : TabS 30 32 4 (Str.ofString "_int2digits.<locals>.inner") XI Ci YI) (hTD : TabS 37 47 4 (Str.ofString "_digits2int.<locals>.inner") XD Cd YD) (hk : cs.kind = .function) (hdp : dp + 44 + 104 < recursionLimit) (hu : un + 8 * 44 + 100 < cLine)
    (hret : ∀ XI' Ci' YI' XD' Cd' YD' D t1 t2 c h' tk', TabF 30 32 4 (Str.ofString "_int2digits.<locals>.inner") XI' Ci' YI' → TabF 37 47 4 (Str.ofString "_digits2int.<locals>.inner") XD' Cd' YD' → Fr h₀ L h' m → News h₀ L h' ((D, pairO (x / b) (x % b) t1 t2 c) :: (30, XI') :: (Ci', YI') :: (37, XD') :: (Cd', YD') :: rest) → AllLt D ((30, XI') :: (Ci', YI') :: (37, XD') :: (Cd', YD') :: rest) → Q (.ref D) { s with heap := h', toks := tk' }) :
    wpAny (model PySem.Challenge.rw_dn0134_10.row.prog w) (ktrTop dp un gd cn cs L a ccd cl outer) (call (.ref 49) [.int x t, .int b u]) Q E s := by
  (have hh : PySem.Challenge.rw_dn0134_10 = PySem.Challenge.rw_dn0134_10 ∧ hd.heap_39 = hd.heap_39 := by (k_fill; exact ⟨rfl, rfl⟩))
  clear hh
  w_top off
  k_with_none
  have hCdI : Cd ≠ 30 := hTD.apart N hTI (.tail _ (.tail _ (.tail _ (.head _)))) (.head _) (by decide)
  have hCiD : Ci ≠ 37 := hTI.apart N hTD (.tail _ (.head _)) (.tail _ (.tail _ (.head _))) (by decide)
  have hbp := bits_range (x := b) (by omega)
  k_with "mycall" => (first
    | ((with_reducible show wpAny _ _ (call (Value.ref 35) _ _) _ _ _)
       k_dflt (refine' i2d_c _ _ _ _ x0 ?zn1 ?zn2 ?zbx ?zB ?zF ?zX ?zN ?zT ?zC ?zr hTI ?kK ?zd ?zu ?_)
       (case zn1 => omega)
       (case zn2 => omega)
       (case zbx => omega)
       (case zB => k_asm)
       (case zF => k_asm)
       (case zX => k_asm)
       (case zN => k_asm)
       (case zT => k_asm)
       (case zC => (exact hCI.keeps (Fr.keep (by assumption))))
       (case zr => (exact List.forall_mem_cons.mpr ⟨(by decide : (37 : Nat) ≠ 30), List.forall_mem_cons.mpr ⟨hCdI, hrI⟩⟩))
       (case kK => exact rfl)
       (case zd => ktr_room)
       (case zu => ktr_units)
       intro XI2 Ci2 YI2 lst vsA h' tk' hTI2 hIA F' N' lA lP
       have lA1 : @LT.lt Nat _ 37 lst := lA.1
       have lA2 : @LT.lt Nat _ Cd lst := lA.2.1
       have lA3 : AllLt lst rest := lA.2.2
       (try dsimp only)
       (try k_fold))
    | ((with_reducible show wpAny _ _ (call (Value.ref 21) _ _) _ _ _)
       rw [hzs]
       k_dflt (refine' pair_use ?k1 ?k2 ?k3 ?k4 ?k5 ?kK (use2 hP2 ?kn) ?kd ?ku ?_)
       (case k1 => k_asm)
       (case k2 => k_asm)
       (case k3 => k_asm)
       (case k4 => k_asm)
       (case k5 => k_asm)
       (case kK => exact rfl)
       (case kd => ktr_room)
       (case ku => ktr_units)
       (case kn => omega)
       intro D' x1 x2 c' h' tk' F' N' l'
       simp only [AllLt] at l'
       (try dsimp only)
       (try k_fold))
    | ((with_reducible show wpAny _ _ (call (Value.ref 42) _ _) _ _ _)
       (rename News _ _ _ _ => lN9)
       have hCi9 := hTI2.toS.apart lN9 hTD (by k_dflt k_mem) (by k_dflt k_mem) (by decide)
       k_dflt (refine' dig_c _ _ _ _ (Bd := 200000) (rest := (30, XI2) :: (Ci2, YI2) :: rest) hIr ?zlen ?zn0 ?zB ?zN ?zn1 ?k1 ?k2 ?k3 ?k4 ?k5 ?kC ?zr ?zlp hTD ?kK ?kd ?ku ?_)
       (case zlen => omega)
       (case zn0 => omega)
       (case zB => (intro z9 hz9; exact hqb z9 (List.mem_reverse.mp hz9)))
       (case zN => (exact Int.le_trans hda.2.1 (by omega)))
       (case zn1 => omega)
       (case k1 => k_asm)
       (case k2 => k_dflt k_asm)
       (case k3 => k_asm)
       (case k4 => (with_unfolding_all exact news_sub lN9 (List.forall_mem_cons.mpr ⟨by k_mem, List.forall_mem_cons.mpr ⟨by k_mem, List.forall_mem_cons.mpr ⟨by k_mem, List.forall_mem_cons.mpr ⟨by k_mem, List.forall_mem_cons.mpr ⟨by k_mem, by (repeat' (first | exact subr | (refine sub1 ?_)))⟩⟩⟩⟩⟩)))
       (case k5 => k_asm)
       (case kC => (exact hCD.keeps (Fr.keep (by assumption))))
       (case zr => (exact List.forall_mem_cons.mpr ⟨(by decide : (30 : Nat) ≠ 37), List.forall_mem_cons.mpr ⟨hCi9, hrD⟩⟩))
       (case zlp => k_ne)
       (case kK => exact rfl)
       (case kd => ktr_room)
       (case ku => ktr_units)
       clear lN9
       intro XD2 Cd2 YD2 tq h' tk' hTD2 F' N'
       (try dsimp only)
       (try k_fold)))
  k_with "append" => ((k_dflt (refine' append_L ?zF ?zN ?zU ?zz ?_; (case zF => k_asm); (case zN => k_asm); (case zU => k_updF); (case zz => omega))); intro h' F' N')
  k_with "reverse" => ((k_dflt (refine' reverse_L ?zF ?zN ?zU ?zz ?_; (case zF => k_asm); (case zN => k_asm); (case zU => k_updF); (case zz => (rw [List.length_reverse] at hda; omega)))); intro h' F' N'; have hIr := kFacts.reverse)
  k_with "shl" => ((with_reducible refine' shl_p (N := 200000) (m := 200000) ?zs1 ?zs2 ?zs3 ?zs4 ?_); (case zs1 => omega); (case zs2 => assumption); (case zs3 => omega); (case zs4 => decide); intro zs as hzs bzs)
  k_with "rev" => (
    (rename Fr _ _ _ _ => lF'); (rename News _ _ _ _ => lN')
    (with_unfolding_all refine' kst_rev (σ := List Value × List Int × Int × Nat × Nat) (fun c => (_, listOf (List.toArray c.1) c.2.2.2.2) :: (30, XI2) :: (Ci2, YI2) :: (37, XD) :: (Cd, YD) :: rest) (fun c => [(Str.ofString "r", Value.int c.2.2.1 c.2.2.2.1)]) (fun c => IntsAre c.1 c.2.1) [Str.ofString "q_digit"] (fun pre c => DmInv (2 ^ intBits b) b pre c.2.1 c.2.2.1) ([], [], 0, _, 0) (by rfl) hIA lF' lN' (List.Mem.head _) ?khl ?kne ?kN ?koff .nil ?kk ?kp ?_ ?_)
    (case khl => k_dflt k_mem)
    (case kne => k_ne)
    (case kN => (with_unfolding_all exact news_sub lN' (List.forall_mem_cons.mpr ⟨by k_mem, List.forall_mem_cons.mpr ⟨by k_mem, List.forall_mem_cons.mpr ⟨by k_mem, List.forall_mem_cons.mpr ⟨by k_mem, List.forall_mem_cons.mpr ⟨by k_mem, by (repeat' (first | exact subr | (refine sub1 ?_)))⟩⟩⟩⟩⟩)))
    (case koff => (
      (rename _ ∧ _ ∧ _ ∧ _ ∧ _ ∧ _ ∧ AllLt _ rest => l9)
      have hc9 := hTI2.toS.neList lN' (by k_dflt k_mem) (by k_dflt k_mem) lP
      refine List.forall_mem_cons.mpr ⟨⟨by k_ne, by k_ne⟩, List.forall_mem_cons.mpr ⟨⟨by k_ne, by k_ne⟩, List.forall_mem_cons.mpr ⟨⟨by k_ne, hc9⟩, List.forall_mem_cons.mpr ⟨⟨by k_ne, by k_ne⟩, List.forall_mem_cons.mpr ⟨⟨by k_ne, by k_ne⟩, ?_⟩⟩⟩⟩⟩
      exact fun p hp => ⟨ne_rest l9.2.2.2.2.2.2 (Nat.le_refl _) p hp, ne_rest lA3 (Nat.le_refl _) p hp⟩))
    (case kk => kst_all)
    (case kp => (exact DmInv.start (by omega)))
    (all_goals (try clear lF' lN'))
    rotate_left
    (
      rintro ⟨qvs, qs, r, tr0, vr0⟩ kU kH kTk kFacts kInv kFr kNews
      have kMark := kstMark
      dsimp only [kstB] at kFr
      dsimp only at kNews kInv kFacts
      have hdl := kFacts.length
      have hda := dm_all (n := (intBits b : Int)) (by omega) kInv
      have hqb : ∀ z ∈ qs, intBits z ≤ 200000 := fun z hz => Nat.le_trans (bits_of_lt (kInv.q z hz).1 (kInv.q z hz).2) hbb
      have hde := dm_end x0 b1 kInv)
    rotate_left
    (
      rintro ⟨qvs, qs, r, tr0, vr0⟩ kPre kPost kN kT kU kH kTk kOwn kEq kMem kOff kFacts kInv kFr kNews
      have kMark := kstMark
      dsimp only [kstB] at kFr
      dsimp only at kNews kInv kFacts
      simp only [List.nil_append, List.cons_append] at kNews
      have aR : Abs r := .mk
      have hdl := kFacts.length
      have hdm := kInv.len
      (rename _ ∧ _ ∧ _ ∧ _ ∧ _ ∧ AllLt _ rest => l8)
      have hro := fun p (hp : p ∈ rest ++ kOwn) => (List.mem_append.mp hp).elim (fun h => ne_rest l8.2.2.2.2.2 (Nat.le_refl _) p h) (fun h => kOff p h _ (List.Mem.head _))
      have hdn := dm_len (n := (intBits b : Int)) (by omega) kEq
      have hdr := digs_lt (ppos (intBits b)) _ _ kN kMem
      obtain ⟨q1, r1, hP2⟩ := dm_pre hbp.2.1 hbp.2.2 hbp.1 kInv.r0 kInv.r1 hdr.1 hdr.2
      have hPn := kInv.turn hP2.e hP2.q0 hP2.q1 hP2.r0 hP2.r1
      have bR : intBits r ≤ 200000 := bits_of_natAbs_le (b := b) (by have := kInv.r0; have := kInv.r1; omega) hbb)
    (all_goals (try dsimp only))
    (all_goals (try k_fold)))
  refine wpAny_call ?_
  k_dflt ktr_enter
  k_steps
  all_goals (
    (rename News h₀ _ _ _ => lN9)
    (rename _ ∧ _ ∧ _ ∧ _ ∧ _ ∧ AllLt _ rest => l8)
    obtain ⟨e1, e2⟩ := hde
    subst e2
    rw [Int.toNat_natCast, e1] at lN9
    refine hret _ _ _ _ _ _ _ tq tr0 0 _ _ hTI2 hTD2 (by k_asm) (news_sub lN9 ?_) ?_
    · with_unfolding_all exact List.forall_mem_cons.mpr ⟨by k_mem, List.forall_mem_cons.mpr ⟨by k_mem, List.forall_mem_cons.mpr ⟨by k_mem, List.forall_mem_cons.mpr ⟨by k_mem, List.forall_mem_cons.mpr ⟨by k_mem, by (repeat' (first | exact subr | (refine sub1 ?_)))⟩⟩⟩⟩⟩
    · exact ⟨l8.2.2.2.1, l8.2.2.2.2.1, l8.1, l8.2.1, l8.2.2.2.2.2⟩)
end Mine
namespace Mine
open PySem.Builtin.Int (intBits)
theorem dm_use {w : World} {mean : ExcName → Option Value} {mg mb : Str → Option Value} {x b : Int} {t u : Tok} {XI YI XD YD : Obj} {Ci Cd : Addr} (x0 : 0 ≤ x) (b1 : 1 ≤ b) (hbx : intBits x ≤ 900000) (hbb : intBits b ≤ 200000)
    {dp un : Nat} {gd : Option (List Code)} {cn : Str} {cs : Scope} {a : Addr} {ccd : Value} {cl : List (Str × Addr)} {outer : List Env} {A₀ : Around} {base h₀ : Heap} {L : Addr} {m : Str → Option Value} {news : List (Addr × Obj)} {g1 : Obj → List (Addr × Obj)} {g2 : Obj → Obj → List (Addr × Obj)} {s : Shared}
    {Q E : Value → Shared → Prop} (B : Below A₀ base outer h₀) (F : Fr h₀ L s.heap m) (X : (hd.heap_39 w.params).In h₀) (N : News h₀ L s.heap news) (U1 : UpdF 30 XI news g1) (U2 : ∀ o, UpdF 37 XD (g1 o) (g2 o)) (hYI : (Ci, YI) ∈ news) (hYD : (Cd, YD) ∈ news) (T : Top prog0 (looseW hd.view_39 [] ++ List.map (fun x => x.name) (recsOf hd.view_39) ++ List.map (fun x => x.fst) (litsOf hd.view_39) ++ List.map (fun x => x.name) (clssOf hd.view_39 (looseW hd.view_39 []))) mean mg mb h₀) (hCI : CodeHd h₀ 34 30) (hCD : CodeHd h₀ 41 37)
    (hTI : TabS 30 32 4 (Str.ofString "_int2digits.<locals>.inner") XI Ci YI) (hTD : TabS 37 47 4 (Str.ofString "_digits2int.<locals>.inner") XD Cd YD) (hk : cs.kind = .function) (hdp : dp + 44 + 104 < recursionLimit) (hu : un + 8 * 44 + 100 < cLine)
    (hret : ∀ XI' Ci' YI' XD' Cd' YD' D t1 t2 c h' tk', TabF 30 32 4 (Str.ofString "_int2digits.<locals>.inner") XI' Ci' YI' → TabF 37 47 4 (Str.ofString "_digits2int.<locals>.inner") XD' Cd' YD' → Fr h₀ L h' m → News h₀ L h' ((D, pairO (x / b) (x % b) t1 t2 c) :: (Ci', YI') :: (Cd', YD') :: g2 XI' XD') → (∀ p ∈ news, p.1 < D) → @LT.lt Nat _ Ci' D → @LT.lt Nat _ Cd' D → Q (.ref D) { s with heap := h', toks := tk' }) :
    wpAny (model PySem.Challenge.rw_dn0134_10.row.prog w) (ktrTop dp un gd cn cs L a ccd cl outer) (call (.ref 49) [.int x t, .int b u]) Q E s := by
  obtain ⟨pre, post, rfl, hg, h1, h2⟩ := U1.split
  have hPI := N (30, XI) (List.mem_append_right _ (.head _))
  have hmD : (37, XD) ∈ pre ++ (30, XI) :: post := by
    obtain ⟨pr, po, e, _⟩ := (U2 XI).split
    rw [hg] at e
    rw [e]
    exact List.mem_append_right _ (.head _)
  have hrs : ∀ p ∈ (pre ++ post).filter (fun p => decide (p.1 ≠ 37)), p ∈ pre ++ post ∧ p.1 ≠ 37 := fun p hp => ⟨(List.mem_filter.mp hp).1, by simpa using (List.mem_filter.mp hp).2⟩
  have hin : ∀ p ∈ pre ++ post, p ∈ pre ++ (30, XI) :: post := fun p hp => by
    rcases List.mem_append.mp hp with h | h
    · exact List.mem_append_left _ h
    · exact List.mem_append_right _ (.tail _ h)
  have hoff : ∀ p ∈ pre ++ post, p.1 ≠ 30 := fun p hp => by
    rcases List.mem_append.mp hp with h | h
    · exact h1 p h
    · exact h2 p h
  refine dm_c w mean mg mb (rest := (pre ++ post).filter (fun p => decide (p.1 ≠ 37))) x0 b1 hbx hbb B F X ?_ T hCI hCD (fun p hp => hoff p (hrs p hp).1) (fun p hp => (hrs p hp).2) hTI hTD hk hdp hu ?_
  · intro q hq
    rcases List.mem_cons.mp hq with rfl | hq
    · exact hPI
    rcases List.mem_cons.mp hq with rfl | hq
    · exact N _ hYI
    rcases List.mem_cons.mp hq with rfl | hq
    · exact N _ hmD
    rcases List.mem_cons.mp hq with rfl | hq
    · exact N _ hYD
    exact N q (hin q (hrs q hq).1)
  · intro XI' Ci' YI' XD' Cd' YD' D t1 t2 c h' tk' hTI' hTD' F' N' lD
    obtain ⟨l1, l2, l3, l4, l5⟩ := lD
    refine hret XI' Ci' YI' XD' Cd' YD' D t1 t2 c h' tk' hTI' hTD' F' (fun q hq => ?_) (fun q hq => ?_) l2 l4
    · rcases List.mem_cons.mp hq with rfl | hq
      · exact N' _ (.head _)
      rcases List.mem_cons.mp hq with rfl | hq
      · exact N' _ (.tail _ (.tail _ (.head _)))
      rcases List.mem_cons.mp hq with rfl | hq
      · exact N' _ (.tail _ (.tail _ (.tail _ (.tail _ (.head _)))))
      obtain ⟨pr, po, e, hg2, k1, k2⟩ := (U2 XI').split
      rw [hg2] at hq
      have hq2 : q = (37, XD') ∨ (q ∈ g1 XI' ∧ q.1 ≠ 37) := by
        rcases List.mem_append.mp hq with h | h
        · exact .inr ⟨by rw [e]; exact List.mem_append_left _ h, k1 q h⟩
        · rcases List.mem_cons.mp h with h | h
          · exact .inl h
          · exact .inr ⟨by rw [e]; exact List.mem_append_right _ (.tail _ h), k2 q h⟩
      rcases hq2 with rfl | ⟨hq3, hq4⟩
      · exact N' _ (.tail _ (.tail _ (.tail _ (.head _))))
      rw [hg] at hq3
      rcases List.mem_append.mp hq3 with h | h
      · exact N' _ (.tail _ (.tail _ (.tail _ (.tail _ (.tail _ (List.mem_filter.mpr ⟨List.mem_append_left _ h, by simpa using hq4⟩))))))
      rcases List.mem_cons.mp h with rfl | h
      · exact N' _ (.tail _ (.head _))
      · exact N' _ (.tail _ (.tail _ (.tail _ (.tail _ (.tail _ (List.mem_filter.mpr ⟨List.mem_append_right _ h, by simpa using hq4⟩))))))
    · have hq2 : q.1 = 30 ∨ q.1 = 37 ∨ q ∈ (pre ++ post).filter (fun p => decide (p.1 ≠ 37)) := by
        by_cases hd : q.1 = 37
        · exact .inr (.inl hd)
        rcases List.mem_append.mp hq with h | h
        · exact .inr (.inr (List.mem_filter.mpr ⟨List.mem_append_left _ h, by simpa using hd⟩))
        rcases List.mem_cons.mp h with rfl | h
        · exact .inl rfl
        · exact .inr (.inr (List.mem_filter.mpr ⟨List.mem_append_right _ h, by simpa using hd⟩))
      rcases hq2 with e | e | e
      · rw [e]; exact l1
      · rw [e]; exact l3
      · exact kst_ltOf l5 q e
end Mine
namespace Mine
section
variable {prog : Program} {w : World} {A : Around} {E : Value → Shared → Prop} {s : Shared} {h₀ : Heap} {L l : Addr} {m : Str → Option Value} {news : List (Addr × Obj)} {value slice : PySem.Expr} {vs : List Value} {ns : List Int} {x y : Int} {t u : Tok} {Q : Value → Shared → Prop}
theorem cutL_from (F : Fr h₀ L s.heap m) (N : News h₀ L s.heap news) (hl : s.heap.IsList l vs.toArray) (hi : IntsAre vs ns) (x0 : 0 ≤ x) (hz : ns.length ≤ 1000000)
    (h : ∀ D ws h', Fr h₀ L h' m → News h₀ L h' ((D, listOf (List.toArray ws) 0) :: news) → (∀ p ∈ news, p.1 < D) → IntsAre ws (ns.drop x.toNat) → Q (.ref D) { s with heap := h' })
    (hs : subscripted slice false (.ref l) (.ref s.heap.objs.size) = operate [.ref s.heap.objs.size, .ref l] (getItem (.ref l) (.ref s.heap.objs.size)) := by with_unfolding_all rfl) :
    wpAny (model prog w) A (subscriptTail value slice (.ref l) (.ref s.heap.objs.size)) Q E { s with heap := s.heap.push { cls := .type "slice", data := .fields #[.int x t, .none, .none] } } :=
  kba_turn (value' := PySem.Expr.Name (PySem.Str.ofString "_") ⟨0, 0, 0, 0⟩) (fun _ => rfl) (kmk_slice_ints F N hl (.int _ _) .none hi (kmk_from hi x0) rfl (fun D ws h' F' N' l' I' _ _ => h D ws h' F' N' l' I') hs (fun _ => rfl) (by rw [List.size_toArray, hi.length]; exact Nat.le_trans hz (by decide)))
theorem cutL_upto (F : Fr h₀ L s.heap m) (N : News h₀ L s.heap news) (hl : s.heap.IsList l vs.toArray) (hi : IntsAre vs ns) (x0 : 0 ≤ x) (hz : ns.length ≤ 1000000)
    (h : ∀ D ws h', Fr h₀ L h' m → News h₀ L h' ((D, listOf (List.toArray ws) 0) :: news) → (∀ p ∈ news, p.1 < D) → IntsAre ws (ns.take x.toNat) → Q (.ref D) { s with heap := h' })
    (hs : subscripted slice false (.ref l) (.ref s.heap.objs.size) = operate [.ref s.heap.objs.size, .ref l] (getItem (.ref l) (.ref s.heap.objs.size)) := by with_unfolding_all rfl) :
    wpAny (model prog w) A (subscriptTail value slice (.ref l) (.ref s.heap.objs.size)) Q E { s with heap := s.heap.push { cls := .type "slice", data := .fields #[.none, .int x t, .none] } } :=
  kba_turn (value' := PySem.Expr.Name (PySem.Str.ofString "_") ⟨0, 0, 0, 0⟩) (fun _ => rfl) (kmk_slice_ints F N hl .none (.int _ _) hi (kmk_upto hi x0) rfl (fun D ws h' F' N' l' I' _ _ => h D ws h' F' N' l' I') hs (fun _ => rfl) (by rw [List.size_toArray, hi.length]; exact Nat.le_trans hz (by decide)))
theorem cutL_run (F : Fr h₀ L s.heap m) (N : News h₀ L s.heap news) (hl : s.heap.IsList l vs.toArray) (hi : IntsAre vs ns) (x0 : 0 ≤ x) (y0 : 0 ≤ y) (hz : ns.length ≤ 1000000)
    (h : ∀ D ws h', Fr h₀ L h' m → News h₀ L h' ((D, listOf (List.toArray ws) 0) :: news) → (∀ p ∈ news, p.1 < D) → IntsAre ws ((ns.drop x.toNat).take (min y.toNat ns.length - x.toNat)) → Q (.ref D) { s with heap := h' })
    (hs : subscripted slice false (.ref l) (.ref s.heap.objs.size) = operate [.ref s.heap.objs.size, .ref l] (getItem (.ref l) (.ref s.heap.objs.size)) := by with_unfolding_all rfl) :
    wpAny (model prog w) A (subscriptTail value slice (.ref l) (.ref s.heap.objs.size)) Q E { s with heap := s.heap.push { cls := .type "slice", data := .fields #[.int x t, .int y u, .none] } } :=
  kba_turn (value' := PySem.Expr.Name (PySem.Str.ofString "_") ⟨0, 0, 0, 0⟩) (fun _ => rfl) (kmk_slice_ints F N hl (.int _ _) (.int _ _) hi (kmk_run hi x0 y0) rfl (fun D ws h' F' N' l' I' _ _ => h D ws h' F' N' l' I') hs (fun _ => rfl) (by rw [List.size_toArray, hi.length]; exact Nat.le_trans hz (by decide)))
end
/-- a script's first numbers, the written ones where it has none -/
theorem len3 {l : List Int} (h : l.length = 3) : ∃ a b c, l = [a, b, c] := by
  match l, h with
  | [a, b, c], _ => exact ⟨a, b, c, rfl⟩
theorem len2 {l : List Int} (h : l.length = 2) : ∃ a b, l = [a, b] := by
  match l, h with
  | [a, b], _ => exact ⟨a, b, rfl⟩
theorem head3 (s : List Int) (a b c : Int) : ∃ x y z, List.take (3 : Int).toNat (s ++ List.drop ((s.length : Int)).toNat [a, b, c]) = [x, y, z] := by
  refine len3 ?_
  rw [Int.toNat_natCast, List.length_take, List.length_append, List.length_drop]
  show min 3 (s.length + (3 - s.length)) = 3
  omega
theorem head2 (s : List Int) (a b : Int) : ∃ x y, List.take (2 : Int).toNat (s ++ List.drop ((s.length : Int)).toNat [a, b]) = [x, y] := by
  refine len2 ?_
  rw [Int.toNat_natCast, List.length_take, List.length_append, List.length_drop]
  show min 2 (s.length + (2 - s.length)) = 2
  omega
theorem head_bits {s l ys : List Int} {k j : Nat} (h : PyData.layable0 (.list (s.map .int)) = true) (hl : ∀ x ∈ l, PySem.Builtin.Int.intBits x ≤ 1048576) (e : List.take k (s ++ List.drop j l) = ys) : ∀ x ∈ ys, PySem.Builtin.Int.intBits x ≤ 1048576 := by
  subst e
  intro x hx
  rcases List.mem_append.mp (List.mem_of_mem_take hx) with hx | hx
  · exact intBits_le_of_item hx h
  · exact hl x (List.mem_of_mem_drop hx)
theorem ints3 {vs : List Value} {a b c : Int} (h : IntsAre vs [a, b, c]) : ∃ t u v, vs = [.int a t, .int b u, .int c v] := by
  obtain ⟨t, v1, e1, h1⟩ := h.cons_inv
  obtain ⟨u, v2, e2, h2⟩ := h1.cons_inv
  obtain ⟨v, v3, e3, h3⟩ := h2.cons_inv
  exact ⟨t, u, v, by rw [e1, e2, e3, h3.nil_inv]⟩
theorem ints2 {vs : List Value} {a b : Int} (h : IntsAre vs [a, b]) : ∃ t u, vs = [.int a t, .int b u] := by
  obtain ⟨t, v1, e1, h1⟩ := h.cons_inv
  obtain ⟨u, v2, e2, h2⟩ := h1.cons_inv
  exact ⟨t, u, by rw [e1, e2, h2.nil_inv]⟩
end Mine
namespace Mine
open PySem.Builtin.Int (intBits)
theorem Cg.add {d a b x y : Int} (h : Cg d a b) (h2 : Cg d x y) : Cg d (a + x) (b + y) := by
  obtain ⟨k, h⟩ := h
  obtain ⟨j, h2⟩ := h2
  exact ⟨k + j, by rw [Int.add_mul]; omega⟩
theorem Cg.mod {d a b : Int} (h : Cg d a b) : a % d = b % d := by
  obtain ⟨k, h⟩ := h
  rw [h, Int.add_mul_emod_self_right]
theorem evalD_cg {d P Q : Int} (h : Cg d P Q) : ∀ ds : List Int, Cg d (evalD P ds) (evalD Q ds)
  | [] => Cg.rfl' _ _
  | x :: r => by
    rw [evalD, evalD]
    exact (Cg.rfl' d x).add (h.mul (evalD_cg h r))
theorem evalD_range {P : Int} (hP : 0 < P) : ∀ ds : List Int, (∀ d ∈ ds, 0 ≤ d ∧ d < P) → 0 ≤ evalD P ds ∧ evalD P ds < P ^ ds.length
  | [], _ => ⟨by simp [evalD], by simp [evalD]⟩
  | x :: r, h => by
    have ih := evalD_range hP r fun d hd => h d (.tail _ hd)
    have hx := h x (.head _)
    rw [evalD, List.length_cons, Int.pow_succ]
    have h1 : 0 ≤ P * evalD P r := Int.mul_nonneg (by omega) ih.1
    have h2 : evalD P r * P ≤ (P ^ r.length - 1) * P := mul_le_of (by omega) (by omega)
    rw [Int.sub_mul, Int.one_mul, Int.mul_comm (evalD P r)] at h2
    exact ⟨by omega, by omega⟩
theorem digs_evalD {P : Int} (hP : 0 < P) : ∀ ds : List Int, (∀ d ∈ ds, 0 ≤ d ∧ d < P) → digs P ds.length (evalD P ds) = ds
  | [], _ => rfl
  | x :: r, h => by
    have hx := h x (.head _)
    rw [evalD, List.length_cons, digs]
    have e1 : (x + P * evalD P r) % P = x := by rw [Int.add_mul_emod_self_left]; exact Int.emod_eq_of_lt hx.1 hx.2
    have e2 : (x + P * evalD P r) / P = evalD P r := by
      rw [Int.add_mul_ediv_left _ _ (by omega), Int.ediv_eq_zero_of_lt hx.1 hx.2, Int.zero_add]
    rw [e1, e2, digs_evalD hP r fun d hd => h d (.tail _ hd)]
/-- a row without the noughts at its top -/
structure Cut (ns ms : List Int) (k : Nat) : Prop where
  k1 : k ≤ ns.length
  e : ms = ns.take k
  z : ∀ i : Nat, k ≤ i → ns.getD i 0 = 0
  t : k = 0 ∨ ns.getD (k - 1) 0 ≠ 0
theorem evalD_zero {P : Int} : ∀ ds : List Int, (∀ i : Nat, ds.getD i 0 = 0) → evalD P ds = 0
  | [], _ => rfl
  | x :: r, h => by
    have h0 : x = 0 := h 0
    rw [evalD, h0, evalD_zero r fun i => h (i + 1)]
    simp
theorem Cut.eval {P : Int} {ns ms : List Int} {k : Nat} (H : Cut ns ms k) : evalD P ns = evalD P ms := by
  have e := List.take_append_drop k ns
  have e2 : evalD P (ns.drop k) = 0 := evalD_zero _ fun i => by
    have := H.z (k + i) (by omega)
    rw [List.getD_eq_getElem?_getD] at this ⊢
    rw [List.getElem?_drop]; exact this
  rw [H.e]
  have e3 := evalD_append P (ns.take k) (ns.drop k)
  rw [e, e2, Int.mul_zero, Int.add_zero] at e3
  exact e3
theorem ndig_of {x n : Int} {k : Nat} (n1 : 1 ≤ n) (x0 : 0 ≤ x) (h1 : x < (2 ^ n.toNat) ^ k) (h2 : k = 0 ∨ (2 ^ n.toNat) ^ (k - 1) ≤ x) : (ndig x n).toNat = k := by
  rw [← Int.pow_mul] at h1
  have b1 := bits_of_lt x0 h1
  have e1 : ((n.toNat * k : Nat) : Int) = n * k := by rw [Int.natCast_mul, Int.toNat_of_nonneg (by omega)]
  have hb := ndig_bounds (x := x) n1
  have hl := ndig_le (x := x) n1 rfl
  rcases Nat.eq_zero_or_pos k with hk | hk
  · subst hk
    have : intBits x = 0 := by omega
    omega
  · have h3 := h2.resolve_left (by omega)
    rw [← Int.pow_mul] at h3
    have b2 : n.toNat * (k - 1) < intBits x := by
      rcases Nat.lt_or_ge (n.toNat * (k - 1)) (intBits x) with h | h
      · exact h
      · have := lt_of_bits h; omega
    have e2 : ((n.toNat * (k - 1) : Nat) : Int) = n * ((k : Int) - 1) := by rw [Int.natCast_mul, Int.toNat_of_nonneg (by omega), Int.natCast_sub hk]; rfl
    rw [Int.mul_sub, Int.mul_one] at e2
    have h4 : ndig x n ≤ k := by
      have : n * ndig x n < n * ((k : Int) + 1) := by rw [Int.mul_add, Int.mul_one]; omega
      have := Int.lt_of_mul_lt_mul_left this (by omega)
      omega
    have h5 : (k : Int) ≤ ndig x n := by
      have : n * ((k : Int) - 1) < n * ndig x n := by rw [Int.mul_sub, Int.mul_one]; omega
      have := Int.lt_of_mul_lt_mul_left this (by omega)
      omega
    omega
/-- the digits of a row's worth are the row without the noughts at its top -/
theorem Cut.digs {n : Int} {ns ms : List Int} {k : Nat} (H : Cut ns ms k) (n1 : 1 ≤ n) (h : ∀ d ∈ ns, 0 ≤ d ∧ d < 2 ^ n.toNat) : Mine.digs (2 ^ n.toNat) (ndig (evalD (2 ^ n.toNat) ns) n).toNat (evalD (2 ^ n.toNat) ns) = ms := by
  have hP := ppos n.toNat
  have hm : ∀ d ∈ ms, 0 ≤ d ∧ d < 2 ^ n.toNat := fun d hd => h d (List.mem_of_mem_take (H.e ▸ hd))
  have hl : ms.length = k := by rw [H.e, List.length_take]; have := H.k1; omega
  have hr := evalD_range hP ms hm
  rw [hl] at hr
  rw [H.eval]
  have hk : (ndig (evalD (2 ^ n.toNat) ms) n).toNat = k := by
    refine ndig_of n1 hr.1 hr.2 ?_
    rcases Nat.eq_zero_or_pos k with hk | hk
    · exact .inl hk
    · refine .inr ?_
      have hz := H.t.resolve_left (by omega)
      obtain ⟨ys, d, hyd⟩ : ∃ ys d, ms = ys ++ [d] := by
        rcases List.eq_nil_or_concat ms with h0 | ⟨ys, d, h0⟩
        · rw [h0] at hl; simp at hl; omega
        · exact ⟨ys, d, by rw [h0, List.concat_eq_append]⟩
      have hyl : ys.length = k - 1 := by
        have := congrArg List.length hyd
        rw [hl, List.length_append, List.length_singleton] at this; omega
      have hd := hm d (by rw [hyd]; simp)
      have hd0 : d ≠ 0 := by
        intro e0
        apply hz
        have e1 : ns.getD (k - 1) 0 = ms.getD (k - 1) 0 := by
          rw [H.e, List.getD_eq_getElem?_getD, List.getD_eq_getElem?_getD, List.getElem?_take_of_lt (by omega)]
        rw [e1, hyd, ← hyl, List.getD_eq_getElem?_getD, List.getElem?_append_right (Nat.le_refl _), Nat.sub_self]
        simpa using e0
      have hy := evalD_range hP ys fun d hd => hm d (by rw [hyd]; exact List.mem_append_left _ hd)
      rw [hyd, evalD_append, hyl, evalD_one]
      have : (2 ^ n.toNat) ^ (k - 1) * 1 ≤ (2 ^ n.toNat) ^ (k - 1) * d := Int.mul_le_mul_of_nonneg_left (by omega) (Int.le_of_lt (Int.pow_pos hP))
      omega
  rw [hk, ← hl]
  exact digs_evalD hP ms hm
/-- every second digit below nought -/
def altD : Nat → List Int → List Int
  | _, [] => []
  | i, d :: r => d * (1 - 2 * ((i : Int) % 2)) :: altD (i + 1) r
theorem altD_eval : ∀ (ds : List Int) (i : Nat), evalD 1 (altD i ds) = (1 - 2 * ((i : Int) % 2)) * evalD (-1) ds
  | [], i => by simp [altD, evalD]
  | d :: r, i => by
    rw [altD, evalD, evalD, altD_eval r (i + 1)]
    have e : (1 : Int) - 2 * (((i + 1 : Nat) : Int) % 2) = - (1 - 2 * ((i : Int) % 2)) := by omega
    rw [e]
    grind
theorem altD_range : ∀ (ds : List Int) (j : Nat), (List.range ds.length).map (fun i : Nat => ds.getD i 0 * (1 - 2 * (((i + j : Nat) : Int) % 2))) = altD j ds
  | [], j => rfl
  | d :: r, j => by
    rw [List.length_cons, List.range_succ_eq_map, List.map_cons, List.map_map, altD, ← altD_range r (j + 1)]
    congr 1
    · simp
    · apply List.map_congr_left
      intro i _
      simp only [Function.comp]
      have e : i.succ + j = i + (j + 1) := by omega
      rw [e]
      rfl
theorem plain11 {P number sm plain : Int} {rs cms : List Int} {k : Nat} (hnum : number = evalD P rs) (hC : Cut rs cms k) (hs : sm = evalD (2 ^ (0 : Int).toNat) cms) (hp : plain = sm.fmod (P - 1)) (hP : 2 ≤ P) : plain = number % (P - 1) := by
  rw [hp, fmodE _ (by omega), hs, hnum, hC.eval]
  exact (evalD_cg (Q := 1) ⟨1, by omega⟩ cms).mod.symm
theorem turn11 {P number sm turning : Int} {rs cms : List Int} {k : Nat} (hnum : number = evalD P rs) (hC : Cut rs cms k) (hs : sm = evalD (2 ^ (0 : Int).toNat) ((List.range cms.length).map (fun i : Nat => cms.getD i 0 * (1 - 2 * ((i : Int) % 2))))) (hp : turning = sm.fmod (P + 1)) (hP : 2 ≤ P) : turning = number % (P + 1) := by
  have e := altD_range cms 0
  have e2 : sm = evalD (-1) cms := by
    rw [hs]
    show evalD 1 _ = _
    have e3 := altD_eval cms 0
    rw [← e] at e3
    simpa using e3
  rw [hp, fmodE _ (by omega), e2, hnum, hC.eval]
  exact (evalD_cg (P := P) (Q := -1) ⟨1, by omega⟩ cms).mod.symm
theorem turn11_bits {cms : List Int} {B : Nat} (h : ∀ x ∈ cms, PySem.Builtin.Int.intBits x ≤ B) : ∀ x ∈ (List.range cms.length).map (fun i : Nat => cms.getD i 0 * (1 - 2 * ((i : Int) % 2))), PySem.Builtin.Int.intBits x ≤ B + 1 := by
  intro x hx
  obtain ⟨i, hi, rfl⟩ := List.mem_map.mp hx
  have hi' := List.mem_range.mp hi
  have h1 : intBits (cms.getD i 0) ≤ B := by
    refine h _ ?_
    rw [List.getD_eq_getElem?_getD, List.getElem?_eq_getElem hi']
    exact List.getElem_mem _
  refine bits_mul h1 ?_
  rcases (show (i : Int) % 2 = 0 ∨ (i : Int) % 2 = 1 by omega) with e | e
  · rw [e]; decide
  · rw [e]; decide
theorem pair_fin {x b r : Int} (b0 : 0 < b) (h : r = x % b) : x / b = (x - r).fdiv b ∧ x % b = r := by
  have h1 := Int.emod_nonneg x (show b ≠ 0 by omega)
  refine ⟨?_, h.symm⟩
  rw [fdivE _ b0, h]
  have := Int.mul_ediv_add_emod x b
  have e : x - x % b = b * (x / b) := by omega
  rw [e, Int.mul_ediv_cancel_left _ (by omega)]
/-- the law's own run through the digits -/
structure Run11 (P m upper lower : Int) (pre : List Int) : Prop where
  c : Cg m (upper * P + lower) (valR P pre)
  bu : intBits upper ≤ 6001 + 3 * pre.length
  bl : intBits lower ≤ 6001 + 3 * pre.length
theorem run11_start {P m u l : Int} (hu : u = 0) (hl : l = 0) : Run11 P m u l [] := by
  subst hu; subst hl
  exact ⟨by simp [valR]; exact Cg.rfl' _ _, by decide, by decide⟩
theorem run11_turn {P m upper lower d u2 l2 : Int} {pre : List Int} (H : Run11 P m upper lower pre) (hm : 2 * m = P * P + 2 * P - 2) (hd : intBits d ≤ 6001) (hu : u2 = lower - 2 * upper) (hl : l2 = 2 * upper + d) : Run11 P m u2 l2 (pre ++ [d]) := by
  have b2 : intBits (2 * upper) ≤ 2 + (6001 + 3 * pre.length) := bits_mul (by decide) H.bu
  subst hu; subst hl
  have el : (pre ++ [d]).length = pre.length + 1 := by simp
  refine ⟨?_, ?_, ?_⟩
  · rw [valR_snoc]
    have h1 := (H.c.mul (Cg.rfl' m P)).add (Cg.rfl' m d)
    refine Cg.trans ?_ h1
    refine ⟨-(2 * upper), ?_⟩
    have : -(2 * upper) * m = -(upper * (2 * m)) := by grind
    rw [this, hm]
    grind
  · rw [el]
    refine Nat.le_trans (bits_sub H.bl b2) ?_
    omega
  · rw [el]
    refine Nat.le_trans (bits_add b2 hd) ?_
    omega
theorem least_eq {n P : Int} (n1 : 1 ≤ n) (hP : P = 2 ^ n.toNat) : 2 * (P * P / 2 + P - 1) = P * P + 2 * P - 2 := by
  have e : (2 : Int) ^ n.toNat = 2 * 2 ^ (n.toNat - 1) := by rw [Int.mul_comm, ← Int.pow_succ]; congr 1; omega
  have e2 : P * P = 2 * (2 ^ (n.toNat - 1) * P) := by rw [hP, e]; grind
  omega
theorem left11 {P number least upper lower left : Int} {rs : List Int} (hnum : number = evalD P rs) (H : Run11 P least upper lower rs.reverse) (hl : left = (upper * P + lower).fmod least) (h0 : 0 < least) : left = number % least := by
  rw [hl, fmodE _ h0, H.c.mod, hnum, ← evalD_rev, List.reverse_reverse]
end Mine
namespace Mine
open PySem.Builtin.Int (intBits)
theorem cut_start {ns : List Int} {size : Int} (h : size = (ns.length : Int)) : 0 ≤ size ∧ size ≤ (ns.length : Int) ∧ ∀ i : Nat, size.toNat ≤ i → ns.getD i 0 = 0 := by
  subst h
  refine ⟨by omega, by omega, fun i hi => ?_⟩
  rw [List.getD_eq_getElem?_getD, List.getElem?_eq_none (by omega)]
  rfl
theorem cut_turn {ns : List Int} {size : Int} (h : 0 ≤ size ∧ size ≤ (ns.length : Int) ∧ ∀ i : Nat, size.toNat ≤ i → ns.getD i 0 = 0) (h0 : size > 0) (h1 : ns.getD (size - 1).toNat 0 = 0) : 0 ≤ size - 1 ∧ size - 1 ≤ (ns.length : Int) ∧ ∀ i : Nat, (size - 1).toNat ≤ i → ns.getD i 0 = 0 := by
  refine ⟨by omega, by omega, fun i hi => ?_⟩
  rcases (show i = (size - 1).toNat ∨ size.toNat ≤ i by omega) with e | e
  · rw [e]; exact h1
  · exact h.2.2 i e
theorem cut_end {ns : List Int} {size : Int} (h : 0 ≤ size ∧ size ≤ (ns.length : Int) ∧ ∀ i : Nat, size.toNat ≤ i → ns.getD i 0 = 0) (h1 : ¬ size > 0 ∨ ns.getD (size - 1).toNat 0 ≠ 0) : Cut ns (ns.take size.toNat) size.toNat := by
  refine ⟨by omega, rfl, h.2.2, ?_⟩
  rcases h1 with h1 | h1
  · exact .inl (by omega)
  · rcases Int.lt_or_le 0 size with h2 | h2
    · refine .inr ?_
      have e : size.toNat - 1 = (size - 1).toNat := by omega
      rw [e]; exact h1
    · exact .inl (by omega)
local macro_rules | `(tactic| bits_by_make) => `(tactic| with_reducible assumption)
local macro_rules | `(tactic| walk_at "exec While BoolOp cons nil") => `(tactic| k_extra "mywhile")
local macro_rules | `(tactic| walk_at "call builtin:len") => `(tactic| k_extra "len")
local macro_rules | `(tactic| walk_at "subscriptTail Name BinOp ref int") => `(tactic| k_extra "item")
local macro_rules | `(tactic| walk_at "subscriptTail Name Slice ref ref") => `(tactic| k_extra "cut")
set_option maxRecDepth 100000 in
set_option maxHeartbeats 8000000 in
theorem cut_c (w : World) (mean : ExcName → Option Value) (mg mb : Str → Option Value) {vs : List Value} {ns : List Int} {c : Nat} {lst : Addr} (hI : IntsAre vs ns) (hlen : ns.length ≤ 1000)
    {dp un : Nat} {gd : Option (List Code)} {cn : Str} {cs : Scope} {a : Addr} {ccd : Value} {cl : List (Str × Addr)} {outer : List Env} {A₀ : Around} {base h₀ : Heap} {L : Addr} {m : Str → Option Value} {news : List (Addr × Obj)} {s : Shared}
    {Q E : Value → Shared → Prop} (B : Below A₀ base outer h₀) (F : Fr h₀ L s.heap m) (X : (hd.heap_39 w.params).In h₀) (N : News h₀ L s.heap news) (hm : (lst, listOf vs.toArray c) ∈ news) (T : Top prog0 (looseW hd.view_39 [] ++ List.map (fun x => x.name) (recsOf hd.view_39) ++ List.map (fun x => x.fst) (litsOf hd.view_39) ++ List.map (fun x => x.name) (clssOf hd.view_39 (looseW hd.view_39 []))) mean mg mb h₀) (hk : cs.kind = .function) (hdp : dp + 2 + 104 < recursionLimit) (hu : un + 8 * 2 + 100 < cLine)
    (hret : ∀ D ws ms k h' tk', Cut ns ms k → IntsAre ws ms → Fr h₀ L h' m → News h₀ L h' ((D, listOf (List.toArray ws) 0) :: news) → (∀ p ∈ news, p.1 < D) → Q (.ref D) { s with heap := h', toks := tk' }) :
    wpAny (model PySem.Challenge.rw_dn0134_10.row.prog w) (ktrTop dp un gd cn cs L a ccd cl outer) (call (.ref 70) [.ref lst]) Q E s := by
  (have hh : PySem.Challenge.rw_dn0134_10 = PySem.Challenge.rw_dn0134_10 ∧ hd.heap_39 = hd.heap_39 := by (k_fill; exact ⟨rfl, rfl⟩))
  clear hh
  w_top off
  k_with_none
  k_with "len" => (k_dflt (refine' kst_len (k := ns.length) ?zN ?zm ?ze ?zf ?_; (case zN => k_asm); (case zm => exact hm); (case ze => exact hI.length); (case zf => omega)))
  k_with "item" => (k_dflt (refine' itemD ?zN ?zm hI ?za ?zb ?zc ?_; (case zN => k_asm); (case zm => exact hm); (case za => omega); (case zb => omega); (case zc => omega)); intro ti)
  k_with "mywhile" => ((k_while (fun _ size => 0 ≤ size ∧ size ≤ (ns.length : Int) ∧ ∀ i : Nat, size.toNat ≤ i → ns.getD i 0 = 0) (fun _ size => size.toNat) "size"))
  k_with "state" => (first
    | exact cut_start rfl
    | exact cut_turn ⟨by assumption, by assumption, by assumption⟩ (by assumption) (by assumption))
  k_with "cut" => (k_dflt (refine' cutL_upto ?qF ?qN ?ql ?qi ?qx ?qz ?_ ?qs; (case qF => k_asm); (case qN => k_asm); (case ql => kmk_list); (case qi => exact hI); (case qs => with_unfolding_all rfl); (case qx => omega); (case qz => omega)); intro Dc wsc h' F' N' lc hIc)
  refine wpAny_call ?_
  k_dflt ktr_enter
  k_steps
  all_goals (
    refine hret _ _ _ _ _ _ (cut_end ⟨by assumption, by assumption, by assumption⟩ ?_) hIc (by k_asm) (by k_asm) lc
    first | exact .inl (by omega) | exact .inr (by assumption))
end Mine
namespace Mine
open PySem.Builtin.Int (intBits)
theorem i2d_use {w : World} {mean : ExcName → Option Value} {mg mb : Str → Option Value} {x n : Int} {t u : Tok} {Xo Yo : Obj} {Co : Addr} (x0 : 0 ≤ x) (n1 : 1 ≤ n) (n2 : n ≤ 1000000) (hb : intBits x ≤ 1000000)
    {dp un : Nat} {gd : Option (List Code)} {cn : Str} {cs : Scope} {a : Addr} {ccd : Value} {cl : List (Str × Addr)} {outer : List Env} {A₀ : Around} {base h₀ : Heap} {L : Addr} {m : Str → Option Value} {news : List (Addr × Obj)} {g : Obj → List (Addr × Obj)} {s : Shared}
    {Q E : Value → Shared → Prop} (B : Below A₀ base outer h₀) (F : Fr h₀ L s.heap m) (X : (hd.heap_39 w.params).In h₀) (N : News h₀ L s.heap news) (U : UpdF 30 Xo news g) (hY : (Co, Yo) ∈ news) (T : Top prog0 (looseW hd.view_39 [] ++ List.map (fun x => x.name) (recsOf hd.view_39) ++ List.map (fun x => x.fst) (litsOf hd.view_39) ++ List.map (fun x => x.name) (clssOf hd.view_39 (looseW hd.view_39 []))) mean mg mb h₀) (hC : CodeHd h₀ 34 30) (hTab : TabS 30 32 4 (Str.ofString "_int2digits.<locals>.inner") Xo Co Yo) (hk : cs.kind = .function) (hdp : dp + 22 + 104 < recursionLimit) (hu : un + 8 * 22 + 100 < cLine)
    (hret : ∀ X' C' Y' D vs' h' tk', TabF 30 32 4 (Str.ofString "_int2digits.<locals>.inner") X' C' Y' → IntsAre vs' (digs (2 ^ n.toNat) (ndig x n).toNat x) → Fr h₀ L h' m → News h₀ L h' ((D, listOf (List.toArray vs') 0) :: (C', Y') :: g X') → (∀ p ∈ news, p.1 < D) → Q (.ref D) { s with heap := h', toks := tk' }) :
    wpAny (model PySem.Challenge.rw_dn0134_10.row.prog w) (ktrTop dp un gd cn cs L a ccd cl outer) (call (.ref 35) [.int x t, .int n u]) Q E s := by
  obtain ⟨pre, post, rfl, hg, h1, h2⟩ := U.split
  have hP := N (30, Xo) (List.mem_append_right _ (.head _))
  refine i2d_c w mean mg mb (rest := pre ++ post) (Xo := Xo) (Yo := Yo) (Co := Co) x0 n1 n2 hb B F X ?_ T hC ?_ hTab hk hdp hu ?_
  · intro q hq
    rcases List.mem_cons.mp hq with rfl | hq
    · exact hP
    rcases List.mem_cons.mp hq with rfl | hq
    · exact N _ hY
    rcases List.mem_append.mp hq with hq | hq
    · exact N q (List.mem_append_left _ hq)
    · exact N q (List.mem_append_right _ (.tail _ hq))
  · intro q hq
    rcases List.mem_append.mp hq with hq | hq
    · exact h1 q hq
    · exact h2 q hq
  · intro X' C' Y' D vs' h' tk' hT' hI' F' N' lD lP
    refine hret X' C' Y' D vs' h' tk' hT' hI' F' (fun q hq => ?_) (fun q hq => ?_)
    · rcases List.mem_cons.mp hq with rfl | hq
      · exact N' _ (.tail _ (.tail _ (.head _)))
      rcases List.mem_cons.mp hq with rfl | hq
      · exact N' _ (.tail _ (.head _))
      rw [hg] at hq
      rcases List.mem_append.mp hq with hq | hq
      · exact N' _ (.tail _ (.tail _ (.tail _ (List.mem_append_left _ hq))))
      rcases List.mem_cons.mp hq with rfl | hq
      · exact N' _ (.head _)
      · exact N' _ (.tail _ (.tail _ (.tail _ (List.mem_append_right _ hq))))
    · rcases List.mem_append.mp hq with hq | hq
      · exact kst_ltOf lD q (List.mem_append_left _ hq)
      rcases List.mem_cons.mp hq with rfl | hq
      · exact lP
      · exact kst_ltOf lD q (List.mem_append_right _ hq)
end Mine
namespace Mine
open PySem.Builtin.Int (intBits)
theorem dig_use {w : World} {mean : ExcName → Option Value} {mg mb : Str → Option Value} {n : Int} {vs : List Value} {ns : List Int} {c Bd : Nat} {lst : Addr} {t : Tok} {Xo Yo : Obj} {Co : Addr} (hI : IntsAre vs ns) (hlen : ns.length ≤ 1000000) (n0 : 0 ≤ n) (hB : ∀ x ∈ ns, intBits x ≤ Bd) (hN : (Bd : Int) + n * ns.length + ns.length ≤ 10000000) (n1 : n ≤ 10000000)
    {dp un : Nat} {gd : Option (List Code)} {cn : Str} {cs : Scope} {a : Addr} {ccd : Value} {cl : List (Str × Addr)} {outer : List Env} {A₀ : Around} {base h₀ : Heap} {L : Addr} {m : Str → Option Value} {news : List (Addr × Obj)} {g : Obj → List (Addr × Obj)} {s : Shared}
    {Q E : Value → Shared → Prop} (B : Below A₀ base outer h₀) (F : Fr h₀ L s.heap m) (X : (hd.heap_39 w.params).In h₀) (N : News h₀ L s.heap news) (U : UpdF 37 Xo news g) (hY : (Co, Yo) ∈ news) (hl : (lst, listOf vs.toArray c) ∈ news) (T : Top prog0 (looseW hd.view_39 [] ++ List.map (fun x => x.name) (recsOf hd.view_39) ++ List.map (fun x => x.fst) (litsOf hd.view_39) ++ List.map (fun x => x.name) (clssOf hd.view_39 (looseW hd.view_39 []))) mean mg mb h₀) (hC : CodeHd h₀ 41 37) (hTab : TabS 37 47 4 (Str.ofString "_digits2int.<locals>.inner") Xo Co Yo) (hk : cs.kind = .function) (hdp : dp + 22 + 104 < recursionLimit) (hu : un + 8 * 22 + 100 < cLine)
    (hret : ∀ X' C' Y' t' h' tk', TabF 37 47 4 (Str.ofString "_digits2int.<locals>.inner") X' C' Y' → Fr h₀ L h' m → News h₀ L h' ((C', Y') :: g X') → Q (.int (evalD (2 ^ n.toNat) ns) t') { s with heap := h', toks := tk' }) :
    wpAny (model PySem.Challenge.rw_dn0134_10.row.prog w) (ktrTop dp un gd cn cs L a ccd cl outer) (call (.ref 42) [.ref lst, .int n t]) Q E s := by
  obtain ⟨pre, post, rfl, hg, h1, h2⟩ := U.split
  have hP := N (37, Xo) (List.mem_append_right _ (.head _))
  have hlp : lst ≠ 37 := by
    intro e
    obtain ⟨ps, e2⟩ := hTab.grown
    have e3 := (N _ hl).1
    rw [e, hP.1, e2] at e3
    cases e3
  refine dig_c w mean mg mb (c := c) (rest := pre ++ post) (Xo := Xo) (Yo := Yo) (Co := Co) hI hlen n0 hB hN n1 B F X ?_ T hC ?_ hlp hTab hk hdp hu ?_
  · intro q hq
    rcases List.mem_cons.mp hq with rfl | hq
    · exact hP
    rcases List.mem_cons.mp hq with rfl | hq
    · exact N _ hY
    rcases List.mem_cons.mp hq with rfl | hq
    · exact N _ hl
    rcases List.mem_append.mp hq with hq | hq
    · exact N q (List.mem_append_left _ hq)
    · exact N q (List.mem_append_right _ (.tail _ hq))
  · intro q hq
    rcases List.mem_append.mp hq with hq | hq
    · exact h1 q hq
    · exact h2 q hq
  · intro X' C' Y' t' h' tk' hT' F' N'
    refine hret X' C' Y' t' h' tk' hT' F' (fun q hq => ?_)
    rcases List.mem_cons.mp hq with rfl | hq
    · exact N' _ (.tail _ (.head _))
    rw [hg] at hq
    rcases List.mem_append.mp hq with hq | hq
    · exact N' _ (.tail _ (.tail _ (.tail _ (List.mem_append_left _ hq))))
    rcases List.mem_cons.mp hq with rfl | hq
    · exact N' _ (.head _)
    · exact N' _ (.tail _ (.tail _ (.tail _ (List.mem_append_right _ hq))))
end Mine
namespace Mine
open PyProof.Rows.LCg PyProof.Rows.LCt
section
variable {prog : Program} {w : World} {A : Around} {E : Value → Shared → Prop} {s : Shared} {h₀ : Heap} {L : Addr} {m : Str → Option Value} {env : Env}
/-- a comprehension over a list of ints whose test never holds -/
theorem srcT_none {ct elt : Expr} {x : Str} {scope : Scope} {cl : List (Str × Addr)} {Fin : Shared → List Value → List (Addr × Obj) → Prop} {ax : Addr} {vs : List Value} {ns : List Int} {c : Nat} {news : List (Addr × Obj)} {s₁ : Shared}
    (hh : A.handled = none) (F : Fr h₀ L s₁.heap m) (N : News h₀ L s₁.heap news) (hm : (ax, listOf vs.toArray c) ∈ news) (hi : IntsAre vs ns) (hz : ns.length ≤ 1000000)
    (turn : ∀ n t I oI C oC D m₂ h tk (E' : Value → Shared → Prop) (Q' : Bool → Shared → Prop), NsObj oC m₂ → m₂ x = some (.int n t) → Fr h₀ L h m → News h₀ L h ((I, oI) :: (C, oC) :: (D, lst []) :: news) → Off3 I C D news → ((@Ne Nat I C) ∧ (@Ne Nat I D) ∧ (@Ne Nat C D)) →
      (∀ h' tk', Fr h₀ L h' m → News h₀ L h' ((I, oI) :: (C, oC) :: (D, lst []) :: news) → Q' false { s₁ with heap := h', toks := tk' }) →
      wpAny (model prog w) A (isTrue ct (compEnvC scope cl C env) (eval ct (compEnvC scope cl C env))) Q' E' { s₁ with heap := h, toks := tk })
    (fin : ∀ g, Fin { s₁ with heap := g } [] news) : CompSrcT prog w A h₀ L m env ct elt x scope cl Fin (.ref ax) s₁ := by
  have hS : SrcAt h₀ ax vs.toArray news := .inr ⟨_, hm, rfl, _, rfl⟩
  refine CompSrcT.ledger hh F N hm (by rw [List.size_toArray, hi.length]; exact Nat.le_trans hz (by decide)) fun g => ?_
  have key : ∀ k i, CompRestT prog w A h₀ L m env ct elt x scope cl { s₁ with heap := g } (SrcAt h₀ ax vs.toArray) (fun i v => vs.toArray[i]? = some v) (Fin { s₁ with heap := g }) k i [] news := by
    intro k
    induction k with
    | zero => intro i; exact CompRestT.zero (fin g)
    | succ k ih =>
      intro i
      refine CompRestT.succ fun v I oI C oC D m₂ h tk E' hv hC hx F' N' off ne => ?_
      obtain ⟨n, t, e, _⟩ := hi.at i v (by simpa using hv)
      subst e
      refine turn n t I oI C oC D m₂ h tk E' _ hC hx F' N' off ne fun h' tk' F'' N'' => ?_
      simp only [Bool.false_eq_true, if_false]
      exact ⟨h', tk', news, rfl, F'', N'', off, hS, ih (i + 1)⟩
  exact key _ _
/-- a comprehension of ints over a range -/
theorem srcR_map {elt : Expr} {x : Str} {scope : Scope} {cl : List (Str × Addr)} {Fin : Shared → List Value → List (Addr × Obj) → Prop} {r : Addr} {b : Int} {t u v : Tok} {n : Nat} {news : List (Addr × Obj)} {s₁ : Shared} (f : Nat → Int)
    (hh : A.handled = none) (F : Fr h₀ L s₁.heap m) (N : News h₀ L s₁.heap news) (hr : IsRange s₁.heap r 0 b 1 t u v) (hsm : Builtin.Range.small 0 b 1 = true) (hn : Builtin.Range.rangeSize 0 b 1 = ((n : Nat) : Int)) (hz : n ≤ 1000000)
    (turn : ∀ (i : Nat) t I oI C oC D m₂ h tk ys (E' Q' : Value → Shared → Prop), i < n → NsObj oC m₂ → m₂ x = some (.int (i : Int) t) → Fr h₀ L h m → News h₀ L h ((I, oI) :: (C, oC) :: (D, lst ys) :: news) → Off3 I C D news → ((@Ne Nat I C) ∧ (@Ne Nat I D) ∧ (@Ne Nat C D)) →
      (∀ t' h' tk', Fr h₀ L h' m → News h₀ L h' ((I, oI) :: (C, oC) :: (D, lst ys) :: news) → Q' (.int (f i) t') { s₁ with heap := h', toks := tk' }) →
      wpAny (model prog w) A (eval elt (compEnvC scope cl C env)) Q' E' { s₁ with heap := h, toks := tk })
    (fin : ∀ g ys, IntsAre ys ((List.range n).map f) → Fin { s₁ with heap := g } ys news) : CompSrc prog w A h₀ L m env elt x scope cl Fin (.ref r) s₁ := by
  refine CompSrc.range hh F N hr hsm hn (Nat.le_trans hz (by decide)) fun g => ?_
  have key : ∀ k i ys, i + k = n → IntsAre ys ((List.range i).map f) → CompRest prog w A h₀ L m env elt x scope cl { s₁ with heap := g } (fun _ => True) (fun i v => ∃ t, v = .int (0 + (i : Int)) t) (Fin { s₁ with heap := g }) k i ys news := by
    intro k
    induction k with
    | zero =>
      intro i ys e hy
      obtain rfl : i = n := by omega
      exact CompRest.zero (fin g ys hy)
    | succ k ih =>
      intro i ys e hy
      refine CompRest.succ fun v I oI C oC D m₂ h tk E' hv hC hx F' N' off ne => ?_
      obtain ⟨t, e2⟩ := hv
      rw [Int.zero_add] at e2
      subst e2
      refine turn i t I oI C oC D m₂ h tk ys E' _ (by omega) hC hx F' N' off ne fun t' h' tk' F'' N'' => ?_
      refine ⟨h', tk', news, rfl, F'', N'', off, trivial, ih (i + 1) _ (by omega) ?_⟩
      rw [List.range_succ, List.map_append]
      exact hy.append (.cons _ _ .nil)
  exact key _ _ _ (by omega) .nil
end
end Mine
namespace Mine
open PySem.Builtin.Int (intBits)
theorem evalD_set (P : Int) : ∀ (ns : List Int) (k : Nat) (z : Int), k < ns.length → evalD P (ns.set k (ns.getD k 0 + z)) = evalD P ns + P ^ k * z
  | d :: r, 0, z, _ => by
    show (d + z) + P * evalD P r = d + P * evalD P r + P ^ 0 * z
    rw [Int.pow_zero, Int.one_mul]; omega
  | d :: r, k + 1, z, h => by
    show d + P * evalD P (r.set k (r.getD k 0 + z)) = d + P * evalD P r + P ^ (k + 1) * z
    rw [evalD_set P r k z (by simp at h; omega), Int.pow_succ]
    grind
theorem evalD_zeros (P : Int) : ∀ n : Nat, evalD P (List.replicate n 0) = 0
  | 0 => rfl
  | n + 1 => by
    rw [List.replicate_succ, evalD, evalD_zeros P n]; simp
theorem evalD_take (P : Int) {xs : List Int} {i : Nat} (h : i < xs.length) : evalD P (xs.take (i + 1)) = evalD P (xs.take i) + P ^ i * xs.getD i 0 := by
  have e : xs.take (i + 1) = xs.take i ++ [xs.getD i 0] := by
    rw [List.take_add_one, List.getElem?_eq_getElem h, List.getD_eq_getElem?_getD, List.getElem?_eq_getElem h]; rfl
  rw [e, evalD_append, evalD_one, List.length_take]
  congr 2
  congr 1
  omega
/-- the row so far: what the first ones of the one row make with the other one -/
structure Prod10 (xs ys : List Int) (M : Int) (i j : Nat) (row : List Int) : Prop where
  len : row.length = xs.length + ys.length - 1
  e : ∀ P, evalD P row = evalD P (xs.take i) * evalD P ys + P ^ i * xs.getD i 0 * evalD P (ys.take j)
  b : ∀ d ∈ row, 0 ≤ d ∧ d ≤ ((i * ys.length + j : Nat) : Int) * M
theorem Prod10.start {xs ys : List Int} {M : Int} : Prod10 xs ys M 0 0 (List.replicate (xs.length + ys.length - 1) 0) := by
  refine ⟨List.length_replicate, fun P => ?_, fun d hd => ?_⟩
  · rw [evalD_zeros, List.take_zero, List.take_zero, evalD, Int.zero_mul, Int.mul_zero, Int.add_zero]
  · rw [List.eq_of_mem_replicate hd]; simp
theorem Prod10.next {xs ys row : List Int} {M : Int} {i : Nat} (H : Prod10 xs ys M i ys.length row) (hi : i < xs.length) : Prod10 xs ys M (i + 1) 0 row := by
  refine ⟨H.len, fun P => ?_, fun d hd => ?_⟩
  · rw [H.e P, List.take_length, List.take_zero, evalD, Int.mul_zero, Int.add_zero, evalD_take P hi, Int.add_mul]
  · have h := H.b d hd
    have e : i * ys.length + ys.length = (i + 1) * ys.length + 0 := by rw [Nat.add_mul]; omega
    rw [e] at h
    exact h
theorem mem_set {row : List Int} {k : Nat} {z d : Int} (h : d ∈ row.set k z) : d = z ∨ d ∈ row := by
  rcases List.mem_or_eq_of_mem_set h with h | h
  · exact .inr h
  · exact .inl h
theorem Prod10.turn {xs ys row : List Int} {M z : Int} {i j k : Nat} (H : Prod10 xs ys M i j row) (hi : i < xs.length) (hj : j < ys.length) (hk : k = i + j) (M0 : 0 ≤ M) (hz : z = xs.getD i 0 * ys.getD j 0) (z0 : 0 ≤ z) (zM : z ≤ M) : Prod10 xs ys M i (j + 1) (row.set k (row.getD k 0 + z)) := by
  subst hk
  have hl : i + j < row.length := by rw [H.len]; omega
  have hbk := H.b (row.getD (i + j) 0) (by rw [List.getD_eq_getElem?_getD, List.getElem?_eq_getElem hl]; exact List.getElem_mem hl)
  have e1 : ((i * ys.length + (j + 1) : Nat) : Int) * M = ((i * ys.length + j : Nat) : Int) * M + M := by
    rw [← Nat.add_assoc, Int.natCast_add, Int.add_mul]; simp
  refine ⟨by rw [List.length_set]; exact H.len, fun P => ?_, fun d hd => ?_⟩
  · rw [evalD_set P row (i + j) z hl, H.e P, evalD_take P hj, hz, Int.pow_add]
    grind
  · rw [e1]
    rcases mem_set hd with e | hd
    · rw [e]; omega
    · have := H.b d hd; omega
theorem Prod10.done {xs ys row : List Int} {M : Int} (H : Prod10 xs ys M xs.length 0 row) : (∀ P, evalD P row = evalD P xs * evalD P ys) ∧ row.length = xs.length + ys.length - 1 ∧ ∀ d ∈ row, 0 ≤ d ∧ d ≤ ((xs.length * ys.length : Nat) : Int) * M := by
  refine ⟨fun P => ?_, H.len, fun d hd => ?_⟩
  · rw [H.e P, List.take_length, List.take_zero, evalD, Int.mul_zero, Int.add_zero]
  · have := H.b d hd
    rw [Nat.add_zero] at this; exact this
theorem bits10 {k : Nat} {d : Int} (h0 : 0 ≤ d) (h1 : d ≤ (k : Int) * 2 ^ 2000) (hk : k ≤ 1000) : intBits d ≤ 2011 := by
  refine bits_of_lt h0 ?_
  have hp := ppos 2000
  have h2 : (k : Int) * 2 ^ 2000 ≤ 1000 * 2 ^ 2000 := mul_le_of (by omega) (by omega)
  have e : (2 : Int) ^ 2011 = 2048 * 2 ^ 2000 := by
    rw [show (2011 : Nat) = 11 + 2000 from rfl, Int.pow_add]; rfl
  rw [e]; omega
theorem mulB {x y : Int} (x0 : 0 ≤ x) (y0 : 0 ≤ y) (hx : intBits x ≤ 1000) (hy : intBits y ≤ 1000) : 0 ≤ x * y ∧ x * y ≤ 2 ^ 2000 := by
  have h := lt_of_bits (k := 2000) (bits_mul hx hy)
  exact ⟨Int.mul_nonneg x0 y0, Int.le_of_lt h⟩
end Mine
namespace Mine
open PySem.Builtin.Int (intBits)
theorem itemE {prog : Program} {w : World} {A : Around} {E : Value → Shared → Prop} {s : Shared} {h₀ : Heap} {L : Addr} {news : List (Addr × Obj)} {value slice : Expr} {l : Addr} {vs : List Value} {ns : List Int} {c : Nat} {k x : Int} {u : Tok} {Q : Value → Shared → Prop}
    (N : News h₀ L s.heap news) (hm : (l, listOf vs.toArray c) ∈ news) (hi : IntsAre vs ns) (h0 : 0 ≤ k) (h1 : k < (ns.length : Int)) (h2 : (ns.length : Int) ≤ 1000000) (hx : ns.getD k.toNat 0 = x) (h : ∀ t, Q (.int x t) s)
    (hs : subscripted slice false (.ref l) (.int k u) = operate [.ref l, .int k u] (getItem (.ref l) (.int k u)) := by with_unfolding_all rfl) (hg : ∀ r, letTemporaryGo value (.ref l) r = pure () := by intro _; with_unfolding_all rfl) :
    wpAny (model prog w) A (subscriptTail value slice (.ref l) (.int k u)) Q E s := itemD N hm hi h0 h1 h2 (fun t => by rw [hx]; exact h t) hs hg
theorem led_in {A own X : List (Addr × Obj)} (h : ∀ q ∈ A ++ own, q ∈ X) : ∀ p ∈ A, p ∈ X := fun p hp => h p (List.mem_append_left _ hp)
theorem own_in {A own X : List (Addr × Obj)} (h : ∀ q ∈ A ++ own, q ∈ X) : ∀ p ∈ own, p ∈ X := fun p hp => h p (List.mem_append_right _ hp)
theorem rszN (k : Nat) : Builtin.Range.rangeSize 0 (k : Int) 1 = ((k : Nat) : Int) := by
  rw [rangeSize_pos (by decide) (by omega)]
  omega
theorem prod_c0 {xs ys : List Int} {M : Int} {z : Int} (h : z = (xs.length : Int) + (ys.length : Int) - 1) : Prod10 xs ys M 0 0 (List.replicate z.toNat 0) := by
  have e : z.toNat = xs.length + ys.length - 1 := by omega
  rw [e]; exact Prod10.start
theorem prod_in {xs ys row : List Int} {M : Int} {i : Nat} (H : Prod10 xs ys M i 0 row) : Prod10 xs ys M i ([] : List Int).length row := H
theorem prod_out {xs ys row : List Int} {M k : Int} {pre : List Int} (H : Prod10 xs ys M pre.length (rangeKs 0 ys.length).length row) (hi : pre.length < xs.length) : Prod10 xs ys M (pre ++ [k]).length 0 row := by
  rw [rangeKs_length] at H
  have e : (pre ++ [k]).length = pre.length + 1 := by simp
  rw [e]; exact H.next hi
theorem prod_turn {xs ys row : List Int} {M a b : Int} {i : Nat} {kI kJ k9 : Int} {pre : List Int} (H : Prod10 xs ys M i pre.length row) (hi : i < xs.length) (hj : pre.length < ys.length) (eI : kI = (i : Int)) (eJ : kJ = (pre.length : Int)) (M0 : 0 ≤ M) (ha : xs.getD kI.toNat 0 = a) (hb : ys.getD kJ.toNat 0 = b) (z0 : 0 ≤ a * b) (zM : a * b ≤ M) :
    Prod10 xs ys M i (pre ++ [k9]).length (row.set (kI + kJ).toNat (row.getD (kI + kJ).toNat 0 + a * b)) := by
  have e : (pre ++ [k9]).length = pre.length + 1 := by simp
  have e1 : (kI + kJ).toNat = i + pre.length := by omega
  have e2 : kI.toNat = i := by omega
  have e3 : kJ.toNat = pre.length := by omega
  rw [e, e1]
  rw [e2] at ha
  rw [e3] at hb
  exact H.turn hi hj rfl M0 (by rw [ha, hb]) z0 zM
theorem getD_all10 {ns : List Int} {p : Int → Prop} (h : ∀ x ∈ ns, p x) {k : Nat} (hk : k < ns.length) : p (ns.getD k 0) := by
  rw [List.getD_eq_getElem?_getD, List.getElem?_eq_getElem hk]; exact h _ (List.getElem_mem hk)
local macro_rules | `(tactic| walk_at "pyIter ref") => `(tactic| k_extra "myiter")
local macro_rules | `(tactic| kc_close) => `(tactic| k_extra "good")
local macro_rules | `(tactic| walk_at "exec For Name Call cons nil") => `(tactic| (k_here; (rename Fr _ _ _ _ => lF'); (with_unfolding_all refine' For_invVF lF' ?k1 ?k2 ?_; (case k1 => exact rfl); (case k2 => exact rfl); k_whole)))
local macro_rules | `(tactic| walk_at "subscriptTail Name BinOp ref int") => `(tactic| k_extra "itemR")
local macro_rules | `(tactic| walk_at "subscriptTail Name Name ref int") => `(tactic| k_extra "itemX")
local macro_rules | `(tactic| walk_at "setItem ref int int") => `(tactic| k_extra "set")
local macro_rules | `(tactic| walk_at "binaryOp Mult int int") => `(tactic| ((with_reducible refine' mul_p ?kb1 ?kb2 ?kb3 ?_); (case kb1 => bits_by_make); (case kb2 => bits_by_make); (case kb3 => decide)))
local macro_rules | `(tactic| bits_by_make) => `(tactic| with_reducible assumption)
local macro_rules | `(tactic| walk_at "binaryOp Mult ref int") => `(tactic| k_extra "rep")
local macro_rules | `(tactic| walk_at "call builtin:len") => `(tactic| k_extra "len")
set_option maxRecDepth 100000 in
set_option maxHeartbeats 8000000 in
theorem product_c (w : World) (mean : ExcName → Option Value) (mg mb : Str → Option Value) {xv yv : List Value} {xs ys : List Int} {c1 c2 : Nat} {lx ly : Addr} (hX : IntsAre xv xs) (hY : IntsAre yv ys) (lx1 : 1 ≤ xs.length) (lx2 : xs.length ≤ 30) (ly1 : 1 ≤ ys.length) (ly2 : ys.length ≤ 30) (hbx : ∀ x ∈ xs, 0 ≤ x ∧ intBits x ≤ 1000) (hby : ∀ x ∈ ys, 0 ≤ x ∧ intBits x ≤ 1000)
    {dp un : Nat} {gd : Option (List Code)} {cn : Str} {cs : Scope} {a : Addr} {ccd : Value} {cl : List (Str × Addr)} {outer : List Env} {A₀ : Around} {base h₀ : Heap} {L : Addr} {m : Str → Option Value} {news : List (Addr × Obj)} {s : Shared}
    {Q E : Value → Shared → Prop} (B : Below A₀ base outer h₀) (F : Fr h₀ L s.heap m) (X : (hd.heap_39 w.params).In h₀) (N : News h₀ L s.heap news) (hmx : (lx, listOf xv.toArray c1) ∈ news) (hmy : (ly, listOf yv.toArray c2) ∈ news) (T : Top prog0 (looseW hd.view_39 [] ++ List.map (fun x => x.name) (recsOf hd.view_39) ++ List.map (fun x => x.fst) (litsOf hd.view_39) ++ List.map (fun x => x.name) (clssOf hd.view_39 (looseW hd.view_39 []))) mean mg mb h₀) (hk : cs.kind = .function) (hdp : dp + 2 + 104 < recursionLimit) (hu : un + 8 * 2 + 100 < cLine)
    (hret : ∀ D ws ms c h' tk', (∀ P, evalD P ms = evalD P xs * evalD P ys) → ms.length = xs.length + ys.length - 1 → (∀ d ∈ ms, 0 ≤ d ∧ intBits d ≤ 2011) → IntsAre ws ms → Fr h₀ L h' m → News h₀ L h' ((D, listOf (List.toArray ws) c) :: news) → (∀ p ∈ news, p.1 < D) → Q (.ref D) { s with heap := h', toks := tk' }) :
    wpAny (model PySem.Challenge.rw_dn0134_10.row.prog w) (ktrTop dp un gd cn cs L a ccd cl outer) (call (.ref 56) [.ref lx, .ref ly]) Q E s := by
  (have hh : PySem.Challenge.rw_dn0134_10 = PySem.Challenge.rw_dn0134_10 ∧ hd.heap_39 = hd.heap_39 := by (k_fill; exact ⟨rfl, rfl⟩))
  clear hh
  w_top off
  k_with_none
  k_with "len" => (first
    | k_dflt (refine' kst_len (k := xs.length) ?zN ?zm ?ze ?zf ?_; (case zN => k_asm); (case zm => (repeat' (first | exact hmx | exact List.mem_append_left _ hmx | exact List.mem_append_left _ (List.mem_append_left _ hmx) | (refine List.Mem.tail _ ?_)))); (case ze => exact hX.length); (case zf => omega))
    | k_dflt (refine' kst_len (k := ys.length) ?zN ?zm ?ze ?zf ?_; (case zN => k_asm); (case zm => (repeat' (first | exact hmy | exact List.mem_append_left _ hmy | exact List.mem_append_left _ (List.mem_append_left _ hmy) | (refine List.Mem.tail _ ?_)))); (case ze => exact hY.length); (case zf => omega)))
  k_with "rep" => (k_dflt (refine' rep0 ?zF ?zN ?zm ?za ?zb ?_; (case zF => k_asm); (case zN => k_asm); (case zm => k_mem); (case za => omega); (case zb => omega)); intro lst vsA h' F' N' lA hI0; (try k_lt lA))
  k_with "myiter" => (first
    | ((fail_if_success (have := hOut))
       (rename Fr _ _ _ _ => lF')
       (rename News _ _ _ _ => lN')
       (rename IsRange _ _ _ _ _ _ _ _ => rgX)
       (with_unfolding_all refine' kst_range (n := xs.length) (σ := List Value × List Int × Nat) (fun c => (lst, listOf (List.toArray c.1) c.2.2) :: news) (fun _ => []) (fun c => IntsAre c.1 c.2.1) [Str.ofString "j"] (fun pre c => Prod10 xs ys (2 ^ 2000) pre.length 0 c.2.1) (vsA, _, 0) (by rfl) rgX ?ksm ?ksn lF' (news_sub lN' (sub0 (sub1 subr))) hI0 ?kk (prod_c0 rfl) ?_ ?_)
       (case ksm => (exact small_one (by omega) (by omega) (by omega) (by omega)))
       (case ksn => (exact rszN _))
       (case kk => kst_all)
       (all_goals (try clear lF' lN'))
       rotate_left
       (
         rintro ⟨rv, row, nr⟩ kU kH kTk kFacts kInv kFr kNews
         have hOut : True := True.intro
         have kMark := kstMark
         dsimp only [kstB] at kFr
         dsimp only at kNews kInv kFacts)
       rotate_left
       (
         rintro ⟨rv, row, nr⟩ kPre iN kT kU kH kTk kOwn kEq kLtI kOff kFacts kInv kFr kNews
         have hOut : True := True.intro
         have kMark := kstMark
         dsimp only [kstB] at kFr
         dsimp only at kNews kInv kFacts
         simp only [List.nil_append, List.cons_append, List.append_assoc] at kNews
         have aiN : Abs iN := .mk)
       (all_goals (try dsimp only))
       (all_goals (try k_fold)))
    | ((rename Fr _ _ _ _ => lF')
       (rename News _ _ _ _ => lN')
       (rename IsRange _ _ _ _ _ _ _ _ => rgX)
       (with_unfolding_all refine' kst_range (n := ys.length) (σ := List Value × List Int × Nat) (fun c => (lst, listOf (List.toArray c.1) c.2.2) :: (news ++ kOwn)) (fun _ => []) (fun c => IntsAre c.1 c.2.1) [] (fun pre c => Prod10 xs ys (2 ^ 2000) kPre.length pre.length c.2.1) (rv, row, nr) (by rfl) rgX ?ksm ?ksn lF' lN' kFacts ?kk (prod_in kInv) ?_ ?_)
       (case ksm => (exact small_one (by omega) (by omega) (by omega) (by omega)))
       (case ksn => (exact rszN _))
       (case kk => kst_all)
       (all_goals (try clear lF' lN'))
       rotate_left
       (
         rintro ⟨rv2, row2, nr2⟩ kU2 kH2 kTk2 kFacts2 kInv2 kFr2 kNews2
         have kMark := kstMark
         dsimp only [kstB] at kFr2
         dsimp only at kNews2 kInv2 kFacts2)
       rotate_left
       (
         rintro ⟨rv2, row2, nr2⟩ kPre2 jN kT2 kU2 kH2 kTk2 kOwn2 kEq2 kLtJ kOff2 kFacts2 kInv2 kFr2 kNews2
         have hIn : True := True.intro
         have kMark := kstMark
         dsimp only [kstB] at kFr2
         dsimp only at kNews2 kInv2 kFacts2
         simp only [List.nil_append, List.cons_append] at kNews2
         have ajN : Abs jN := .mk
         have hrl := kInv2.len
         obtain ⟨xa, hxa⟩ : ∃ z, xs.getD iN.toNat 0 = z := ⟨_, rfl⟩
         obtain ⟨yb, hyb⟩ : ∃ z, ys.getD jN.toNat 0 = z := ⟨_, rfl⟩
         have hxb := getD_all10 hbx (k := iN.toNat) (by omega)
         have hyb2 := getD_all10 hby (k := jN.toNat) (by omega)
         rw [hxa] at hxb
         rw [hyb] at hyb2
         have bxa := hxb.2
         have byb := hyb2.2
         have axa : Abs xa := .mk
         have ayb : Abs yb := .mk)
       (all_goals (try dsimp only))
       (all_goals (try k_fold))))
  k_with "itemR" => (
    (k_dflt (refine' itemD ?zN ?zm kFacts2 ?za ?zb ?zc ?_; (case zN => k_asm); (case zm => k_mem); (case za => omega); (case zb => omega); (case zc => omega)))
    intro ti)
  k_with "itemX" => (first
    | ((with_reducible show wpAny _ _ (subscriptTail (Expr.Name (Str.ofString "xs") _) _ _ _) _ _ _)
       (k_dflt (refine' itemE (x := xa) ?zN ?zm hX ?za ?zb ?zc hxa ?_; (case zN => k_asm); (case zm => (repeat' (first | exact hmx | exact List.mem_append_left _ hmx | exact List.mem_append_left _ (List.mem_append_left _ hmx) | (refine List.Mem.tail _ ?_)))); (case za => omega); (case zb => omega); (case zc => omega)))
       intro ti)
    | ((with_reducible show wpAny _ _ (subscriptTail (Expr.Name (Str.ofString "ys") _) _ _ _) _ _ _)
       (k_dflt (refine' itemE (x := yb) ?zN ?zm hY ?za ?zb ?zc hyb ?_; (case zN => k_asm); (case zm => (repeat' (first | exact hmy | exact List.mem_append_left _ hmy | exact List.mem_append_left _ (List.mem_append_left _ hmy) | (refine List.Mem.tail _ ?_)))); (case za => omega); (case zb => omega); (case zc => omega)))
       intro ti))
  k_with "set" => (
    k_dflt (refine' ksa_set ?k1 ?k2 ?k3 kFacts2 ?k5 ?k6 ?k7 ?_; (case k1 => k_asm); (case k2 => k_asm); (case k3 => k_upd); (case k5 => omega); (case k6 => omega); (case k7 => omega))
    intro h' F' N' hi9 hl9 hs9)
  k_with "good" => (first
    | ((have := hIn)
       (with_reducible show InvEndN _ _ _ _ _ _ _)
       (rename News _ _ _ _ => nE')
       (rename Fr _ _ _ _ => fE')
       have hzz := mulB hxb.1 hyb2.1 bxa byb
       have hM0 : (0 : Int) ≤ 2 ^ 2000 := Int.le_of_lt (ppos 2000)
       have hei : iN = (kPre.length : Int) := by omega
       have hej : jN = (kPre2.length : Int) := by omega
       have hpt := prod_turn (k9 := jN) kInv2 kLtI kLtJ hei hej hM0 hxa hyb hzz.1 hzz.2
       (apply kst_end ⟨_, _, _⟩)
       (case F => k_dflt (exact fE'))
       (case N => k_dflt (exact nE'))
       (case hn => with_unfolding_all (refine led_in (own := kOwn2) ?_; (repeat' (first | exact subr | (refine sub1 ?_)))))
       (case ho => (repeat' (first | exact (fun q hq => List.mem_append_right _ hq) | (refine sub1 ?_))))
       (case ha => rfl)
       (case hf => exact hi9)
       (case hk => kst_all)
       (case hr => kst_same)
       (case hp => (exact hpt)))
    | ((with_reducible show InvEndN _ _ _ _ _ _ _)
       (rename News _ _ _ _ => nE')
       (rename Fr _ _ _ _ => fE')
       (apply kst_end ⟨_, _, _⟩)
       (case F => k_dflt (exact fE'))
       (case N => k_dflt (exact nE'))
       (case hn => with_unfolding_all (refine led_in (own := kOwn) ?_; (repeat' (first | exact subr | (refine sub1 ?_)))))
       (case ho => (repeat' (first | exact (fun q hq => List.mem_append_right _ hq) | (refine sub1 ?_))))
       (case ha => rfl)
       (case hf => exact kFacts2)
       (case hk => kst_all)
       (case hr => kst_same)
       (case hp => (exact prod_out kInv2 kLtI))))
  refine wpAny_call ?_
  k_dflt ktr_enter
  k_steps
  (rename News h₀ L _ _ => N9)
  (rename Fr h₀ L _ m => F9)
  rw [rangeKs_length] at kInv
  obtain ⟨e1, e2, e3⟩ := kInv.done
  exact hret _ _ _ _ _ _ e1 e2 (fun d hd => ⟨(e3 d hd).1, bits10 (e3 d hd).1 (e3 d hd).2 (Nat.le_trans (Nat.mul_le_mul lx2 ly2) (by decide))⟩) kFacts F9 N9 (kst_ltOf lA.2)
end Mine
namespace Mine
section
variable {prog : Program} {w : World} {A : Around} {E : Value → Shared → Prop} {s : Shared} {env : Env} {h₀ : Heap} {x : Str} {body : List Stmt} {Q : Flow → Shared → Prop}
/-- a loop from behind over a list of ints that the call keeps, by an invariant over the state -/
theorem kst_revL {σ : Type} {I l : Addr} {vs : List Value} {ns : List Int} {nn : Nat} {m₀ : Str → Option Value} (Led : σ → List (Addr × Obj)) (ps : σ → List (Str × Value)) (Facts : σ → Prop) (stored : List Str) (P : List Int → σ → Prop) (c₀ : σ) {all : List (Addr × Obj)}
    (hh : A.handled = none) (hi : IntsAre vs ns) (F : Fr h₀ env.locals s.heap m₀) (NA : News h₀ env.locals s.heap all) (hI : (I, revObj l ((vs.length : Int) - 1)) ∈ all) (hl : ∀ c : σ, (l, listOf vs.toArray nn) ∈ Led c) (hadr : ∀ c : σ, (Led c).map (·.1) = (Led c₀).map (·.1)) (N : News h₀ env.locals s.heap (Led c₀)) (hoff : ∀ p ∈ Led c₀, p.1 ≠ I) (hf : Facts c₀) (hk : ∀ p ∈ ps c₀, m₀ p.1 = some p.2) (hp : P [] c₀)
    (turn : ∀ (c : σ) pre post n t (u : Str → Option Value) h tk own, ns.reverse = pre ++ n :: post → n ∈ ns → OwnOff own ((Led c₀).map (·.1)) → Facts c → P pre c →
      Fr h₀ env.locals h (fun y => if y = x then some (.int n t) else kstB (fun z => if stored.contains z then u z else m₀ z) (ps c) y) → News h₀ env.locals h (Led c ++ own) →
      wpAny (model prog w) A (execs body env) (InvPostN h₀ env.locals (KstS Led ps Facts x stored m₀ P (pre ++ [n])) own ((Led c₀).map (·.1)) { s with heap := h, toks := tk } Q) E { s with heap := h, toks := tk })
    (done : ∀ (c : σ) (u : Str → Option Value) h tk, Facts c → P ns.reverse c → Fr h₀ env.locals h (fun y => if y = x then u y else kstB (fun z => if stored.contains z then u z else m₀ z) (ps c) y) → News h₀ env.locals h (Led c) → Q .next { s with heap := h, toks := tk }) :
    wpAny (model prog w) A (pyIter (.ref I)) (fun it s₂ => LoopAtV prog w A h₀ env x body Q E it s₂) E s := by
  have hIx := NA _ hI
  have hlx := N _ (hl c₀)
  have hne : l ≠ I := hoff _ (hl c₀)
  have hL : s.heap.IsList l vs.toArray := ⟨_, hlx.1, rfl, nn, rfl⟩
  have hit : s.heap.IsRevIter I l ((vs.length : Int) - 1) := ⟨_, hIx.1, rfl, rfl⟩
  refine wpAny_pyIter_revIter hit ?_
  have W := Walks.listRev (prog := prog) (w := w) hh I l hne vs.toArray
  have hlen : vs.toArray.size = ns.length := by simp [hi.length]
  rw [hlen] at W
  have hr : ns.reverse.length = ns.length := List.length_reverse
  refine ⟨I, _, _, _, _, _, m₀, Led c₀, (fun i m nx => KstS Led ps Facts x stored m₀ P (ns.reverse.take i) m nx), rfl, W, ?_, ?_, ?_, ?_, F, N, ⟨c₀, rfl, hf, hk, fun _ _ _ _ => rfl, by simpa using hp⟩, ?_, ?_⟩
  · intro hm
    rcases List.mem_cons.mp hm with e | hm
    · exact hIx.2.1 e.symm
    · exact hlx.2.1 (List.mem_singleton.mp hm).symm
  · intro b hb
    rw [List.mem_singleton.mp hb]
    exact hIx.2.2
  · intro p hp hm
    exact hoff p hp (List.mem_singleton.mp hm)
  · refine ⟨Nat.zero_le _, ?_, hL⟩
    have e : ((ns.length : Nat) : Int) - 1 - ((0 : Nat) : Int) = (vs.length : Int) - 1 := by rw [hi.length]; omega
    rw [e]
    exact hit
  · rintro i v m₁ news₁ s₁ own ⟨hh', tk', rfl⟩ hin hP ⟨c, rfl, hf', h1, h2, hp'⟩ hoff' hown hget _ _ F₁ N₁
    have hlt' : i < ns.reverse.length := by rw [hr]; exact hin
    have hP2 : vs.toArray[ns.length - 1 - i]? = some v := hP
    have hget2 : ns[ns.length - 1 - i]? = some ns.reverse[i] := by
      rw [List.getElem_reverse]
      exact List.getElem?_eq_getElem (by omega)
    obtain ⟨t, hx⟩ := hi.get _ _ hget2
    have hv : v = .int ns.reverse[i] t := by
      have : vs[ns.length - 1 - i]? = some v := by simpa using hP2
      rw [hx] at this; exact (Option.some.inj this).symm
    subst hv
    have hn : ns.reverse[i]? = some ns.reverse[i] := List.getElem?_eq_getElem hlt'
    have hs : ns.reverse.take (i + 1) = ns.reverse.take i ++ [ns.reverse[i]] := by rw [List.take_add_one, hn]; rfl
    have e : ns.reverse = ns.reverse.take i ++ ns.reverse[i] :: ns.reverse.drop (i + 1) := by
      have ht := List.take_append_drop (i + 1) ns.reverse
      rw [hs, List.append_assoc] at ht
      exact ht.symm
    have hlo : hh'.get? l = some (listOf vs.toArray nn) := (N₁ _ (List.mem_append.mpr (.inr (hl c)))).1
    -- what the loop itself owns: the iterator; the list is of the ledger
    let own' := own.filter fun p => decide (p.1 = I)
    have ho' : ∀ p ∈ own', p ∈ own ∧ p.1 = I := fun p hp => ⟨(List.mem_filter.mp hp).1, by simpa using (List.mem_filter.mp hp).2⟩
    have hsep : OwnOff own' ((Led c₀).map (·.1)) := by
      intro p hp b hb e9
      rw [← hadr c] at hb
      obtain ⟨q, hq, rfl⟩ := List.mem_map.mp hb
      exact hoff' q hq (by rw [← e9, (ho' p hp).2]; exact .head _)
    have N₂ : News h₀ env.locals hh' (Led c ++ own') := fun p hp => N₁ p ((List.mem_append.mp hp).elim (fun h => List.mem_append.mpr (.inr h)) fun h => List.mem_append.mpr (.inl (ho' p h).1))
    have key := turn c _ _ ns.reverse[i] t m₁ hh' tk' own' e (List.mem_reverse.mp (List.getElem_mem hlt')) hsep hf' hp' (kst_fr h1 h2 F₁) N₂
    show wpAny (model prog w) A (execs body env) (LoopStepV h₀ env.locals [I] own (KstS Led ps Facts x stored m₀ P (ns.reverse.take (i + 1))) { s with heap := hh', toks := tk' } (fun v s' => Q (.ret v) s') fun s' => Q .next s') E { s with heap := hh', toks := tk' }
    rw [hs]
    refine wpAny_mono key (fun f s₂ p => ?_) fun _ _ e => e
    have fin : InvEndN h₀ env.locals (KstS Led ps Facts x stored m₀ P (ns.reverse.take i ++ [ns.reverse[i]])) own' ((Led c₀).map (·.1)) { s with heap := hh', toks := tk' } s₂ →
        LoopStepU h₀ env.locals [I] own (KstS Led ps Facts x stored m₀ P (ns.reverse.take i ++ [ns.reverse[i]])) { s with heap := hh', toks := tk' } .next s₂ := by
      rintro ⟨h', tk, m', news', nx, e, F', N', hn, ho, ha, hS⟩
      have hlm : (l, listOf vs.toArray nn) ∈ nx := by
        obtain ⟨c', rfl, _⟩ := hS
        exact hl c'
      refine ⟨rfl, h', tk, m', nx, e, F', fun p hp => ?_, fun p hp hq => ?_, hS⟩
      · rcases List.mem_append.mp hp with h | h
        · rcases List.mem_cons.mp (hown p h) with h3 | h3
          · exact N' p (ho p (List.mem_filter.mpr ⟨h, by simpa using h3⟩))
          · have h4 : p.1 = l := List.mem_singleton.mp h3
            have h5 : hh'.get? p.1 = some p.2 := hget p h
            rw [h4, hlo] at h5
            have h6 : p = (l, listOf vs.toArray nn) := Prod.ext h4 (Option.some.inj h5).symm
            rw [h6]
            exact N' _ (hn _ hlm)
        · exact N' p (hn p h)
      · have h3 : p.1 ∈ nx.map (·.1) := List.mem_map.mpr ⟨p, hp, rfl⟩
        rw [ha] at h3
        obtain ⟨q, hq1, hq2⟩ := List.mem_map.mp h3
        exact hoff q hq1 (by rw [hq2]; exact List.mem_singleton.mp hq)
    cases f with
    | ret v => exact .ret p
    | brk => exact .brk p
    | next => exact .next (fin p)
    | cont => exact .cont (fin p)
  · rintro h' tk m' news' F' N' _ ⟨c, rfl, hf', h1, h2, hp'⟩
    rw [List.take_of_length_le (by rw [hr]; exact Nat.le_refl _)] at hp'
    exact done c m' h' tk hf' hp' (kst_frOut h1 h2 F') N'
end
end Mine
namespace Mine
open PySem.Builtin.Int (intBits)
theorem pow2_ge {n P : Int} (n1 : 1 ≤ n) (h : P = 2 ^ n.toNat) : 2 ≤ P := by
  have := pmono (i := 1) (j := n.toNat) (by omega)
  rw [h]; simpa using this
/-- the number so far -/
structure Num10 (P : Int) (pre : List Int) (z : Int) : Prop where
  e : z = valR P pre
  z0 : 0 ≤ z
  lt : z < P ^ pre.length
theorem num10_start {P z : Int} (hz : z = 0) : Num10 P [] z := by
  subst hz
  exact ⟨by simp [valR], by decide, by simp⟩
theorem num10_turn {P z z2 d : Int} {pre : List Int} (hP : 0 < P) (H : Num10 P pre z) (d0 : 0 ≤ d) (d1 : d < P) (hz : z2 = z * P + d) : Num10 P (pre ++ [d]) z2 := by
  have h1 : z * P ≤ (P ^ pre.length - 1) * P := mul_le_of (by omega) (by have := H.lt; omega)
  have h2 : 0 ≤ z * P := Int.mul_nonneg H.z0 (by omega)
  have el : (pre ++ [d]).length = pre.length + 1 := by simp
  refine ⟨?_, by omega, ?_⟩
  · rw [valR_snoc, hz, H.e]
  · rw [el, Int.pow_succ, hz]
    rw [Int.sub_mul, Int.one_mul] at h1
    omega
theorem num10_bits {P z n : Int} {pre : List Int} (n1 : 1 ≤ n) (n2 : n ≤ 6100) (hP : P = 2 ^ n.toNat) (hl : pre.length ≤ 30) (H : Num10 P pre z) : intBits z ≤ 183000 := by
  have h := H.lt
  rw [hP, ← Int.pow_mul] at h
  refine Nat.le_trans (bits_of_lt H.z0 h) ?_
  have : n.toNat * pre.length ≤ 6100 * 30 := Nat.mul_le_mul (by omega) hl
  omega
theorem num10_end {P z : Int} {rs : List Int} (H : Num10 P rs.reverse z) : z = evalD P rs := by
  rw [H.e, ← evalD_rev, List.reverse_reverse]
local macro_rules | `(tactic| bits_by_make) => `(tactic| with_reducible assumption)
local macro_rules | `(tactic| walk_at "pyIter ref") => `(tactic| k_extra "myiter")
local macro_rules | `(tactic| kc_close) => `(tactic| k_extra "good")
local macro_rules | `(tactic| walk_at "call type:reversed") => `(tactic| k_extra "rev")
local macro_rules | `(tactic| walk_at "storeName") => `(tactic| ((fail_if_success (with_reducible rename KPfMark => zMk)); (fail_if_success ((with_reducible refine abs_skip ?ka ?kb); (case ka => with_reducible assumption))); k_extra "abs"))
local macro_rules | `(tactic| walk_at "binaryOp Mult int int") => `(tactic| ((with_reducible refine' mul_p ?kb1 ?kb2 ?kb3 ?_); (case kb1 => bits_by_make); (case kb2 => bits_by_make); (case kb3 => decide)))
set_option maxRecDepth 100000 in
set_option maxHeartbeats 8000000 in
theorem worth_c (w : World) (mean : ExcName → Option Value) (mg mb : Str → Option Value) {vs : List Value} {ns : List Int} {c : Nat} {lst : Addr} {n P : Int} {t9 : Tok} (hI : IntsAre vs ns) (hlen : ns.length ≤ 30) (n1 : 1 ≤ n) (n2 : n ≤ 6100) (hP : P = 2 ^ n.toNat) (hns : ∀ x ∈ ns, 0 ≤ x ∧ x < P)
    {dp un : Nat} {gd : Option (List Code)} {cn : Str} {cs : Scope} {a : Addr} {ccd : Value} {cl : List (Str × Addr)} {outer : List Env} {A₀ : Around} {base h₀ : Heap} {L : Addr} {m : Str → Option Value} {news : List (Addr × Obj)} {s : Shared}
    {Q E : Value → Shared → Prop} (B : Below A₀ base outer h₀) (F : Fr h₀ L s.heap m) (X : (hd.heap_39 w.params).In h₀) (N : News h₀ L s.heap news) (hm : (lst, listOf vs.toArray c) ∈ news) (T : Top prog0 (looseW hd.view_39 [] ++ List.map (fun x => x.name) (recsOf hd.view_39) ++ List.map (fun x => x.fst) (litsOf hd.view_39) ++ List.map (fun x => x.name) (clssOf hd.view_39 (looseW hd.view_39 []))) mean mg mb h₀) (hk : cs.kind = .function) (hdp : dp + 2 + 104 < recursionLimit) (hu : un + 8 * 2 + 100 < cLine)
    (hret : ∀ t' h' tk', Fr h₀ L h' m → News h₀ L h' news → Q (.int (evalD P ns) t') { s with heap := h', toks := tk' }) :
    wpAny (model PySem.Challenge.rw_dn0134_10.row.prog w) (ktrTop dp un gd cn cs L a ccd cl outer) (call (.ref 63) [.ref lst, .int P t9]) Q E s := by
  (have hh : PySem.Challenge.rw_dn0134_10 = PySem.Challenge.rw_dn0134_10 ∧ hd.heap_39 = hd.heap_39 := by (k_fill; exact ⟨rfl, rfl⟩))
  clear hh
  w_top off
  k_with_none
  have hP2 := pow2_ge n1 hP
  have P0 : 0 < P := (by omega)
  have aP : Abs P := .mk
  have bP : intBits P ≤ 6102 := Nat.le_trans (bits_of_lt (k := n.toNat + 1) (by omega) (by rw [hP, Int.pow_succ]; have := ppos n.toNat; omega)) (by omega)
  k_with "abs" => (
    (with_reducible refine' abs_store ?ka ?_); (case ka => bits_by_make); intro worth9 aworth9 hworth9 bworth9)
  k_with "rev" => (k_dflt (refine' krv_reversed ?F ?N ?l ?_; (case F => k_asm); (case N => k_asm); (case l => (rename News _ _ _ _ => lN9; exact ⟨_, (lN9 _ hm).1, rfl, c, rfl⟩))); intro Drev h' F' N' lo9)
  k_with "myiter" => (
       (rename Fr _ _ _ _ => lF')
       (rename News _ _ _ _ => lN')
       (with_unfolding_all refine' kst_revL (σ := Int × Nat) (fun _ => news) (fun c => [(Str.ofString "worth", Value.int c.1 c.2)]) (fun _ => True) [] (fun pre c => Num10 P pre c.1) (worth9, _) (by rfl) hI lF' lN' (List.Mem.head _) (fun _ => hm) (fun _ => rfl) (news_sub lN' (sub1 subr)) ?koff True.intro ?kk (num10_start hworth9) ?_ ?_)
       (case koff => (exact fun p hp => Nat.ne_of_lt (lo9 p hp)))
       (case kk => kst_all)
       (all_goals (try clear lF' lN'))
       rotate_left
       (
         rintro ⟨worth, tn0⟩ kU kH kTk kFacts kInv kFr kNews
         have kMark := kstMark
         dsimp only [kstB] at kFr
         dsimp only at kNews kInv
         have hnum := num10_end kInv)
       rotate_left
       (
         rintro ⟨worth, tn0⟩ kPre kPost kN kT kU kH kTk kOwn kEq kMem kOff kFacts kInv kFr kNews
         have hIn : True := True.intro
         have kMark := kstMark
         dsimp only [kstB] at kFr
         dsimp only at kNews kInv
         have hlen9 : kPre.length ≤ 30 := (by have h9 := congrArg List.length kEq; simp only [List.length_reverse, List.length_append, List.length_cons] at h9; omega)
         have bN := num10_bits n1 n2 hP hlen9 kInv
         have aN : Abs worth := .mk
         have hdr := hns kN kMem
         have akN : Abs kN := .mk
         have bkN : intBits kN ≤ 6102 := bits_of_natAbs_le (b := P) (by omega) bP)
       (all_goals (try dsimp only))
       (all_goals (try k_fold)))
  k_with "good" => (
       (with_reducible show InvEndN _ _ _ _ _ _ _)
       (rename News _ _ _ _ => nE')
       (rename Fr _ _ _ _ => fE')
       have hpt := num10_turn P0 kInv hdr.1 hdr.2 hworth9
       (apply kst_end ⟨_, _⟩)
       (case F => k_dflt (exact fE'))
       (case N => k_dflt (exact nE'))
       (case hn => with_unfolding_all (refine led_in (own := kOwn) ?_; (repeat' (first | exact subr | (refine sub1 ?_)))))
       (case ho => (repeat' (first | exact (fun q hq => List.mem_append_right _ hq) | (refine sub1 ?_))))
       (case ha => rfl)
       (case hf => exact True.intro)
       (case hk => kst_all)
       (case hr => kst_same)
       (case hp => (exact hpt)))
  refine wpAny_call ?_
  k_dflt ktr_enter
  k_steps
  (rename News h₀ L _ _ => N9)
  (rename Fr h₀ L _ m => F9)
  subst hnum
  exact hret _ _ _ F9 N9
end Mine
namespace Mine
open PyProof.Rows.LCg PyProof.Rows.LCt
section
variable {prog : Program} {w : World} {A : Around} {E : Value → Shared → Prop} {s : Shared} {h₀ : Heap} {L : Addr} {m : Str → Option Value} {env : Env}
/-- a comprehension of ints over a range with a test -/
theorem srcRT_map {ct elt : Expr} {x : Str} {scope : Scope} {cl : List (Str × Addr)} {Fin : Shared → List Value → List (Addr × Obj) → Prop} {r : Addr} {b : Int} {t u v : Tok} {n : Nat} {news : List (Addr × Obj)} {s₁ : Shared} (p : Nat → Bool) (f : Nat → Int)
    (hh : A.handled = none) (F : Fr h₀ L s₁.heap m) (N : News h₀ L s₁.heap news) (hr : IsRange s₁.heap r 0 b 1 t u v) (hsm : Builtin.Range.small 0 b 1 = true) (hn : Builtin.Range.rangeSize 0 b 1 = ((n : Nat) : Int)) (hz : n ≤ 1000000)
    (turn : ∀ (i : Nat) t I oI C oC D m₂ h tk ys (E' : Value → Shared → Prop) (Q' : Bool → Shared → Prop), i < n → NsObj oC m₂ → m₂ x = some (.int (i : Int) t) → Fr h₀ L h m → News h₀ L h ((I, oI) :: (C, oC) :: (D, lst ys) :: news) → Off3 I C D news → ((@Ne Nat I C) ∧ (@Ne Nat I D) ∧ (@Ne Nat C D)) →
      (∀ h' tk', Fr h₀ L h' m → News h₀ L h' ((I, oI) :: (C, oC) :: (D, lst ys) :: news) → Q' (p i) { s₁ with heap := h', toks := tk' }) →
      wpAny (model prog w) A (isTrue ct (compEnvC scope cl C env) (eval ct (compEnvC scope cl C env))) Q' E' { s₁ with heap := h, toks := tk })
    (elem : ∀ (i : Nat) t I oI C oC D m₂ h tk ys (E' Q' : Value → Shared → Prop), i < n → p i = true → NsObj oC m₂ → m₂ x = some (.int (i : Int) t) → Fr h₀ L h m → News h₀ L h ((I, oI) :: (C, oC) :: (D, lst ys) :: news) → Off3 I C D news → ((@Ne Nat I C) ∧ (@Ne Nat I D) ∧ (@Ne Nat C D)) →
      (∀ t' h' tk', Fr h₀ L h' m → News h₀ L h' ((I, oI) :: (C, oC) :: (D, lst ys) :: news) → Q' (.int (f i) t') { s₁ with heap := h', toks := tk' }) →
      wpAny (model prog w) A (eval elt (compEnvC scope cl C env)) Q' E' { s₁ with heap := h, toks := tk })
    (fin : ∀ g ys, IntsAre ys (((List.range n).filter p).map f) → Fin { s₁ with heap := g } ys news) : CompSrcT prog w A h₀ L m env ct elt x scope cl Fin (.ref r) s₁ := by
  refine CompSrcT.range hh F N hr hsm hn (Nat.le_trans hz (by decide)) fun g => ?_
  have key : ∀ k i ys, i + k = n → IntsAre ys (((List.range i).filter p).map f) → CompRestT prog w A h₀ L m env ct elt x scope cl { s₁ with heap := g } (fun _ => True) (fun i v => ∃ t, v = .int (0 + (i : Int)) t) (Fin { s₁ with heap := g }) k i ys news := by
    intro k
    induction k with
    | zero =>
      intro i ys e hy
      obtain rfl : i = n := by omega
      exact CompRestT.zero (fin g ys hy)
    | succ k ih =>
      intro i ys e hy
      refine CompRestT.succ fun v I oI C oC D m₂ h tk E' hv hC hx F' N' off ne => ?_
      obtain ⟨t, e2⟩ := hv
      rw [Int.zero_add] at e2
      subst e2
      refine turn i t I oI C oC D m₂ h tk ys E' _ (by omega) hC hx F' N' off ne fun h' tk' F'' N'' => ?_
      cases hp : p i with
      | true =>
        simp only [if_true]
        refine elem i t I oI C oC D m₂ h' tk' ys E' _ (by omega) hp hC hx F'' N'' off ne fun t' h3 tk3 F3 N3 => ?_
        refine ⟨h3, tk3, news, rfl, F3, N3, off, trivial, ih (i + 1) _ (by omega) ?_⟩
        rw [List.range_succ, List.filter_append, List.map_append]
        have e3 : List.filter p [i] = [i] := by simp [hp]
        rw [e3]
        exact hy.append (.cons _ _ .nil)
      | false =>
        simp only [Bool.false_eq_true, if_false]
        refine ⟨h', tk', news, rfl, F'', N'', off, trivial, ih (i + 1) _ (by omega) ?_⟩
        rw [List.range_succ, List.filter_append, List.map_append]
        have e3 : List.filter p [i] = [] := by simp [hp]
        rw [e3, List.map_nil, List.append_nil]
        exact hy
  exact key _ _ _ (by omega) .nil
end
end Mine
namespace Mine
open PySem.Builtin.Int (intBits)
theorem filt3 : ∀ k < 3, ∀ n < 64, ((List.range n).filter (fun i => i % 3 == k)).length ≤ 21 := by decide +kernel
structure Row10 (ms : List Int) : Prop where
  b : ∀ d ∈ ms, 0 ≤ d ∧ intBits d ≤ 998
  l : ms.length ≤ 21
theorem sel10 {ss : List Int} {k : Nat} (hs : ∀ d ∈ ss, 0 ≤ d ∧ intBits d ≤ 998) (hl : ss.length ≤ 63) (hk : k < 3) : Row10 (((List.range ss.length).filter (fun i => i % 3 == k)).map fun i => ss.getD i 0) := by
  refine ⟨fun d hd => ?_, ?_⟩
  · obtain ⟨i, hi, rfl⟩ := List.mem_map.mp hd
    have h := List.mem_range.mp (List.mem_filter.mp hi).1
    exact getD_all10 hs h
  · rw [List.length_map]; exact filt3 k hk ss.length (by omega)
theorem mod3 {i k : Nat} {z : Int} (h : z = Int.fmod (i : Int) 3) : (z == (k : Int)) = (i % 3 == k) := by
  rw [h, fmodE _ (by decide)]
  have : ((i : Int) % 3 == (k : Int)) = (i % 3 == k) := by
    by_cases e : i % 3 = k
    · have e2 : (i : Int) % 3 = (k : Int) := by omega
      rw [e2, e]; simp
    · have e2 : ¬ (i : Int) % 3 = (k : Int) := by omega
      rw [beq_eq_false_iff_ne.mpr e2, beq_eq_false_iff_ne.mpr e]
  exact this
/-- the divisor's row, a step up in its last one -/
structure Div10 (ds : List Int) : Prop where
  b : ∀ d ∈ ds, 0 ≤ d ∧ intBits d ≤ 1000
  l1 : 1 ≤ ds.length
  l2 : ds.length ≤ 21
  t : 1 ≤ ds.getD (ds.length - 1) 0
theorem div10_mk {ds : List Int} {k x y : Int} (h : Row10 ds) (h1 : 1 ≤ ds.length) (hk : k = -1) (hx : ds.getD (k + ds.length).toNat 0 = x) (hy : y = x + 1) : Div10 (ds.set (k + ds.length).toNat y) := by
  subst hk
  have e : ((-1 : Int) + (ds.length : Int)).toNat = ds.length - 1 := by omega
  rw [e] at hx ⊢
  have hb := getD_all10 h.b (k := ds.length - 1) (by omega)
  rw [hx] at hb
  have hyb : intBits y ≤ 1000 := by
    rw [hy]; exact Nat.le_trans (bits_add hb.2 (n := 1) (by decide)) (by decide)
  refine ⟨fun d hd => ?_, by rw [List.length_set]; exact h1, by rw [List.length_set]; exact h.l, ?_⟩
  · rcases mem_set hd with e | hd
    · rw [e]; exact ⟨by omega, hyb⟩
    · exact ⟨(h.b d hd).1, Nat.le_trans (h.b d hd).2 (by decide)⟩
  · rw [List.length_set, List.getD_eq_getElem?_getD, List.getElem?_set_self (by omega)]
    show 1 ≤ y
    omega
structure Add10 (ms es : List Int) (j : Nat) (row : List Int) : Prop where
  len : row.length = ms.length
  e : ∀ P, evalD P row = evalD P ms + evalD P (es.take j)
  b : ∀ d ∈ row, 0 ≤ d ∧ d ≤ 2 ^ 2011 + (j : Int) * 2 ^ 1000
theorem Add10.start {ms es : List Int} (h : ∀ d ∈ ms, 0 ≤ d ∧ intBits d ≤ 2011) : Add10 ms es 0 ms := by
  refine ⟨rfl, fun P => by rw [List.take_zero, evalD, Int.add_zero], fun d hd => ⟨(h d hd).1, ?_⟩⟩
  have := lt_of_bits (h d hd).2
  rw [Int.natCast_zero, Int.zero_mul]; omega
theorem Add10.turn {ms es row : List Int} {pre : List Int} {k k9 x : Int} (H : Add10 ms es pre.length row) (hj : pre.length < es.length) (hl : es.length ≤ ms.length) (hk : k = (pre.length : Int)) (hx : es.getD k.toNat 0 = x) (x0 : 0 ≤ x) (xb : intBits x ≤ 1000) :
    Add10 ms es (pre ++ [k9]).length (row.set k.toNat (row.getD k.toNat 0 + x)) := by
  have e : (pre ++ [k9]).length = pre.length + 1 := by simp
  have e2 : k.toNat = pre.length := by omega
  rw [e2] at hx ⊢
  rw [e]
  have hr : pre.length < row.length := by rw [H.len]; omega
  have hbk := getD_all10 H.b hr
  have xl := lt_of_bits xb
  have e1 : ((pre.length + 1 : Nat) : Int) * 2 ^ 1000 = (pre.length : Int) * 2 ^ 1000 + 2 ^ 1000 := by
    rw [Int.natCast_add, Int.add_mul]; simp
  generalize hA : (2 : Int) ^ 2011 = A at *
  generalize hB : (2 : Int) ^ 1000 = B at *
  refine ⟨by rw [List.length_set]; exact H.len, fun P => ?_, fun d hd => ?_⟩
  · rw [evalD_set P row pre.length x hr, H.e P, evalD_take P hj, hx]; omega
  · rw [hA, hB, e1]
    have h9 := H.b
    rw [hA, hB] at h9
    rcases mem_set hd with e | hd
    · rw [e]; omega
    · have := h9 d hd; omega
theorem Add10.done {ms es row : List Int} (H : Add10 ms es es.length row) (hl : es.length ≤ 21) : row.length = ms.length ∧ (∀ P, evalD P row = evalD P ms + evalD P es) ∧ ∀ d ∈ row, 0 ≤ d ∧ intBits d ≤ 2012 := by
  refine ⟨H.len, fun P => by rw [H.e P, List.take_length], fun d hd => ?_⟩
  have h := H.b d hd
  refine ⟨h.1, bits_of_lt h.1 ?_⟩
  have h2 : (es.length : Int) * 2 ^ 1000 ≤ 21 * 2 ^ 1000 := mul_le_of (Int.le_of_lt (ppos _)) (by omega)
  have e1 : (2 : Int) ^ 2012 = 2 ^ 2011 + 2 ^ 2011 := by rw [Int.pow_succ]; omega
  have e2 : (2 : Int) ^ 2011 = 2 ^ 1011 * 2 ^ 1000 := by rw [← Int.pow_add]
  have h3 : (32 : Int) * 2 ^ 1000 ≤ 2 ^ 1011 * 2 ^ 1000 := by
    refine mul_le_of (Int.le_of_lt (ppos _)) ?_
    have := pmono (i := 5) (j := 1011) (by decide)
    have e5 : (2 : Int) ^ 5 = 32 := by decide
    rw [e5] at this; exact this
  have hp := ppos 1000
  have h4 := h.2
  rw [e1]
  rw [← e2] at h3
  generalize (2 : Int) ^ 2011 = A at *
  generalize (2 : Int) ^ 1000 = B at *
  omega
theorem evalD_nn {P : Int} (hP : 0 ≤ P) : ∀ ds : List Int, (∀ d ∈ ds, 0 ≤ d) → 0 ≤ evalD P ds
  | [], _ => Int.le_refl _
  | d :: r, h => by
    rw [evalD]
    exact Int.add_nonneg (h d (.head _)) (Int.mul_nonneg hP (evalD_nn hP r fun x hx => h x (.tail _ hx)))
theorem evalD_ge {P : Int} (hP : 0 < P) : ∀ ds : List Int, (∀ d ∈ ds, 0 ≤ d) → 1 ≤ ds.length → 1 ≤ ds.getD (ds.length - 1) 0 → P ^ (ds.length - 1) ≤ evalD P ds
  | [d], _, _, ht => by
    show P ^ 0 ≤ d + P * 0
    have : (1 : Int) ≤ d := ht
    rw [Int.pow_zero, Int.mul_zero, Int.add_zero]; exact this
  | d :: e :: r, h, _, ht => by
    have ih := evalD_ge hP (e :: r) (fun x hx => h x (.tail _ hx)) (by simp) (by simpa using ht)
    have hd := h d (.head _)
    show P ^ ((e :: r).length - 1 + 1) ≤ d + P * evalD P (e :: r)
    rw [Int.pow_succ, Int.mul_comm]
    have := Int.mul_le_mul_of_nonneg_left ih (Int.le_of_lt hP)
    omega
/-- one division of whole numbers divides the rows -/
theorem fin10 {P x b q r : Int} {qs ds es ms dv : List Int} (hP : 0 < P) (hq : ∀ d ∈ qs, 0 ≤ d ∧ d < P) (hr : ∀ d ∈ es, 0 ≤ d ∧ d < P) (hd : Div10 ds) (hl : es.length + 1 ≤ ds.length) (h1 : evalD P ms = evalD P qs * evalD P ds) (h2 : evalD P dv = evalD P ms + evalD P es)
    (hx : evalD P dv = x) (hb : evalD P ds = b) (hqe : evalD P qs = q) (hre : evalD P es = r) : 1 ≤ b ∧ x / b = q ∧ x % b = r ∧ 0 ≤ q ∧ 0 ≤ r ∧ 0 ≤ x := by
  have hge := evalD_ge hP ds (fun d h => (hd.b d h).1) hd.l1 hd.t
  have hrr := evalD_range hP es hr
  have hqn := evalD_nn (Int.le_of_lt hP) qs fun d h => (hq d h).1
  have hpw : P ^ es.length ≤ P ^ (ds.length - 1) := by
    obtain ⟨k, hk⟩ : ∃ k, ds.length - 1 = es.length + k := ⟨ds.length - 1 - es.length, by omega⟩
    rw [hk, Int.pow_add]
    have h5 : 0 < P ^ k := Int.pow_pos hP
    have h6 : 0 < P ^ es.length := Int.pow_pos hP
    have := Int.mul_le_mul_of_nonneg_left (show 1 ≤ P ^ k by omega) (Int.le_of_lt h6)
    omega
  have hP1 : 0 < P ^ (ds.length - 1) := Int.pow_pos hP
  rw [h1, hx, hqe, hb, hre] at h2
  rw [hb] at hge
  rw [hre] at hrr
  rw [hqe] at hqn
  have hb0 : 0 < b := by omega
  have hrb : r < b := by omega
  have hqb : 0 ≤ q * b := Int.mul_nonneg hqn (by omega)
  have u := uniqNN (b := b) (q := x / b) (r := x % b) (q' := q) (r' := r) (by rw [← h2, Int.mul_comm]; exact Int.mul_ediv_add_emod x b) (Int.emod_nonneg _ (by omega)) (Int.emod_lt_of_pos _ hb0) hrr.1 hrb
  exact ⟨by omega, u.1, u.2, hqn, hrr.1, by omega⟩
theorem digP {ms : List Int} {w n : Int} (h : ∀ d ∈ ms, 0 ≤ d ∧ intBits d ≤ 998) (hw : ∀ d ∈ ms, d ≤ w) (hn : (intBits w : Int) ≤ n) : ∀ d ∈ ms, 0 ≤ d ∧ d < 2 ^ n.toNat := by
  intro d hd
  have h0 := (h d hd).1
  have h1 := hw d hd
  refine ⟨h0, ?_⟩
  have h2 : w < 2 ^ intBits w := lt_of_bits (Nat.le_refl _)
  have h3 := pmono (i := intBits w) (j := n.toNat) (by omega)
  omega
theorem row10_bits {ms : List Int} {n : Int} (n1 : 1 ≤ n) (n2 : n ≤ 6100) (h : ∀ d ∈ ms, 0 ≤ d ∧ d < 2 ^ n.toNat) (hl : ms.length ≤ 21) : intBits (evalD (2 ^ n.toNat) ms) ≤ 128100 := by
  have hr := evalD_range (ppos n.toNat) ms h
  have hlt := hr.2
  rw [← Int.pow_mul] at hlt
  refine Nat.le_trans (bits_of_lt hr.1 hlt) ?_
  have : n.toNat * ms.length ≤ 6100 * 21 := Nat.mul_le_mul (by omega) hl
  omega
section
variable {prog : Program} {w : World} {A : Around} {E : Value → Shared → Prop} {s : Shared} {h₀ : Heap} {L D : Addr} {m : Str → Option Value} {news news' : List (Addr × Obj)} {vs : List Value} {ns : List Int} {n : Nat} {k x : Int} {t u : Tok}
theorem ksa_setNeg {Q : Unit → Shared → Prop} (F : Fr h₀ L s.heap m) (N : News h₀ L s.heap news) (U : Upd D (listOf vs.toArray n) (listOf (vs.set (k + ns.length).toNat (.int x u)).toArray n) news news') (hi : IntsAre vs ns) (h0 : k < 0) (h1 : -(ns.length : Int) ≤ k) (hfit : -(2 ^ 63) ≤ k)
    (h : ∀ h', Fr h₀ L h' m → News h₀ L h' news' → IntsAre (vs.set (k + ns.length).toNat (.int x u)) (ns.set (k + ns.length).toNat x) → Q () { s with heap := h' }) :
    wpAny (model prog w) A (setItem (.ref D) (.int k t) (.int x u)) Q E s := by
  obtain ⟨pre, post, rfl, rfl, a, b⟩ := U.split
  have z := N (D, listOf vs.toArray n) (List.mem_append.mpr (.inr (.head _)))
  have hs : vs.toArray.size = ns.length := by rw [List.size_toArray]; exact hi.length
  refine ki_setBack z.1 h0 (by rw [hs]; exact h1) hfit (h _ (F.change (Heap.SameBut.update ..) z.2.1 z.2.2) (ki_turn _ N a b ?_ ?_) (ints_set hi _))
  · show vs.toArray.setIfInBounds (k + vs.toArray.size).toNat (.int x u) = (vs.set (k + ns.length).toNat (.int x u)).toArray
    rw [hs]
    apply Array.toList_inj.mp
    simp
  · simp
theorem itemNegE {value slice : Expr} {l : Addr} {c : Nat} {Q : Value → Shared → Prop} (N : News h₀ L s.heap news) (hm : (l, listOf vs.toArray c) ∈ news) (hi : IntsAre vs ns) (h0 : k < 0) (h1 : -(ns.length : Int) ≤ k) (hfit : -(2 ^ 63) ≤ k) (hx : ns.getD (k + ns.length).toNat 0 = x) (h : ∀ t, Q (.int x t) s)
    (hs : subscripted slice false (.ref l) (.int k u) = operate [.ref l, .int k u] (getItem (.ref l) (.int k u)) := by with_unfolding_all rfl) (hg : ∀ r, letTemporaryGo value (.ref l) r = pure () := by intro _; with_unfolding_all rfl) :
    wpAny (model prog w) A (subscriptTail value slice (.ref l) (.int k u)) Q E s :=
  item_list_ints_neg ⟨_, (N _ hm).1, rfl, c, rfl⟩ hi h0 h1 hfit (fun t => by rw [hx]; exact h t) hs hg
theorem eq_lists_t {a b : Addr} {us : List Value} {c d : Nat} {Q : Value → Shared → Prop} (N : News h₀ L s.heap news) (h1 : (a, listOf vs.toArray c) ∈ news) (h2 : (b, listOf us.toArray d) ∈ news) (hi : IntsAre vs ns) (hj : IntsAre us ns) (hu : A.units + 64 < cLine) (h : Q (.bool true) s) :
    wpAny (model prog w) A (compareOp .Eq (.ref a) (.ref b)) Q E s :=
  ke_eq_ints ⟨_, (N _ h1).1, rfl, c, rfl⟩ ⟨_, (N _ h2).1, rfl, d, rfl⟩ hi hj hu (by simpa using h)
end
end Mine
-- PARTS: math.txt math_rev.txt mont.txt nest.txt div.txt call.txt dig.txt dig2.txt dig3.txt int2a.txt int2b.txt int3.txt dm1.txt dm2.txt dm3.txt slice.txt law11a.txt law11b.txt int4.txt dig4.txt comp.txt law10a.txt law10b.txt revl.txt law10c.txt comp4.txt law10d.txt
namespace Mine
open PySem.Builtin.Int (intBits)
theorem join_cell {prog : Program} {w : World} {A : Around} {e : Sem Flow} {Q : Flow → Shared → Prop} {E : Value → Shared → Prop} {s : Shared} {h₀ : Heap} {L cA : Addr} {m : Str → Option Value} {oA : Obj} {rest : List (Addr × Obj)} (R : Int → Int → Prop) (F : Fr h₀ L s.heap m) (N : News h₀ L s.heap ((cA, oA) :: rest))
    (h1 : ∀ Q' : Flow → Shared → Prop, (∀ most t o room u h' tk, R most room → o.data = .cell (some (.int most t)) → Fr h₀ L h' (fun y => if y = Str.ofString "room" then some (.int room u) else m y) → News h₀ L h' ((cA, o) :: rest) → Q' .next { s with heap := h', toks := tk }) → wpAny (model prog w) A e Q' E s)
    (h2 : ∀ most t o room u h' tk, Abs most → Abs room → R most room → o.data = .cell (some (.int most t)) → Fr h₀ L h' (fun y => if y = Str.ofString "room" then some (.int room u) else m y) → News h₀ L h' ((cA, o) :: rest) → Q .next { s with heap := h', toks := tk }) : wpAny (model prog w) A e Q E s := h1 Q fun most t o room u h' tk => h2 most t o room u h' tk .mk .mk
theorem fr_sameV {h₀ h : Heap} {L : Addr} {m : Str → Option Value} {name : Str} {v : Value} (F : Fr h₀ L h m) (e : m name = some v) : Fr h₀ L h (fun y => if y = name then some v else m y) := by
  have e2 : (fun y => if y = name then some v else m y) = m := by
    funext y
    by_cases hy : y = name
    · rw [if_pos hy, hy, e]
    · rw [if_neg hy]
  rw [e2]; exact F
theorem sizes10 {ys : List Value} {l : List Int} {most : Int} (h : IntsAre ys (List.map (fun k' => (if k' < 0 then -k' else k').fmod most) l)) (hm : 1 ≤ most) (hb : intBits most ≤ 998) (hl : l.length ≤ 63) : ∃ ss, IntsAre ys ss ∧ (∀ d ∈ ss, 0 ≤ d ∧ intBits d ≤ 998) ∧ ss.length ≤ 63 ∧ (List.map (fun k' => (if k' < 0 then -k' else k').fmod most) l).length = ss.length := by
  refine ⟨_, h, fun d hd => ?_, by rw [List.length_map]; exact hl, rfl⟩
  obtain ⟨x, _, rfl⟩ := List.mem_map.mp hd
  have hf := fmodB (if x < 0 then -x else x) (b := most) (by omega)
  exact ⟨hf.1, bits_of_natAbs_le (b := most) (by omega) hb⟩
theorem rsm10 {k : Nat} (h : k ≤ 1000000) : Builtin.Range.small 0 (k : Int) 1 = true := small_one (by decide) (by decide) (by omega) (by omega)
theorem mod3d {i k : Nat} {z : Int} (h : z = Int.fmod (i : Int) 3) : decide (z = (k : Int)) = (i % 3 == k) := by
  rw [← mod3 h]; rfl
theorem gen10 {vs : List Value} {l : List Int} (h : IntsAre vs l) (hr : Row10 l) : ∃ z, IntsAre vs z ∧ Row10 z := ⟨_, h, hr⟩
theorem join_rowQ {prog : Program} {w : World} {A : Around} {e : Sem Flow} {Q : Flow → Shared → Prop} {E : Value → Shared → Prop} {s : Shared} {h₀ : Heap} {L : Addr} {m : Str → Option Value} {news : List (Addr × Obj)} (name : Str) (F : Fr h₀ L s.heap m) (N : News h₀ L s.heap news)
    (h1 : ∀ Q' : Flow → Shared → Prop, (∀ D vs rs c h' tk, (Row10 rs ∧ 1 ≤ rs.length) → IntsAre vs rs → Fr h₀ L h' (fun y => if y = name then some (.ref D) else m y) → News h₀ L h' ((D, listOf (List.toArray vs) c) :: news) → (∀ p ∈ news, p.1 ≠ D) → Q' .next { s with heap := h', toks := tk }) → wpAny (model prog w) A e Q' E s)
    (h2 : ∀ D vs rs c h' tk, (Row10 rs ∧ 1 ≤ rs.length) → IntsAre vs rs → Fr h₀ L h' (fun y => if y = name then some (.ref D) else m y) → News h₀ L h' ((D, listOf (List.toArray vs) c) :: news) → (∀ p ∈ news, p.1 ≠ D) → Q .next { s with heap := h', toks := tk }) : wpAny (model prog w) A e Q E s := h1 Q h2
theorem join_two {prog : Program} {w : World} {A : Around} {e : Sem Flow} {Q : Flow → Shared → Prop} {E : Value → Shared → Prop} {s : Shared} {h₀ : Heap} {L : Addr} {m : Str → Option Value} {news : List (Addr × Obj)} (F : Fr h₀ L s.heap m) (N : News h₀ L s.heap news)
    (h1 : ∀ Q' : Flow → Shared → Prop, (∀ D1 v1 r1 c1 D2 v2 r2 c2 h' tk, (Row10 r1 ∧ 1 ≤ r1.length) → Row10 r2 → IntsAre v1 r1 → IntsAre v2 r2 → Fr h₀ L h' (fun y => if y = Str.ofString "rest" then some (.ref D2) else if y = Str.ofString "divisor" then some (.ref D1) else m y) → News h₀ L h' ((D1, listOf (List.toArray v1) c1) :: (D2, listOf (List.toArray v2) c2) :: news) → @Ne Nat D1 D2 → (∀ p ∈ news, p.1 ≠ D1) → (∀ p ∈ news, p.1 ≠ D2) → Q' .next { s with heap := h', toks := tk }) → wpAny (model prog w) A e Q' E s)
    (h2 : ∀ D1 v1 r1 c1 D2 v2 r2 c2 h' tk, (Row10 r1 ∧ 1 ≤ r1.length) → Row10 r2 → IntsAre v1 r1 → IntsAre v2 r2 → Fr h₀ L h' (fun y => if y = Str.ofString "rest" then some (.ref D2) else if y = Str.ofString "divisor" then some (.ref D1) else m y) → News h₀ L h' ((D1, listOf (List.toArray v1) c1) :: (D2, listOf (List.toArray v2) c2) :: news) → @Ne Nat D1 D2 → (∀ p ∈ news, p.1 ≠ D1) → (∀ p ∈ news, p.1 ≠ D2) → Q .next { s with heap := h', toks := tk }) : wpAny (model prog w) A e Q E s := h1 Q h2
theorem row305 : Row10 [3, 0, 5] ∧ 1 ≤ [(3 : Int), 0, 5].length := ⟨⟨by decide, by decide⟩, by decide⟩
theorem row71 : Row10 [7, 1] ∧ 1 ≤ [(7 : Int), 1].length := ⟨⟨by decide, by decide⟩, by decide⟩
theorem row6 : Row10 [6] := ⟨by decide, by decide⟩
theorem len_of10 {l : List Int} (h : decide (l = []) = false) : 1 ≤ l.length := List.length_pos_iff.mpr (of_decide_eq_false h)
theorem genD {vs : List Value} {l : List Int} (h : IntsAre vs l) (hr : Div10 l) : ∃ z, IntsAre vs z ∧ Div10 z := ⟨_, h, hr⟩
theorem genR {vs : List Value} {l ds : List Int} {k : Int} (h : IntsAre vs (l.take k.toNat)) (hr : Row10 l) (hk : k = (ds.length : Int) - 1) (h1 : 1 ≤ ds.length) : ∃ z, IntsAre vs z ∧ Row10 z ∧ z.length + 1 ≤ ds.length :=
  ⟨_, h, ⟨fun d hd => hr.b d (List.mem_of_mem_take hd), by rw [List.length_take]; have := hr.l; omega⟩, by rw [List.length_take]; omega⟩
theorem wid10 {qs es : List Int} {w : Int} (hq : Row10 qs) (he : Row10 es) (h1 : 1 ≤ qs.length) (hm : w ∈ qs ++ es) : 0 ≤ w ∧ intBits w ≤ 998 := by
  rcases List.mem_append.mp hm with h | h
  · exact hq.b w h
  · exact he.b w h
theorem n10 {w z n : Int} (hm : n ∈ [1, (intBits w : Int) + z]) (ha : ∀ a, a ∈ [1, (intBits w : Int) + z] → a ≤ n) (hb : intBits w ≤ 998) (z0 : 0 ≤ z) (z1 : z < 5000) : 1 ≤ n ∧ (intBits w : Int) ≤ n ∧ n ≤ 6100 := by
  have h1 := ha 1 (.head _)
  have h2 := ha _ (.tail _ (.head _))
  refine ⟨h1, by omega, ?_⟩
  rcases List.mem_cons.mp hm with h | h
  · omega
  · have := List.mem_singleton.mp h; omega
theorem nl10 {n : Int} {B k : Nat} (n1 : 1 ≤ n) (n2 : n ≤ 6100) (hk : k ≤ 63) (hB : B ≤ 3000) : (B : Int) + n * k + k ≤ 10000000 := by
  have h : n * (k : Int) ≤ 6100 * (k : Int) := mul_le_of (by omega) n2
  omega
theorem evalB {ns : List Int} {n : Int} {B N : Nat} (n1 : 1 ≤ n) (n2 : n ≤ 6100) (hb : ∀ x ∈ ns, intBits x ≤ B) (hl : 1 ≤ ns.length) (hN : (B : Int) + 6100 * ns.length + ns.length ≤ N) : intBits (evalD (2 ^ n.toNat) ns) ≤ N := by
  have h := inner_bits' (n := n) (l := 0) (r := (ns.length : Int)) (N := N) (by omega) hb (Int.le_refl _) (by omega) (Int.le_refl _) (by
    have h : n * (ns.length : Int) ≤ 6100 * (ns.length : Int) := mul_le_of (by omega) n2
    omega)
  rw [Int.toNat_zero, Int.toNat_natCast, cutD_all] at h
  exact h
abbrev restT {a b : Nat} (_ : @Ne Nat a b) (x y : Obj) : List (Addr × Obj) := [(a, x), (b, y)]
theorem offT2 {a b P : Nat} {x y : Obj} {h0 : @Ne Nat a b} (h : @Ne Nat P a) (h2 : @Ne Nat P b) : ∀ p ∈ restT h0 x y, p.1 ≠ P := by
  intro p hp
  rcases List.mem_cons.mp hp with rfl | hp
  · exact fun e => h e.symm
  · rw [List.mem_singleton.mp hp]
    exact fun e => h2 e.symm
theorem TabF.ne10 {P : Addr} {line col : Nat} {ql : Str} {X Y : Obj} {C : Addr} (h : TabF P line col ql X C Y) : @Ne Nat C P := h.2.1
theorem TabF.offT10 {P P2 : Addr} {l1 c1 l2 c2 : Nat} {q1 q2 : Str} {X Y X2 Y2 : Obj} {C C2 : Addr} {h₀ h : Heap} {L : Addr} {news : List (Addr × Obj)} (H : TabF P l1 c1 q1 X C Y) (N : News h₀ L h news) (hC : (C, Y) ∈ news) (hP : (P2, X2) ∈ news) (H2 : TabS P2 l2 c2 q2 X2 C2 Y2) (hne : P ≠ P2) : @Ne Nat C P2 := H.toS.apart N H2 hC hP hne
theorem most300 : 1 ≤ (10 : Int) ^ Int.toNat 300 + 1 ∧ intBits ((10 : Int) ^ Int.toNat 300 + 1) ≤ 998 := by decide +kernel
theorem most30 : 1 ≤ (10 : Int) ^ Int.toNat 30 + 1 ∧ intBits ((10 : Int) ^ Int.toNat 30 + 1) ≤ 998 := by decide +kernel
local macro_rules | `(tactic| bits_by_make) => `(tactic| with_reducible assumption)
local macro_rules | `(tactic| walk_at "storeName") => `(tactic| ((fail_if_success (with_reducible rename KPfMark => zMk)); (fail_if_success ((with_reducible refine abs_skip ?ka ?kb); (case ka => with_reducible assumption))); k_extra "abs"))
local macro_rules | `(tactic| walk_at "binaryOp Pow int int") => `(tactic| ((fail_if_success (with_reducible rename KPfMark => zMk)); (with_reducible refine' pow3_z ?ka ?kb ?_); (case ka => bits_by_make); (case kb => decide); k_extra "intro3"))
local macro_rules | `(tactic| walk_at "binaryOp Pow int int") => `(tactic| ((fail_if_success (with_reducible rename KPfMark => zMk)); (with_reducible refine pow2_p (N := 20000) ?kb1 ?kb2 ?kb3 ?_); (case kb1 => omega); (case kb2 => omega); (case kb3 => decide); k_extra "introP"))
local macro_rules | `(tactic| walk_at "binaryOp Mod int int") => `(tactic| ((fail_if_success (with_reducible rename KPfMark => zMk)); (with_reducible refine' mod_p ?ka ?kb ?_); (case ka => first | decide | assumption | k_extra "pos"); (case kb => bits_by_make); k_extra "introM"))
local macro_rules | `(tactic| walk_at "call ref") => `(tactic| k_extra "mycall")
local macro_rules | `(tactic| walk_at "binaryOp LShift int int") => `(tactic| ((fail_if_success (with_reducible rename KPfMark => zMk)); (with_reducible refine' shl_p (N := 40000) ?kb1 ?kb2 ?kb3 ?kb4 ?_); (case kb1 => omega); (case kb2 => bits_by_make); (case kb3 => omega); (case kb4 => decide); k_extra "introS"))
local macro_rules | `(tactic| walk_at "binaryOp RShift int int") => `(tactic| ((fail_if_success (with_reducible rename KPfMark => zMk)); (with_reducible refine' shr_p ?kb1 ?kb2 ?_); (case kb1 => omega); (case kb2 => bits_by_make); k_extra "introS"))
local macro_rules | `(tactic| walk_at "execs cons") => `(tactic| ((with_reducible refine gen_toks ?_); intro tk; (with_reducible refine wpAny_execs_cons ?_); try dsimp only))
local macro_rules | `(tactic| walk_at "execs nil") => `(tactic| ((with_reducible refine gen_toks ?_); intro tk; (with_reducible refine wpAny_execs_nil ?_)))
local macro_rules | `(tactic| walk_at "binaryOp Mult int int") => `(tactic| ((with_reducible refine' mul_p ?kb1 ?kb2 ?kb3 ?_); (case kb1 => bits_by_make); (case kb2 => bits_by_make); (case kb3 => decide)))
local macro_rules | `(tactic| walk_at "exec If Compare cons nil") => `(tactic| k_extra "joinif")
local macro_rules | `(tactic| walk_at "exec Assign cons ListComp") => `(tactic| (k_here; (with_reducible show wpAny _ _ (exec (Stmt.Assign _ (Expr.ListComp _ [⟨_, _, [_], _⟩] _ _) _) _) _ _ _); k_dflt (refine LCt.Assign_ListComp_T (F₀ := by k_asm) (by rfl) (by with_unfolding_all rfl) (by with_unfolding_all rfl) (by decide) (by rfl) (by decide) (by rfl) (by rfl) (by rfl) ?_)))
local macro_rules | `(tactic| walk_at "subscriptTail Name Name ref int") => `(tactic| k_extra "item")
local macro_rules | `(tactic| k_ne) => `(tactic| (refine neN ?_; (try dsimp only); first | (with_reducible assumption) | (with_reducible exact Ne.symm (by assumption))))
local macro_rules | `(tactic| kc_close) => `(tactic| k_extra "good")
local macro_rules | `(tactic| walk_at "GrownAll") => `(tactic| k_extra "grown")
local macro_rules | `(tactic| walk_at "subscriptTail Name UnaryOp ref int") => `(tactic| k_extra "itemN")
local macro_rules | `(tactic| walk_at "setItem ref int int") => `(tactic| k_extra "set")
local macro_rules | `(tactic| walk_at "call builtin:len") => `(tactic| k_extra "len")
local macro_rules | `(tactic| walk_at "subscriptTail Name Slice ref ref") => `(tactic| k_extra "cut")
local macro_rules | `(tactic| walk_at "call builtin:max") => `(tactic| k_extra "max")
local macro_rules | `(tactic| walk_at "pyIter ref") => `(tactic| k_extra "myiter")
local macro_rules | `(tactic| walk_at "exec For Name Call cons nil") => `(tactic| (k_here; (rename Fr _ _ _ _ => lF'); (with_unfolding_all refine' For_invVF lF' ?k1 ?k2 ?_; (case k1 => exact rfl); (case k2 => exact rfl); k_whole)))
local macro_rules | `(tactic| walk_at "compareOp Eq ref ref") => `(tactic| k_extra "eqlist")
local macro_rules | `(tactic| walk_at "CompSrcT") => `(tactic| k_extra "srcRT")
set_option maxRecDepth 100000 in
set_option maxHeartbeats 8000000 in
theorem X : PySem.Challenge.rw_dn0134_10.Holds := hd (by
  w_top off
  k_with_none
  k_with "joinif" => (
    (fail_if_success (have := hjn))
    first
    | (
      (fail_if_success (have := hmost1))
      (rename Fr _ _ _ _ => lF')
      (rename News _ _ _ _ => lN')
      (with_unfolding_all refine' join_cell (fun most room => 1 ≤ most ∧ intBits most ≤ 998 ∧ 1 ≤ room ∧ room ≤ 5000) lF' (news_sub lN' (List.forall_mem_cons.mpr ⟨.tail _ (.tail _ (.tail _ (.head _))), List.forall_mem_cons.mpr ⟨.tail _ (.head _), List.forall_mem_cons.mpr ⟨.tail _ (.tail _ (.head _)), List.forall_mem_cons.mpr ⟨.tail _ (.tail _ (.tail _ (.tail _ (.head _)))), List.forall_mem_cons.mpr ⟨.tail _ (.tail _ (.tail _ (.tail _ (.tail _ (.head _))))), List.forall_mem_nil _⟩⟩⟩⟩⟩)) ?kh1 ?_)
      (case kh1 => (
        intro Q' hQ'
        have hjn : True := True.intro
        k_dflt (k_steps)
        all_goals ((rename News _ _ _ _ => lN9); refine' hQ' _ _ _ _ _ _ _ ?kR ?kd ?kfr ?kn; (case kfr => first | k_asm | exact fr_sameV (name := Str.ofString "room") (v := Value.int _ _) (by k_asm) (by with_unfolding_all rfl)); (case kn => with_unfolding_all exact news_sub lN9 (List.forall_mem_cons.mpr ⟨by k_mem, List.forall_mem_cons.mpr ⟨by k_mem, List.forall_mem_cons.mpr ⟨by k_mem, List.forall_mem_cons.mpr ⟨by k_mem, List.forall_mem_cons.mpr ⟨by k_mem, List.forall_mem_nil _⟩⟩⟩⟩⟩)); (case kd => assumption); (case kR => first | exact ⟨most300.1, most300.2, by omega, by omega⟩ | exact ⟨most30.1, most30.2, by omega, by omega⟩))))
      intro most tmost oMost room troom h' tk' amost aroom hR9 hoM F' N'
      obtain ⟨hmost1, hmost2, hroom1, hroom2⟩ := hR9
      have broom : intBits room ≤ 13 := bits_of_lt (by omega) (show room < 2 ^ 13 by (have e13 : (2 : Int) ^ 13 = 8192 := by decide); omega)
      (try dsimp only)
      (try k_fold))
    | (
      (with_reducible show wpAny _ _ (exec (Stmt.If (Expr.Compare (Expr.Name (Str.ofString "quotient") _) _ _ _) _ _ _) _) _ _ _)
      (rename Fr _ _ _ _ => lF')
      (rename News _ _ _ _ => lN')
      (with_unfolding_all refine' join_rowQ (Str.ofString "quotient") lF' (news_sub lN' (List.forall_mem_cons.mpr ⟨.head _, List.forall_mem_cons.mpr ⟨.tail _ (.head _), List.forall_mem_cons.mpr ⟨.tail _ (.tail _ (.tail _ (.tail _ (.tail _ (.head _))))), List.forall_mem_cons.mpr ⟨.tail _ (.tail _ (.tail _ (.tail _ (.tail _ (.tail _ (.tail _ (.head _))))))), List.forall_mem_cons.mpr ⟨.tail _ (.tail _ (.tail _ (.tail _ (.tail _ (.tail _ (.tail _ (.tail _ (.head _)))))))), List.forall_mem_nil _⟩⟩⟩⟩⟩)) ?kh1 ?_)
      (case kh1 => (
        intro Q' hQ'
        have hjn : True := True.intro
        k_dflt (k_steps)
        all_goals (first
          | ((rename News _ _ _ _ => lN9); refine' hQ' _ _ _ _ _ _ row305 ?kints ?kfr ?knews ?kne; (case kfr => k_asm); (case knews => with_unfolding_all exact news_sub lN9 (List.forall_mem_cons.mpr ⟨by k_mem, by (repeat' (first | exact List.forall_mem_nil _ | (refine List.forall_mem_cons.mpr ⟨by k_mem, ?_⟩)))⟩)); (case kints => exact .cons _ _ (.cons _ _ (.cons _ _ .nil))); (case kne => k_all))
          | ((rename News _ _ _ _ => lN9); refine' hQ' _ _ _ _ _ _ ⟨hRq0, len_of10 (by assumption)⟩ hIq0 ?kfr ?knews ?kne; (case kfr => exact fr_sameV (name := Str.ofString "quotient") (by k_asm) (by with_unfolding_all rfl)); (case knews => with_unfolding_all exact news_sub lN9 (List.forall_mem_cons.mpr ⟨by k_mem, by (repeat' (first | exact List.forall_mem_nil _ | (refine List.forall_mem_cons.mpr ⟨by k_mem, ?_⟩)))⟩)); (case kne => k_all)))))
      intro Dq qv qs cq h' tk' hRq hIq F' N' hneQ
      obtain ⟨hRq, hq1⟩ := hRq
      simp only [List.forall_mem_cons] at hneQ
      obtain ⟨hneQ1, hneQ2, hneQ3, hneQ4, hneQ5, _⟩ := hneQ
      have hmQ1 : @Ne Nat _ Dq := hneQ1
      have hmQ2 : @Ne Nat _ Dq := hneQ2
      have hmQ3 : @Ne Nat _ Dq := hneQ3
      have hneQd : @Ne Nat 37 Dq := hneQ4
      have hneQi : @Ne Nat 30 Dq := hneQ5
      (try dsimp only)
      (try k_fold))
    | (
      (with_reducible show wpAny _ _ (exec (Stmt.If (Expr.Compare (Expr.Name (Str.ofString "divisor") _) _ _ _) _ _ _) _) _ _ _)
      (rename Fr _ _ _ _ => lF')
      (rename News _ _ _ _ => lN')
      (with_unfolding_all refine' join_two lF' (news_sub lN' (List.forall_mem_cons.mpr ⟨.head _, List.forall_mem_cons.mpr ⟨.tail _ (.tail _ (.tail _ (.head _))), List.forall_mem_cons.mpr ⟨.tail _ (.tail _ (.tail _ (.tail _ (.head _)))), List.forall_mem_cons.mpr ⟨.tail _ (.tail _ (.tail _ (.tail _ (.tail _ (.head _))))), List.forall_mem_nil _⟩⟩⟩⟩)) ?kh1 ?_)
      (case kh1 => (
        intro Q' hQ'
        have hjn : True := True.intro
        k_dflt (k_steps)
        all_goals (first
          | ((rename News _ _ _ _ => lN9); refine' hQ' _ _ _ _ _ _ _ _ _ _ row71 row6 ?kints ?kints2 ?kfr ?knews ?kne0 ?kne ?kne2; (case kfr => k_asm); (case knews => with_unfolding_all exact news_sub lN9 (by (repeat' (first | exact List.forall_mem_nil _ | (refine List.forall_mem_cons.mpr ⟨by k_mem, ?_⟩))))); (case kints => exact .cons _ _ (.cons _ _ .nil)); (case kints2 => exact .cons _ _ .nil); (case kne0 => first | k_ne | omega); (case kne => k_all); (case kne2 => k_all))
          | ((rename News _ _ _ _ => lN9); refine' hQ' _ _ _ _ _ _ _ _ _ _ ⟨hRd0, len_of10 (by assumption)⟩ hRe0 hId0 hIe0 ?kfr ?knews ?kne0 ?kne ?kne2; (case kfr => exact fr_sameV (name := Str.ofString "rest") (fr_sameV (name := Str.ofString "divisor") (by k_asm) (by with_unfolding_all rfl)) (by with_unfolding_all rfl)); (case knews => with_unfolding_all exact news_sub lN9 (by (repeat' (first | exact List.forall_mem_nil _ | (refine List.forall_mem_cons.mpr ⟨by k_mem, ?_⟩))))); (case kne0 => first | k_ne | omega); (case kne => k_all); (case kne2 => k_all)))))
      intro Dd dv1 dr1 cd1 De ev1 er1 ce1 h' tk' hRd hRe hId hIe F' N' hneDE hneD hneE
      obtain ⟨hRd, hd1⟩ := hRd
      simp only [List.forall_mem_cons] at hneD hneE
      obtain ⟨hneD1, hneD2, hneD3, hneD4, _⟩ := hneD
      have hmD1 : @Ne Nat _ Dd := hneD1
      have hmD2 : @Ne Nat _ Dd := hneD2
      have hmD3 : @Ne Nat 37 Dd := hneD3
      have hmD4 : @Ne Nat 30 Dd := hneD4
      obtain ⟨hneE1, hneE2, hneE3, hneE4, _⟩ := hneE
      have hmE1 : @Ne Nat _ De := hneE1
      have hmE2 : @Ne Nat _ De := hneE2
      have hmE3 : @Ne Nat 37 De := hneE3
      have hmE4 : @Ne Nat 30 De := hneE4
      (try dsimp only)
      (try k_fold)))
  k_with "srcRT" => (
    (rename IsRange _ _ _ _ _ _ _ _ => rg9)
    (try (
      (fail_if_success (have := hsl))
      (rename IntsAre _ (List.map _ _) => hIs0)
      (obtain ⟨ss, hIs, hsb, hsl, hsl2⟩ := sizes10 hIs0 hmost1 hmost2 (by rw [List.length_take]; omega))))
    first
    | (
      k_dflt (refine' srcRT_map (n := ss.length) (fun i => i % 3 == 0) (fun i => ss.getD i 0) ?ch ?cF ?cN rg9 ?csm ?cn ?cz ?ct ?ce ?_)
      (case ch => (with_unfolding_all exact rfl))
      (case cF => k_asm)
      (case cN => k_asm)
      (case csm => first | exact rsm10 (by omega) | (rw [hsl2]; exact rsm10 (by omega)))
      (case cn => first | exact rszN _ | (rw [hsl2]; exact rszN _))
      (case cz => omega)
      (case ct => (
        intro x9 t9 I9 oI9 C9 oC9 D9 m9 h9 tk9 ys9 E9 Q9 hx8 hC9 hx9 F9 N9 off9 ne9 hQ9
        simp only [PyProof.Rows.LCg.Off3, and_true] at off9
        k_dflt (k_steps)
        all_goals (first | (rw [show (zm == 0) = (x9 % 3 == 0) from mod3 hzm]; exact hQ9 _ _ (by k_asm) (by k_asm)) | (rw [show decide (zm = 0) = (x9 % 3 == 0) from mod3d hzm]; exact hQ9 _ _ (by k_asm) (by k_asm)))))
      (case ce => (
        intro x9 t9 I9 oI9 C9 oC9 D9 m9 h9 tk9 ys9 E9 Q9 hx8 hp8 hC9 hx9 F9 N9 off9 ne9 hQ9
        simp only [PyProof.Rows.LCg.Off3, and_true] at off9
        k_dflt (k_steps)
        all_goals (exact hQ9 _ _ _ (by k_asm) (by k_asm))))
      (intro g' yst hIt)
      obtain ⟨q0, hIq0, hRq0⟩ := gen10 hIt (sel10 hsb hsl (k := 0) (by decide))
      (unfold PyProof.Rows.LCg.FinA)
      (intro D' h' tk' F' N' o1')
      (simp only [PyProof.Rows.LCg.Off1, and_true] at o1')
      (try dsimp only))
    | (
      k_dflt (refine' srcRT_map (n := ss.length) (fun i => i % 3 == 1) (fun i => ss.getD i 0) ?ch ?cF ?cN rg9 ?csm ?cn ?cz ?ct ?ce ?_)
      (case ch => (with_unfolding_all exact rfl))
      (case cF => k_asm)
      (case cN => k_asm)
      (case csm => first | exact rsm10 (by omega) | (rw [hsl2]; exact rsm10 (by omega)))
      (case cn => first | exact rszN _ | (rw [hsl2]; exact rszN _))
      (case cz => omega)
      (case ct => (
        intro x9 t9 I9 oI9 C9 oC9 D9 m9 h9 tk9 ys9 E9 Q9 hx8 hC9 hx9 F9 N9 off9 ne9 hQ9
        simp only [PyProof.Rows.LCg.Off3, and_true] at off9
        k_dflt (k_steps)
        all_goals (first | (rw [show (zm == 1) = (x9 % 3 == 1) from mod3 hzm]; exact hQ9 _ _ (by k_asm) (by k_asm)) | (rw [show decide (zm = 1) = (x9 % 3 == 1) from mod3d hzm]; exact hQ9 _ _ (by k_asm) (by k_asm)))))
      (case ce => (
        intro x9 t9 I9 oI9 C9 oC9 D9 m9 h9 tk9 ys9 E9 Q9 hx8 hp8 hC9 hx9 F9 N9 off9 ne9 hQ9
        simp only [PyProof.Rows.LCg.Off3, and_true] at off9
        k_dflt (k_steps)
        all_goals (exact hQ9 _ _ _ (by k_asm) (by k_asm))))
      (intro g' yst hIt)
      obtain ⟨d0, hId0, hRd0⟩ := gen10 hIt (sel10 hsb hsl (k := 1) (by decide))
      (unfold PyProof.Rows.LCg.FinA)
      (intro D' h' tk' F' N' o1')
      (simp only [PyProof.Rows.LCg.Off1, and_true] at o1')
      (try dsimp only))
    | (
      k_dflt (refine' srcRT_map (n := ss.length) (fun i => i % 3 == 2) (fun i => ss.getD i 0) ?ch ?cF ?cN rg9 ?csm ?cn ?cz ?ct ?ce ?_)
      (case ch => (with_unfolding_all exact rfl))
      (case cF => k_asm)
      (case cN => k_asm)
      (case csm => first | exact rsm10 (by omega) | (rw [hsl2]; exact rsm10 (by omega)))
      (case cn => first | exact rszN _ | (rw [hsl2]; exact rszN _))
      (case cz => omega)
      (case ct => (
        intro x9 t9 I9 oI9 C9 oC9 D9 m9 h9 tk9 ys9 E9 Q9 hx8 hC9 hx9 F9 N9 off9 ne9 hQ9
        simp only [PyProof.Rows.LCg.Off3, and_true] at off9
        k_dflt (k_steps)
        all_goals (first | (rw [show (zm == 2) = (x9 % 3 == 2) from mod3 hzm]; exact hQ9 _ _ (by k_asm) (by k_asm)) | (rw [show decide (zm = 2) = (x9 % 3 == 2) from mod3d hzm]; exact hQ9 _ _ (by k_asm) (by k_asm)))))
      (case ce => (
        intro x9 t9 I9 oI9 C9 oC9 D9 m9 h9 tk9 ys9 E9 Q9 hx8 hp8 hC9 hx9 F9 N9 off9 ne9 hQ9
        simp only [PyProof.Rows.LCg.Off3, and_true] at off9
        k_dflt (k_steps)
        all_goals (exact hQ9 _ _ _ (by k_asm) (by k_asm))))
      (intro g' yst hIt)
      obtain ⟨e0, hIe0, hRe0⟩ := gen10 hIt (sel10 hsb hsl (k := 2) (by decide))
      (unfold PyProof.Rows.LCg.FinA)
      (intro D' h' tk' F' N' o1')
      (simp only [PyProof.Rows.LCg.Off1, and_true] at o1')
      (try dsimp only)))
  k_with "item" => (first
    | ((have := hIn)
       (with_reducible show wpAny _ _ (subscriptTail (Expr.Name (Str.ofString "dividend") _) _ _ _) _ _ _)
       (k_dflt (refine' itemD ?zN ?zm kFacts ?za ?zb ?zc ?_; (case zN => k_asm); (case zm => k_mem); (case za => omega); (case zb => omega); (case zc => omega)))
       intro ti)
    | ((have := hIn)
       (with_reducible show wpAny _ _ (subscriptTail (Expr.Name (Str.ofString "rest") _) _ _ _) _ _ _)
       (k_dflt (refine' itemE (x := xr) ?zN ?zm hIes ?za ?zb ?zc hxr ?_; (case zN => k_asm); (case zm => k_mem); (case za => omega); (case zb => omega); (case zc => omega)))
       intro ti)
    | ((k_dflt (refine' itemE (x := ss.getD x9 0) ?zN ?zm hIs ?za ?zb ?zc ?zx ?_; (case zN => k_asm); (case zm => k_mem); (case za => omega); (case zb => omega); (case zc => omega); (case zx => rw [Int.toNat_natCast])))
       intro ti))
  k_with "itemN" => (
    obtain ⟨x9, hx9⟩ : ∃ z, dr1.getD ((-1 : Int) + dr1.length).toNat 0 = z := ⟨_, rfl⟩
    (k_dflt (refine' itemNegE (x := x9) ?zN ?zm hId ?za ?zb ?zc hx9 ?_; (case zN => k_asm); (case zm => k_mem); (case za => decide); (case zb => omega); (case zc => decide)))
    intro ti)
  k_with "set" => (first
    | (
      (fail_if_success (have := hDiv))
      k_dflt (refine' ksa_setNeg ?k1 ?k2 ?k3 hId ?k5 ?k6 ?k7 ?_; (case k1 => k_asm); (case k2 => k_asm); (case k3 => k_upd); (case k5 => decide); (case k6 => omega); (case k7 => decide))
      intro h' F' N' hi9
      (have hDv := div10_mk hRd hd1 rfl hx9 rfl)
      obtain ⟨ds, hIds, hDiv⟩ := genD hi9 hDv
      have hds1 := hDiv.l1
      have hds2 := hDiv.l2)
    | (
      k_dflt (refine' ksa_set ?k1 ?k2 ?k3 kFacts ?k5 ?k6 ?k7 ?_; (case k1 => k_asm); (case k2 => k_asm); (case k3 => k_upd); (case k5 => omega); (case k6 => omega); (case k7 => omega))
      intro h' F' N' hi9 hl9 hs9))
  k_with "len" => (first
    | ((have := hesl); k_dflt (refine' kst_len (k := es.length) ?zN ?zm ?ze ?zf ?_; (case ze => exact hIes.length); (case zN => k_asm); (case zm => k_mem); (case zf => omega)))
    | (k_dflt (refine' kst_len (k := ds.length) ?zN ?zm ?ze ?zf ?_; (case ze => exact hIds.length); (case zN => k_asm); (case zm => k_mem); (case zf => omega))))
  k_with "cut" => (
    (have := hDiv)
    k_dflt (refine' cutL_upto (s := ⟨_, _, _, _, _⟩) ?qF ?qN ?ql hIe ?qx ?qz ?_ ?qs; (case qF => k_asm); (case qN => k_asm); (case ql => kmk_list); (case qs => with_unfolding_all rfl); (case qx => omega); (case qz => (have := hRe.l; omega)))
    intro Dr rv9 h' F' N' lc hIc
    (try k_lt lc)
    (obtain ⟨es, hIes, hRes, hesl⟩ := genR hIc hRe rfl hDiv.l1)
    have hesl2 := hRes.l
    (have hDqr : @Ne Nat Dq Dr := by omega)
    (have hneRi : @Ne Nat 30 Dr := by omega)
    (have hneRd : @Ne Nat 37 Dr := by omega))
  k_with "myiter" => (
    (have := hesl)
    (rename Fr _ _ _ _ => lF')
    (rename News _ _ _ _ => lN')
    (rename IsRange _ _ _ _ _ _ _ _ => rgX)
    (with_unfolding_all refine' kst_range (n := es.length) (σ := List Value × List Int × Nat) (fun c => (Dm, listOf (List.toArray c.1) c.2.2) :: _) (fun _ => []) (fun c => IntsAre c.1 c.2.1) [] (fun pre c => Add10 ms es pre.length c.2.1) (mv, ms, cm) (by rfl) rgX ?ksm ?ksn lF' lN' hIm ?kk (Add10.start hm3) ?_ ?_)
    (case ksm => (exact rsm10 (by omega)))
    (case ksn => (exact rszN _))
    (case kk => kst_all)
    (all_goals (try clear lF' lN'))
    rotate_left
    (
      rintro ⟨dvv, dv, nd⟩ kU kH kTk kFacts kInv kFr kNews
      have kMark := kstMark
      dsimp only [kstB] at kFr
      dsimp only at kNews kInv kFacts
      rw [rangeKs_length] at kInv
      obtain ⟨hdl, hde, hdb⟩ := kInv.done hesl2)
    rotate_left
    (
      rintro ⟨dvv, dv, nd⟩ kPre iN kT kU kH kTk kOwn kEq kLtI kOff kFacts kInv kFr kNews
      have hIn : True := True.intro
      have kMark := kstMark
      dsimp only [kstB] at kFr
      dsimp only at kNews kInv kFacts
      simp only [List.nil_append, List.cons_append] at kNews
      have hrl := kInv.len
      have hei : iN = (kPre.length : Int) := by omega
      have aiN : Abs iN := .mk
      obtain ⟨xr, hxr⟩ : ∃ z, es.getD iN.toNat 0 = z := ⟨_, rfl⟩
      have hxb := getD_all10 hRes.b (k := iN.toNat) (by omega)
      rw [hxr] at hxb
      have axr : Abs xr := .mk)
    (all_goals (try dsimp only))
    (all_goals (try k_fold)))
  k_with "good" => (
    (have := hIn)
    (with_reducible show InvEndN _ _ _ _ _ _ _)
    (rename News _ _ _ _ => nE')
    (rename Fr _ _ _ _ => fE')
    have hpt := Add10.turn (k9 := iN) kInv kLtI (by omega) hei hxr hxb.1 (Nat.le_trans hxb.2 (by decide))
    (apply kst_end ⟨_, _, _⟩)
    (case F => k_dflt (exact fE'))
    (case N => k_dflt (exact nE'))
    (case hn => with_unfolding_all (refine led_in (own := kOwn) ?_; (repeat' (first | exact subr | (refine sub1 ?_)))))
    (case ho => (repeat' (first | exact subr | (refine sub1 ?_))))
    (case ha => rfl)
    (case hf => exact hi9)
    (case hk => kst_all)
    (case hr => kst_same)
    (case hp => (exact hpt)))
  k_with "max" => (first
    | ((fail_if_success (have := hwid))
       (k_dflt (refine' kso_max ?k1 ?k2 ?k3 ?k4 ?k5 ?k6 ?_; (case k1 => k_asm); (case k2 => k_asm); (case k3 => kso_list); (case k4 => l_ints); (case k5 => (simp only [List.length_append]; omega)); (case k6 => with_unfolding_all rfl)))
       intro h' widest twid k' F' N' hwm hwa
       (have hwid := wid10 hRq hRes hq1 hwm)
       have awid : Abs widest := .mk
       have bwid := hwid.2)
    | ((k_dflt (refine' kso_max ?k1 ?k2 ?k3 ?k4 ?k5 ?k6 ?_; (case k1 => k_asm); (case k2 => k_asm); (case k3 => kso_list); (case k4 => l_ints); (case k5 => exact Nat.zero_lt_succ _); (case k6 => with_unfolding_all rfl)))
       intro h' n tn k' F' N' hnm hna
       (obtain ⟨hn1, hnw, hn2⟩ := n10 hnm hna bwid lom (by omega))
       have an : Abs n := .mk
       (have hqP := digP hRq.b (fun d hd => hwa d (List.mem_append_left _ hd)) hnw)
       (have heP := digP hRes.b (fun d hd => hwa d (List.mem_append_right _ hd)) hnw)))
  k_with "eqlist" => (first
    | k_dflt (refine' eq_lists_t ?zN ?za ?zb hId2 hIc2 ?zu ?_; (case zN => k_asm); (case za => k_mem); (case zb => k_mem); (case zu => ke_room))
    | k_dflt (refine' eq_lists_t ?zN ?za ?zb hId1 hIc1 ?zu ?_; (case zN => k_asm); (case za => k_mem); (case zb => k_mem); (case zu => ke_room)))
  k_with "grown" => (
    obtain ⟨psI, hpI⟩ := hTI2.grown
    obtain ⟨psD, hpD⟩ := hTD2.grown
    subst hpI
    subst hpD
    (k_dflt (refine And.intro (GrownAt.of (by k_asm) (by k_mem)) (And.intro (GrownAt.of (by k_asm) (by k_mem)) True.intro))))
  k_with "mycall" => (first
    | ((with_reducible show wpAny _ _ (call (Value.ref 56) _ _) _ _ _)
       k_dflt (refine' product_c _ _ _ _ hIq hIds hq1 ?zl2 hds1 ?zl4 ?zb1 hDiv.b ?k1 ?k2 ?k3 ?k4 ?kmx ?kmy ?k5 ?kK ?kd ?ku ?_)
       (case zl2 => exact Nat.le_trans hRq.l (by decide))
       (case zl4 => exact Nat.le_trans hds2 (by decide))
       (case zb1 => exact fun x hx => ⟨(hRq.b x hx).1, Nat.le_trans (hRq.b x hx).2 (by decide)⟩)
       (case k1 => k_asm)
       (case k2 => k_dflt k_asm)
       (case k3 => k_asm)
       (case k4 => k_dflt k_asm)
       (case kmx => k_dflt k_mem)
       (case kmy => k_dflt k_mem)
       (case k5 => k_asm)
       (case kK => exact rfl)
       (case kd => ktr_room)
       (case ku => ktr_units)
       intro Dm mv ms cm h' tk' hm1 hm2 hm3 hIm F' N' lm
       have hql := hRq.l
       (try k_lt lm)
       (try dsimp only)
       (try k_fold))
    | ((with_reducible show wpAny _ _ (call (Value.ref 63) _ _) _ _ _)
       first
       | (k_dflt (refine' worth_c _ _ _ _ (n := n) hIq ?zl hn1 hn2 rfl hqP ?k1 ?k2 ?k3 ?k4 ?km ?k5 ?kK ?kd ?ku ?_)
          (case zl => exact Nat.le_trans hRq.l (by decide))
          (case k1 => k_asm)
          (case k2 => k_dflt k_asm)
          (case k3 => k_asm)
          (case k4 => k_dflt k_asm)
          (case km => k_dflt k_mem)
          (case k5 => k_asm)
          (case kK => exact rfl)
          (case kd => ktr_room)
          (case ku => ktr_units)
          intro tw h' tk' F' N'
          rw [hq9]
          (try dsimp only)
          (try k_fold))
       | (k_dflt (refine' worth_c _ _ _ _ (n := n) hIes ?zl hn1 hn2 rfl heP ?k1 ?k2 ?k3 ?k4 ?km ?k5 ?kK ?kd ?ku ?_)
          (case zl => exact Nat.le_trans hRes.l (by decide))
          (case k1 => k_asm)
          (case k2 => k_dflt k_asm)
          (case k3 => k_asm)
          (case k4 => k_dflt k_asm)
          (case km => k_dflt k_mem)
          (case k5 => k_asm)
          (case kK => exact rfl)
          (case kd => ktr_room)
          (case ku => ktr_units)
          intro tw h' tk' F' N'
          rw [hr9]
          (try dsimp only)
          (try k_fold)))
    | ((with_reducible show wpAny _ _ (call (Value.ref 70) _ _) _ _ _)
       first
       | (k_dflt (refine' cut_c _ _ _ _ hIq ?kl ?k1 ?k2 ?k3 ?k4 ?km ?k5 ?kK ?kd ?ku ?_)
          (case kl => exact Nat.le_trans hRq.l (by decide))
          (case k1 => k_asm)
          (case k2 => k_dflt k_asm)
          (case k3 => k_asm)
          (case k4 => k_dflt k_asm)
          (case km => k_dflt k_mem)
          (case k5 => k_asm)
          (case kK => exact rfl)
          (case kd => ktr_room)
          (case ku => ktr_units)
          intro Dcu1 cvs1 cms1 ck1 h' tk' hCut1 hIc1 F' N' lcu
          (try k_lt lcu)
          (have hdg1 := hCut1.digs hn1 hqP)
          rw [hq9] at hdg1
          rw [hdg1] at hId1
          (try dsimp only)
          (try k_fold))
       | (k_dflt (refine' cut_c _ _ _ _ hIes ?kl ?k1 ?k2 ?k3 ?k4 ?km ?k5 ?kK ?kd ?ku ?_)
          (case kl => exact Nat.le_trans hRes.l (by decide))
          (case k1 => k_asm)
          (case k2 => k_dflt k_asm)
          (case k3 => k_asm)
          (case k4 => k_dflt k_asm)
          (case km => k_dflt k_mem)
          (case k5 => k_asm)
          (case kK => exact rfl)
          (case kd => ktr_room)
          (case ku => ktr_units)
          intro Dcu2 cvs2 cms2 ck2 h' tk' hCut2 hIc2 F' N' lcu
          (try k_lt lcu)
          (have hdg2 := hCut2.digs hn1 heP)
          rw [hr9] at hdg2
          rw [hdg2] at hId2
          (try dsimp only)
          (try k_fold)))
    | ((with_reducible show wpAny _ _ (call (Value.ref 42) _ _) _ _ _)
       (fail_if_success (have := hx9e))
       k_dflt (refine' dig_use (Bd := 2012) (Xo := tabObj #[]) (Co := 37) (Yo := tabObj #[]) kFacts ?zlen ?zn0 (fun x hx => (hdb x hx).2) ?zN ?zn1 ?k1 ?k2 ?k3 ?k4 ?kU ?kY ?kl ?k5 hCD (TabS.start _ _ _ _) ?kK ?kd ?ku ?_)
       (case zlen => omega)
       (case zn0 => omega)
       (case zN => (exact nl10 hn1 hn2 (by omega) (by decide)))
       (case zn1 => omega)
       (case k1 => k_asm)
       (case k2 => k_dflt k_asm)
       (case k3 => k_asm)
       (case k4 => k_dflt k_asm)
       (case kU => k_dflt k_updF)
       (case kY => k_dflt k_mem)
       (case kl => k_dflt k_mem)
       (case k5 => k_asm)
       (case kK => exact rfl)
       (case kd => ktr_room)
       (case ku => ktr_units)
       intro XD2 Cd2 YD2 td h' tk' hTD2 F' N'
       (try dsimp only at N')
       have hd37 := hTD2.ne10
       k_dflt (have hd30 := hTD2.offT10 N' (List.Mem.head _) (by k_mem) (TabS.start 30 32 4 (Str.ofString "_int2digits.<locals>.inner")) (by decide))
       obtain ⟨x9, hx9e⟩ : ∃ z, evalD (2 ^ n.toNat) dv = z := ⟨_, rfl⟩
       have bx9 := evalB (N := 300000) hn1 hn2 (fun x hx => (hdb x hx).2) (by omega) (by omega)
       rw [hx9e] at bx9
       rw [hx9e]
       have ax9 : Abs x9 := .mk
       (try dsimp only)
       (try k_fold))
    | ((with_reducible show wpAny _ _ (call (Value.ref 42) _ _) _ _ _)
       k_dflt (refine' dig_use (Bd := 1000) hIds ?zlen ?zn0 (fun x hx => (hDiv.b x hx).2) ?zN ?zn1 ?k1 ?k2 ?k3 ?k4 ?kU ?kY ?kl ?k5 hCD hTD2.toS ?kK ?kd ?ku ?_)
       (case zlen => omega)
       (case zn0 => omega)
       (case zN => (exact nl10 hn1 hn2 (by omega) (by decide)))
       (case zn1 => omega)
       (case k1 => k_asm)
       (case k2 => k_dflt k_asm)
       (case k3 => k_asm)
       (case k4 => k_dflt k_asm)
       (case kU => k_dflt k_updF)
       (case kY => k_dflt k_mem)
       (case kl => k_dflt k_mem)
       (case k5 => k_asm)
       (case kK => exact rfl)
       (case kd => ktr_room)
       (case ku => ktr_units)
       intro XD2 Cd2 YD2 td h' tk' hTD2 F' N'
       (try dsimp only at N')
       have hd37 := hTD2.ne10
       k_dflt (have hd30 := hTD2.offT10 N' (List.Mem.head _) (by k_mem) (TabS.start 30 32 4 (Str.ofString "_int2digits.<locals>.inner")) (by decide))
       obtain ⟨b9, hb9e⟩ : ∃ z, evalD (2 ^ n.toNat) ds = z := ⟨_, rfl⟩
       have bb9 := evalB (N := 200000) hn1 hn2 (fun x hx => (hDiv.b x hx).2) hds1 (by omega)
       rw [hb9e] at bb9
       rw [hb9e]
       have ab9 : Abs b9 := .mk
       obtain ⟨q9, hq9⟩ : ∃ z, evalD (2 ^ n.toNat) qs = z := ⟨_, rfl⟩
       obtain ⟨r9, hr9⟩ : ∃ z, evalD (2 ^ n.toNat) es = z := ⟨_, rfl⟩
       have aq9 : Abs q9 := .mk
       have ar9 : Abs r9 := .mk
       (have hfin := fin10 (ppos n.toNat) hqP heP hDiv hesl (hm1 _) (hde _) hx9e hb9e hq9 hr9)
       have bq9 := row10_bits hn1 hn2 hqP hRq.l
       have br9 := row10_bits hn1 hn2 heP hRes.l
       rw [hq9] at bq9
       rw [hr9] at br9
       obtain ⟨hb91, hxq, hxr9, hq90, hr90, hx90⟩ := hfin
       (try dsimp only)
       (try k_fold))
    | ((with_reducible show wpAny _ _ (call (Value.ref 49) _ _) _ _ _)
       k_dflt (refine' dm_c _ _ _ _ (rest := restT hDqr (listOf (List.toArray qv) cq) (listOf (List.toArray rv9) 0)) hx90 hb91 ?zx bb9 ?k1 ?k2 ?k3 ?k4 ?k5 hCI hCD (offT2 hneQi hneRi) (offT2 hneQd hneRd) (TabS.start 30 32 4 (Str.ofString "_int2digits.<locals>.inner")) hTD2.toS ?kK ?kd ?ku ?_)
       (case zx => exact Nat.le_trans bx9 (by decide))
       (case k1 => k_asm)
       (case k2 => k_dflt k_asm)
       (case k3 => k_asm)
       (case k4 => ((rename News _ _ _ _ => lN9); with_unfolding_all exact news_sub lN9 (List.forall_mem_cons.mpr ⟨by k_mem, List.forall_mem_cons.mpr ⟨by k_mem, List.forall_mem_cons.mpr ⟨by k_mem, List.forall_mem_cons.mpr ⟨by k_mem, List.forall_mem_cons.mpr ⟨by k_mem, List.forall_mem_cons.mpr ⟨by k_mem, List.forall_mem_nil _⟩⟩⟩⟩⟩⟩)))
       (case k5 => k_asm)
       (case kK => exact rfl)
       (case kd => ktr_room)
       (case ku => ktr_units)
       intro XI2 Ci2 YI2 XD2 Cd2 YD2 Dp t1 t2 cp h' tk' hTI2 hTD2 F' N' lDp
       k_dflt (have hlp1 : @LT.lt Nat _ 30 Dp := lDp.1)
       k_dflt (have hlp2 : @LT.lt Nat _ Ci2 Dp := lDp.2.1)
       k_dflt (have hlp3 : @LT.lt Nat _ 37 Dp := lDp.2.2.1)
       k_dflt (have hlp4 : @LT.lt Nat _ Cd2 Dp := lDp.2.2.2.1)
       k_dflt (have hlp5 : @LT.lt Nat _ Dq Dp := lDp.2.2.2.2.1)
       k_dflt (have hlp6 : @LT.lt Nat _ Dr Dp := lDp.2.2.2.2.2.1)
       (try dsimp only [restT] at N')
       have hc30 := hTI2.ne10
       have hd37 := hTD2.ne10
       k_dflt (have hc37 := hTI2.offT10 N' (List.Mem.tail _ (List.Mem.tail _ (List.Mem.head _))) (List.Mem.tail _ (List.Mem.tail _ (List.Mem.tail _ (List.Mem.head _)))) hTD2.toS (by decide))
       k_dflt (have hd30 := hTD2.offT10 N' (List.Mem.tail _ (List.Mem.tail _ (List.Mem.tail _ (List.Mem.tail _ (List.Mem.head _))))) (List.Mem.tail _ (List.Mem.head _)) hTI2.toS (by decide))
       (rw [hxq, hxr9] at N')
       (try dsimp only)
       (try k_fold))
    | ((with_reducible show wpAny _ _ (call (Value.ref 35) _ _) _ _ _)
       (fail_if_success (have := hId1))
       k_dflt (refine' i2d_use hq90 hn1 ?zn2 ?zb ?k1 ?k2 ?k3 ?k4 ?kU ?kY ?k5 hCI hTI2.toS ?kK ?kd ?ku ?_)
       (case zn2 => omega)
       (case zb => omega)
       (case k1 => k_asm)
       (case k2 => k_dflt k_asm)
       (case k3 => k_asm)
       (case k4 => k_dflt k_asm)
       (case kU => k_dflt k_updF)
       (case kY => k_dflt k_mem)
       (case k5 => k_asm)
       (case kK => exact rfl)
       (case kd => ktr_room)
       (case ku => ktr_units)
       intro XI2 Ci2 YI2 Dd1 dvs1 h' tk' hTI2 hId1 F' N' lDd
       (try k_lt lDd)
       (try dsimp only at N')
       have hc30 := hTI2.ne10
       (try dsimp only)
       (try k_fold))
    | ((with_reducible show wpAny _ _ (call (Value.ref 35) _ _) _ _ _)
       k_dflt (refine' i2d_use hr90 hn1 ?zn2 ?zb ?k1 ?k2 ?k3 ?k4 ?kU ?kY ?k5 hCI hTI2.toS ?kK ?kd ?ku ?_)
       (case zn2 => omega)
       (case zb => omega)
       (case k1 => k_asm)
       (case k2 => k_dflt k_asm)
       (case k3 => k_asm)
       (case k4 => k_dflt k_asm)
       (case kU => k_dflt k_updF)
       (case kY => k_dflt k_mem)
       (case k5 => k_asm)
       (case kK => exact rfl)
       (case kd => ktr_room)
       (case ku => ktr_units)
       intro XI2 Ci2 YI2 Dd2 dvs2 h' tk' hTI2 hId2 F' N' lDd
       (try k_lt lDd)
       (try dsimp only at N')
       have hc30 := hTI2.ne10
       (try dsimp only)
       (try k_fold)))
  k_with "abs" => ((with_reducible refine' abs_store ?ka ?_); (case ka => bits_by_make); intro z az hz bz)
  k_with "introM" => (intro zm am hzm lom him bzm)
  k_with "introS" => (intro zs as hzs bzs)
  k_with "introP" => (intro power ap hpower power0 bpower; subst hpower)
  k_with "pos" => (first | omega)
  k_go0
  (all_goals try k_fold)
  (rename Top topProg _ _ _ _ _ => zT')
  have zT0 := top0_of (by assumption) (by assumption) (by decide +kernel) zT'
  clear zT'
  have hCI : CodeHd _ 34 30 := (by assumption)
  have hCD : CodeHd _ 41 37 := (by assumption)
  k_steps)
end Mine
theorem PySem.Challenge.cw_dn0134_10_holds : PySem.Challenge.rw_dn0134_10.Holds :=
  Mine.X
