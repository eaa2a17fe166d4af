import PyProof.Rows.All
import Wide.All
import OpenK.AllK
import Wide.FinOn
import PySem.Challenge.RW_dn0134_04
open PySem PySem.W PyProof.Rows
set_option Elab.async false
namespace Mine
open PySem.Builtin.Int (intBits)

theorem ppos (k : Nat) : (0 : Int) < 2 ^ k := kbt_pos k
theorem pmono {i j : Nat} (h : i ≤ j) : (2 : Int) ^ i ≤ 2 ^ j := by
  have := Nat.pow_le_pow_right (n := 2) (by decide) h
  rw [← kbt_cast, ← kbt_cast]; omega
theorem uniqNN {q b r q' r' : Int} (h : q * b + r = q' * b + r') (r0 : 0 ≤ r) (r1 : r < b) (r0' : 0 ≤ r') (r1' : r' < b) : q = q' ∧ r = r' := by
  have hb : 0 < b := by omega
  have h1 := kbt_unique (a := q * b + r) (b := b) (q := q) (r := r) hb (by rw [Int.mul_comm b q]; omega) r0 r1
  have h2 := kbt_unique (a := q * b + r) (b := b) (q := q') (r := r') hb (by rw [Int.mul_comm b q']; omega) r0' r1'
  exact ⟨h1.1.symm.trans h2.1, h1.2.symm.trans h2.2⟩
theorem mul_le_of {a b c : Int} (hc : 0 ≤ c) (h : a ≤ b) : a * c ≤ b * c := Int.mul_le_mul_of_nonneg_right h hc
theorem mul_lt_of {a b c : Int} (hc : 0 < c) (h : a < b) : a * c < b * c := Int.mul_lt_mul_of_pos_right h hc
theorem lt_of_mul {a b c : Int} (hc : 0 < c) (h : a * c < b * c) : a < b := Int.lt_of_mul_lt_mul_right h (Int.le_of_lt hc)
theorem bits_of_lt {x : Int} {k : Nat} (h0 : 0 ≤ x) (h : x < 2 ^ k) : intBits x ≤ k := by
  refine intBits_le_iff.mpr ?_
  have := kbt_cast k
  omega
theorem lt_of_bits {x : Int} {k : Nat} (h : intBits x ≤ k) : x < 2 ^ k := by
  have h1 := intBits_le_iff.mp h
  have := kbt_cast k
  omega
theorem fdivP (a : Int) (k : Nat) : a.fdiv (2 ^ k) = a / 2 ^ k := Int.fdiv_eq_ediv_of_nonneg _ (Int.le_of_lt (kbt_pos k))
theorem and_all (x : Int) : Builtin.bitAnd x (-1) = x := by
  have hn : ¬ (0 : Int) ≤ -1 := by decide
  have e : (Builtin.bitNot (-1)).toNat = 0 := by decide
  by_cases hx : 0 ≤ x
  · rw [bitAnd_pn hx hn, e, Nat.and_zero]; simp
  · rw [bitAnd_nn hx hn, e, Nat.or_zero]
    unfold Builtin.bitNot
    omega
/-- the bits of the one and of the other -/
theorem or_add {x y : Int} {k : Nat} (y0 : 0 ≤ y) (y1 : y < 2 ^ k) : Builtin.bitOr (x * 2 ^ k) y = x * 2 ^ k + y := by
  have hp := kbt_pos k
  have key : ∀ k : Nat, ∀ x y : Int, 0 ≤ y → y < 2 ^ k → Builtin.bitAnd (Builtin.bitNot (x * 2 ^ k)) (Builtin.bitNot y) = Builtin.bitNot (x * 2 ^ k + y) := by
    intro k
    induction k with
    | zero =>
      intro x y h0 h1
      have : y = 0 := by rw [Int.pow_zero] at h1; omega
      subst this
      rw [Int.add_zero]
      have e : Builtin.bitNot 0 = -1 := rfl
      rw [e, and_all]
    | succ k ih =>
      intro x y h0 h1
      rw [Int.pow_succ] at h1
      rw [kbt_halves]
      have e1 : Builtin.bitNot (x * 2 ^ (k + 1)) / 2 = Builtin.bitNot (x * 2 ^ k) := by
        unfold Builtin.bitNot
        rw [Int.pow_succ, ← Int.mul_assoc]; omega
      have e2 : Builtin.bitNot y / 2 = Builtin.bitNot (y / 2) := by unfold Builtin.bitNot; omega
      rw [e1, e2, ih x (y / 2) (by omega) (by omega)]
      unfold Builtin.bitNot
      rw [Int.pow_succ, ← Int.mul_assoc]
      generalize x * 2 ^ k = z
      split <;> omega
  unfold Builtin.bitOr
  rw [key k x y y0 y1]
  unfold Builtin.bitNot; omega
end Mine
namespace Mine
open PySem.Builtin.Int (intBits)
structure Pre2 (a b n q r : Int) : Prop where
  n1 : 1 ≤ n
  e : a = q * b + r
  q0 : 0 ≤ q
  q1 : q < 2 ^ n.toNat
  r0 : 0 ≤ r
  r1 : r < b
  b1 : 2 ^ (n.toNat - 1) ≤ b
  b2 : b < 2 ^ n.toNat
structure Pre3 (a12 a3 b b1 b2 n q r : Int) : Prop where
  n1 : 1 ≤ n
  ea : a12 * 2 ^ n.toNat + a3 = q * b + r
  q0 : 0 ≤ q
  q1 : q < 2 ^ n.toNat
  r0 : 0 ≤ r
  r1 : r < b
  e : b = b1 * 2 ^ n.toNat + b2
  b10 : 2 ^ (n.toNat - 1) ≤ b1
  b11 : b1 < 2 ^ n.toNat
  b20 : 0 ≤ b2
  b21 : b2 < 2 ^ n.toNat
  a30 : 0 ≤ a3
  a31 : a3 < 2 ^ n.toNat
section
variable {a12 a3 b b1 b2 n q r : Int}
theorem Pre3.a12b (H : Pre3 a12 a3 b b1 b2 n q r) : 0 ≤ a12 ∧ a12 < b := by
  obtain ⟨n1, ea, q0, q1, r0, r1, e, b10, b11, b20, b21, a30, a31⟩ := H
  have hP := ppos n.toNat
  have hB := ppos (n.toNat - 1)
  generalize (2 : Int) ^ n.toNat = P at *
  have hb1 : 0 ≤ b1 * P := Int.mul_nonneg (by omega) (by omega)
  have hb : 0 < b := by omega
  constructor
  · have h0 : 0 ≤ q * b := Int.mul_nonneg q0 (by omega)
    have : (-1) * P < a12 * P := by omega
    have := lt_of_mul hP this
    omega
  · refine lt_of_mul hP ?_
    have h1 : (q + 1) * b ≤ P * b := mul_le_of (by omega) (by omega)
    rw [Int.add_mul, Int.one_mul, Int.mul_comm P b] at h1
    omega
theorem Pre3.eqCase (H : Pre3 a12 a3 b b1 b2 n q r) (h : a12 / 2 ^ n.toNat = b1) :
    (2 ^ n.toNat - 1) * b + ((a12 - b1 * 2 ^ n.toNat + b1) * 2 ^ n.toNat + a3 - (2 ^ n.toNat - 1) * b2) = q * b + r ∧
      (a12 - b1 * 2 ^ n.toNat + b1) * 2 ^ n.toNat + a3 - (2 ^ n.toNat - 1) * b2 < b ∧ 0 ≤ a12 - b1 * 2 ^ n.toNat + b1 ∧ a12 - b1 * 2 ^ n.toNat + b1 < 2 ^ (n.toNat + 1) := by
  have h2 := H.a12b
  obtain ⟨n1, ea, q0, q1, r0, r1, e, b10, b11, b20, b21, a30, a31⟩ := H
  have hP := ppos n.toNat
  have hB := ppos (n.toNat - 1)
  have hs : (2 : Int) ^ (n.toNat + 1) = 2 ^ n.toNat * 2 := Int.pow_succ ..
  rw [hs]
  generalize (2 : Int) ^ n.toNat = P at *
  have hm := Int.emod_nonneg a12 (show P ≠ 0 by omega)
  have hm2 := Int.emod_lt_of_pos a12 hP
  have hd := Int.emod_def a12 P
  rw [h, Int.mul_comm P b1] at hd
  generalize hx : a12 - b1 * P = x at *
  have h3 : x * P ≤ (b2 - 1) * P := mul_le_of (by omega) (by omega)
  have e1 : (x + b1) * P = x * P + b1 * P := Int.add_mul ..
  have e2 : (b2 - 1) * P = b2 * P - P := by rw [Int.sub_mul, Int.one_mul]
  have e3 : (P - 1) * b2 = b2 * P - b2 := by rw [Int.sub_mul, Int.one_mul, Int.mul_comm]
  have e4 : (P - 1) * b = b * P - b := by rw [Int.sub_mul, Int.one_mul, Int.mul_comm]
  have e5 : b * P = b1 * P * P + b2 * P := by rw [e, Int.add_mul]
  have e6 : a12 * P = b1 * P * P + x * P := by rw [← hx, Int.sub_mul]; omega
  refine ⟨by omega, by omega, by omega, by omega⟩
theorem Pre3.neCase (H : Pre3 a12 a3 b b1 b2 n q r) (h : a12 / 2 ^ n.toNat ≠ b1) : ∃ q' r', Pre2 a12 b1 n q' r' := by
  have h2 := H.a12b
  obtain ⟨n1, ea, q0, q1, r0, r1, e, b10, b11, b20, b21, a30, a31⟩ := H
  have hP := ppos n.toNat
  have hB := ppos (n.toNat - 1)
  have hb1 : 0 < b1 := by omega
  have h3 : a12 < b1 * 2 ^ n.toNat := by
    generalize (2 : Int) ^ n.toNat = P at *
    have h4 : a12 / P < b1 + 1 := Int.ediv_lt_of_lt_mul hP (by rw [Int.add_mul]; omega)
    exact Int.lt_mul_of_ediv_lt hP (by omega)
  refine ⟨a12 / b1, a12 % b1, n1, ?_, Int.ediv_nonneg h2.1 (by omega), Int.ediv_lt_of_lt_mul hb1 (by rw [Int.mul_comm]; exact h3), Int.emod_nonneg _ (by omega), Int.emod_lt_of_pos _ hb1, b10, b11⟩
  rw [Int.mul_comm]; exact (Int.mul_ediv_add_emod a12 b1).symm
theorem Pre3.ne2 (H : Pre3 a12 a3 b b1 b2 n q r) {q' r' : Int} (h : Pre2 a12 b1 n q' r') :
    q' * b + (r' * 2 ^ n.toNat + a3 - q' * b2) = q * b + r ∧ r' * 2 ^ n.toNat + a3 - q' * b2 < b := by
  obtain ⟨n1, ea, q0, q1, r0, r1, e, b10, b11, b20, b21, a30, a31⟩ := H
  obtain ⟨_, e', q0', q1', r0', r1', _, _⟩ := h
  have hP := ppos n.toNat
  generalize (2 : Int) ^ n.toNat = P at *
  have h1 : 0 ≤ q' * b2 := Int.mul_nonneg q0' b20
  have h2 : r' * P ≤ (b1 - 1) * P := mul_le_of (by omega) (by omega)
  have e2 : (b1 - 1) * P = b1 * P - P := by rw [Int.sub_mul, Int.one_mul]
  refine ⟨?_, by omega⟩
  rw [← ea, e', e, Int.mul_add, Int.add_mul, ← Int.mul_assoc]
  omega
end
section
variable {a b n q r : Int}
theorem Pre2.pad (H : Pre2 a b n q r) : Pre2 (a * 2) (b * 2) (n + 1) q (r * 2) := by
  obtain ⟨n1, e, q0, q1, r0, r1, b1, b2⟩ := H
  have e1 : (n + 1).toNat = n.toNat + 1 := by omega
  have e2 : (n + 1).toNat - 1 = (n.toNat - 1) + 1 := by omega
  have hs : (2 : Int) ^ (n.toNat + 1) = 2 ^ n.toNat * 2 := Int.pow_succ ..
  have hs' : (2 : Int) ^ (n.toNat - 1 + 1) = 2 ^ (n.toNat - 1) * 2 := Int.pow_succ ..
  have hP := ppos n.toNat
  refine ⟨by omega, ?_, q0, ?_, by omega, by omega, ?_, ?_⟩
  · rw [e, Int.add_mul, Int.mul_assoc]
  · rw [e1, hs]; omega
  · rw [e2, hs']; omega
  · rw [e1, hs]; omega
/-- the first half's division and the second's -/
theorem Pre2.halves (H : Pre2 a b n q r) {h : Int} (hn : n = h * 2) : ∃ q1 r1 q2, Pre3 (a / 2 ^ n.toNat) ((a / 2 ^ h.toNat) % 2 ^ h.toNat) b (b / 2 ^ h.toNat) (b % 2 ^ h.toNat) h q1 r1 ∧
    Pre3 r1 (a % 2 ^ h.toNat) b (b / 2 ^ h.toNat) (b % 2 ^ h.toNat) h q2 r ∧ q = q1 * 2 ^ h.toNat + q2 := by
  obtain ⟨n1, e, q0, q1, r0, r1, b1, b2⟩ := H
  have hb : 0 < b := by omega
  have hk : n.toNat = h.toNat + h.toNat := by omega
  have hk' : n.toNat - 1 = (h.toNat - 1) + h.toNat := by omega
  have hP := ppos h.toNat
  have hP' := ppos (h.toNat - 1)
  have ep : (2 : Int) ^ n.toNat = 2 ^ h.toNat * 2 ^ h.toNat := by rw [hk, Int.pow_add]
  have ep' : (2 : Int) ^ (n.toNat - 1) = 2 ^ (h.toNat - 1) * 2 ^ h.toNat := by rw [hk', Int.pow_add]
  have h1 : 1 ≤ h := by omega
  rw [ep] at b2 q1 ⊢
  rw [ep'] at b1
  have a0 : 0 ≤ a := by
    have : 0 ≤ q * b := Int.mul_nonneg q0 (by omega)
    omega
  have k1 : 2 ^ (h.toNat - 1) ≤ b / 2 ^ h.toNat := Int.le_ediv_of_mul_le hP b1
  have k2 : b / 2 ^ h.toNat < 2 ^ h.toNat := Int.ediv_lt_of_lt_mul hP b2
  have k3 := Int.emod_nonneg b (show (2 : Int) ^ h.toNat ≠ 0 by omega)
  have k4 := Int.emod_lt_of_pos b hP
  have k5 : b = b / 2 ^ h.toNat * 2 ^ h.toNat + b % 2 ^ h.toNat := by rw [Int.mul_comm]; exact (Int.mul_ediv_add_emod b _).symm
  have c3 := Int.emod_nonneg (a / 2 ^ h.toNat) (show (2 : Int) ^ h.toNat ≠ 0 by omega)
  have c4 := Int.emod_lt_of_pos (a / 2 ^ h.toNat) hP
  have d3 := Int.emod_nonneg a (show (2 : Int) ^ h.toNat ≠ 0 by omega)
  have d4 := Int.emod_lt_of_pos a hP
  have f1 : a / (2 ^ h.toNat * 2 ^ h.toNat) = a / 2 ^ h.toNat / 2 ^ h.toNat := (Int.ediv_ediv_of_nonneg (by omega)).symm
  rw [f1]
  have f2 : a / 2 ^ h.toNat / 2 ^ h.toNat * 2 ^ h.toNat + (a / 2 ^ h.toNat) % 2 ^ h.toNat = a / 2 ^ h.toNat := by rw [Int.mul_comm]; exact Int.mul_ediv_add_emod _ _
  have f3 : a / 2 ^ h.toNat * 2 ^ h.toNat + a % 2 ^ h.toNat = a := by rw [Int.mul_comm]; exact Int.mul_ediv_add_emod _ _
  have g0 : 0 ≤ a / 2 ^ h.toNat := Int.ediv_nonneg a0 (by omega)
  have g1 : a / 2 ^ h.toNat < 2 ^ h.toNat * b := by
    refine Int.ediv_lt_of_lt_mul hP ?_
    have h3 : (q + 1) * b ≤ 2 ^ h.toNat * 2 ^ h.toNat * b := mul_le_of (by omega) (by omega)
    rw [Int.add_mul, Int.one_mul] at h3
    rw [Int.mul_right_comm]
    omega
  generalize hx : a / 2 ^ h.toNat = x at *
  have m1 := Int.emod_nonneg x (show b ≠ 0 by omega)
  have m2 := Int.emod_lt_of_pos x hb
  have m3 : x = x / b * b + x % b := by rw [Int.mul_comm]; exact (Int.mul_ediv_add_emod x b).symm
  have m4 : x / b < 2 ^ h.toNat := Int.ediv_lt_of_lt_mul hb g1
  have m5 : 0 ≤ x / b := Int.ediv_nonneg g0 (by omega)
  generalize x / b = y at *
  generalize x % b = z at *
  have w0 : 0 ≤ z * 2 ^ h.toNat := Int.mul_nonneg m1 (by omega)
  have w1 : z * 2 ^ h.toNat ≤ (b - 1) * 2 ^ h.toNat := mul_le_of (by omega) (by omega)
  have w2 : (b - 1) * 2 ^ h.toNat = 2 ^ h.toNat * b - 2 ^ h.toNat := by rw [Int.sub_mul, Int.one_mul, Int.mul_comm]
  have v1 := Int.emod_nonneg (z * 2 ^ h.toNat + a % 2 ^ h.toNat) (show b ≠ 0 by omega)
  have v2 := Int.emod_lt_of_pos (z * 2 ^ h.toNat + a % 2 ^ h.toNat) hb
  have v3 : z * 2 ^ h.toNat + a % 2 ^ h.toNat = (z * 2 ^ h.toNat + a % 2 ^ h.toNat) / b * b + (z * 2 ^ h.toNat + a % 2 ^ h.toNat) % b := by
    generalize z * 2 ^ h.toNat + a % 2 ^ h.toNat = y'
    rw [Int.mul_comm]; exact (Int.mul_ediv_add_emod _ b).symm
  have v4 : (z * 2 ^ h.toNat + a % 2 ^ h.toNat) / b < 2 ^ h.toNat := Int.ediv_lt_of_lt_mul hb (by omega)
  have v5 : 0 ≤ (z * 2 ^ h.toNat + a % 2 ^ h.toNat) / b := Int.ediv_nonneg (by omega) (by omega)
  generalize hu : (z * 2 ^ h.toNat + a % 2 ^ h.toNat) / b = u at *
  generalize hv : (z * 2 ^ h.toNat + a % 2 ^ h.toNat) % b = v at *
  have U : q = y * 2 ^ h.toNat + u ∧ r = v := by
    refine uniqNN (b := b) ?_ r0 r1 v1 v2
    rw [← e, ← f3, m3, Int.add_mul, Int.add_mul, Int.mul_right_comm y b]
    omega
  obtain ⟨U1, rfl⟩ := U
  exact ⟨y, z, u, ⟨h1, by rw [f2]; exact m3, m5, m4, m1, m2, k5, k1, k2, k3, k4, c3, c4⟩, ⟨h1, v3, v5, v4, v1, v2, k5, k1, k2, k3, k4, d3, d4⟩, U1⟩
end
end Mine
namespace Mine
section
variable {a12 a3 b b1 b2 n q r : Int}
theorem Pre3.start1 (H : Pre3 a12 a3 b b1 b2 n q r) (h : a12.fdiv (2 ^ n.toNat) = b1) :
    (1 * 2 ^ n.toNat - 1) * b + (Builtin.bitOr ((a12 - b1 * 2 ^ n.toNat + b1) * 2 ^ n.toNat) a3 - (1 * 2 ^ n.toNat - 1) * b2) = q * b + r ∧ Builtin.bitOr ((a12 - b1 * 2 ^ n.toNat + b1) * 2 ^ n.toNat) a3 - (1 * 2 ^ n.toNat - 1) * b2 < b := by
  rw [or_add H.a30 H.a31, Int.one_mul]
  have h' := H.eqCase (by rw [← fdivP]; exact h)
  exact ⟨h'.1, h'.2.1⟩
theorem Pre3.start2 (H : Pre3 a12 a3 b b1 b2 n q r) {q' r' : Int} (h : Pre2 a12 b1 n q' r') :
    q' * b + (Builtin.bitOr (r' * 2 ^ n.toNat) a3 - q' * b2) = q * b + r ∧ Builtin.bitOr (r' * 2 ^ n.toNat) a3 - q' * b2 < b := by
  rw [or_add H.a30 H.a31]
  exact H.ne2 h
theorem d3_turn {x y b c : Int} (h : y * b + x = c ∧ x < b) (h0 : x < 0) : (y - 1) * b + (x + b) = c ∧ x + b < b := by
  rw [Int.sub_mul, Int.one_mul]; omega
end
end Mine
namespace Mine
theorem Pre3.fin {a12 a3 b b1 b2 n q r x y : Int} (H : Pre3 a12 a3 b b1 b2 n q r) (h : y * b + x = q * b + r) (h0 : ¬ x < 0) (h1 : x < b) : y = q ∧ x = r :=
  uniqNN h (by omega) h1 H.r0 H.r1
theorem news_sub {h₀ h : Heap} {L : Addr} {news news' : List (Addr × Obj)} (N : News h₀ L h news') (hs : ∀ p ∈ news, p ∈ news') : News h₀ L h news := fun p hp => N p (hs p hp)
theorem sub0 {p : Addr × Obj} {l l' : List (Addr × Obj)} (h : ∀ q ∈ l, q ∈ l') : ∀ q ∈ p :: l, q ∈ p :: l' := fun q hq => (List.mem_cons.mp hq).elim (fun e => e ▸ .head _) fun m => .tail _ (h q m)
theorem sub1 {p : Addr × Obj} {l l' : List (Addr × Obj)} (h : ∀ q ∈ l, q ∈ l') : ∀ q ∈ l, q ∈ p :: l' := fun q hq => .tail _ (h q hq)
theorem subr {l : List (Addr × Obj)} : ∀ q ∈ l, q ∈ l := fun _ h => h
end Mine
namespace Mine
open PySem.Builtin.Int (intBits)
section
variable {a b n q r : Int}
theorem Pre2.a0 (H : Pre2 a b n q r) : 0 ≤ a := by
  have h1 := H.r0; have h2 := H.r1
  have : 0 ≤ q * b := Int.mul_nonneg H.q0 (by omega)
  have := H.e
  omega
theorem Pre2.alt (H : Pre2 a b n q r) : a < 2 ^ (n.toNat + n.toNat) := by
  have h1 := H.r0; have h2 := H.r1
  have h3 : (q + 1) * b ≤ 2 ^ n.toNat * b := mul_le_of (by omega) (by have := H.q1; omega)
  have h4 : b * 2 ^ n.toNat ≤ 2 ^ n.toNat * 2 ^ n.toNat := mul_le_of (Int.le_of_lt (ppos _)) (Int.le_of_lt H.b2)
  rw [Int.pow_add]
  have := H.e
  rw [Int.add_mul, Int.one_mul] at h3
  rw [Int.mul_comm b] at h4
  omega
theorem Pre2.big (H : Pre2 a b n q r) (h : ¬ (intBits a : Int) - n ≤ 4000) : 4000 < n := by
  have h1 := bits_of_lt H.a0 H.alt
  have := H.n1
  omega
theorem and_mask (x : Int) (k : Nat) : Builtin.bitAnd x (1 * 2 ^ k - 1) = x % 2 ^ k := by rw [Int.one_mul, kbt_mask]
theorem Pre2.halvesT (H : Pre2 a b n q r) {h : Int} (hn : n = h * 2) : ∃ q1 r1 q2, Pre3 (a.fdiv (2 ^ n.toNat)) (Builtin.bitAnd (a.fdiv (2 ^ h.toNat)) (1 * 2 ^ h.toNat - 1)) b (b.fdiv (2 ^ h.toNat)) (Builtin.bitAnd b (1 * 2 ^ h.toNat - 1)) h q1 r1 ∧
    Pre3 r1 (Builtin.bitAnd a (1 * 2 ^ h.toNat - 1)) b (b.fdiv (2 ^ h.toNat)) (Builtin.bitAnd b (1 * 2 ^ h.toNat - 1)) h q2 r ∧ Builtin.bitOr (q1 * 2 ^ h.toNat) q2 = q := by
  simp only [fdivP, and_mask]
  obtain ⟨q1, r1, q2, h1, h2, h3⟩ := H.halves hn
  exact ⟨q1, r1, q2, h1, h2, by rw [or_add h2.q0 h2.q1]; exact h3.symm⟩
theorem halves0 (hp : Builtin.bitAnd n 1 = 0) : n = n.fdiv (2 ^ (1 : Int).toNat) * 2 := by
  rw [bitAnd_m1] at hp
  have e : (2 : Int) ^ (1 : Int).toNat = 2 := by decide
  rw [e, Int.fdiv_eq_ediv_of_nonneg _ (by decide)]
  omega
theorem halves1 (hp : Builtin.bitAnd n 1 ≠ 0) : n + 1 = (n + 1).fdiv (2 ^ (1 : Int).toNat) * 2 := by
  rw [bitAnd_m1] at hp
  have e : (2 : Int) ^ (1 : Int).toNat = 2 := by decide
  rw [e, Int.fdiv_eq_ediv_of_nonneg _ (by decide)]
  omega
theorem Pre2.padT (H : Pre2 a b n q r) : Pre2 (a * 2 ^ (1 : Int).toNat) (b * 2 ^ (1 : Int).toNat) (n + 1) q (r * 2) := H.pad
theorem halfLe {n h : Int} {j : Nat} (hn : n = h * 2) (hk : n ≤ 2 ^ (j + 1) + 1) : h ≤ 2 ^ j := by
  rw [Int.pow_succ] at hk; omega
theorem Pre2.fdm (H : Pre2 a b n q r) : a.fdiv b = q ∧ a.fmod b = r := by
  have h1 := H.r0; have h2 := H.r1
  rw [Int.fdiv_eq_ediv_of_nonneg _ (by omega), Int.fmod_eq_emod_of_nonneg _ (by omega)]
  exact kbt_unique (by omega) (by rw [H.e, Int.mul_comm]; omega) h1 h2
end
theorem half_z {prog : Program} {w : World} {A : Around} {E : Value → Shared → Prop} {s : Shared} {Q : Value → Shared → Prop} {n : Int} {t u : Tok} (he : n = n.fdiv (2 ^ (1 : Int).toNat) * 2) (h : ∀ z, n = z * 2 → Q (.int z s.toks) { s with toks := s.toks + 1 }) :
    wpAny (model prog w) A (binaryOp .RShift (.int n t) (.int 1 u)) Q E s := rshift_int (by decide) (h _ he)
theorem ihalf_z {prog : Program} {w : World} {A : Around} {E : Value → Shared → Prop} {s : Shared} {Q : Value → Shared → Prop} {r : Int} {t u : Tok} (h : Q (.int r s.toks) { s with toks := s.toks + 1 }) :
    wpAny (model prog w) A (inplaceOp .RShift (.int (r * 2) t) (.int 1 u)) Q E s := irshift_int (by decide) (by
  have e : (r * 2).fdiv (2 ^ (1 : Int).toNat) = r := by
    have e : (2 : Int) ^ (1 : Int).toNat = 2 := by decide
    rw [e, Int.fdiv_eq_ediv_of_nonneg _ (by decide)]
    omega
  rw [e]; exact h)
abbrev pairO (q r : Int) (t1 t2 : Tok) (c : Nat) : Obj := { cls := .type "tuple", data := .seq #[.int q t1, .int r t2] c }
theorem divmod_D {prog : Program} {w : World} {A : Around} {E : Value → Shared → Prop} {s : Shared} {a b q r : Int} {t u : Tok} {Q : Value → Shared → Prop} {h₀ : Heap} {L : Addr} {m : Str → Option Value} {news : List (Addr × Obj)} (F : Fr h₀ L s.heap m) (N : News h₀ L s.heap news) (hb : b ≠ 0) (hq : a.fdiv b = q ∧ a.fmod b = r)
    (hp : PySem.PylongRoom (model prog w) A s)
    (h : ∀ D t1 t2 h' tk, Fr h₀ L h' m → News h₀ L h' ((D, pairO q r t1 t2 0) :: news) → AllLt D news → Q (.ref D) { s with toks := tk, heap := h' }) :
    wpAny (model prog w) A (call (.builtin "divmod") [.int a t, .int b u]) Q E s := by
  refine divmod_N F N hb (fun h' F' N' => ?_) (Or.inr hp)
  rw [hq.1, hq.2] at N'
  exact h _ _ _ h' _ F' N' (allLt_of fun p hp => Heap.lt_size (N p hp).1)
end Mine
namespace Mine
open PySem.Builtin.Int (intBits)
theorem abs2 (k : Nat) : ((2 : Int) ^ k).natAbs = 2 ^ k := by rw [← kbt_cast, Int.natAbs_natCast]
inductive Abs (z : Int) : Prop where | mk
theorem abs_skip {M : Model} {A : Around} {env : Env} {x : Str} {z : Int} {t : Tok} {Q : Unit → Shared → Prop} {E : Value → Shared → Prop} {s : Shared} (_ : Abs z) (h : wpAny M A (storeName env x (.int z t)) Q E s) : wpAny M A (storeName env x (.int z t)) Q E s := h
theorem abs_store {M : Model} {A : Around} {env : Env} {x : Str} {e : Int} {t : Tok} {Q : Unit → Shared → Prop} {E : Value → Shared → Prop} {s : Shared} {N : Nat} (hb : intBits e ≤ N)
    (h : ∀ z, Abs z → z = e → intBits z ≤ N → wpAny M A (storeName env x (.int z t)) Q E s) : wpAny M A (storeName env x (.int e t)) Q E s := h e .mk rfl hb
section
variable {prog : Program} {w : World} {A : Around} {E : Value → Shared → Prop} {s : Shared} {a b : Int} {t u : Tok} {Q : Value → Shared → Prop}
theorem pow3_z {l : Int} {N : Nat} (hb : intBits l ≤ N) (hN : 2 * N ≤ 100000000) (h : ∀ z, Abs z → z = 3 ^ intBits l → intBits z ≤ 2 * N + 1 → Q (.int z s.toks) { s with toks := s.toks + 1 }) :
    wpAny (model prog w) A (binaryOp .Pow (.int 3 t) (.int (intBits l : Int) u)) Q E s := by
  refine pow_int (by omega) ?_ ?_
  · have e : intBits (3 : Int) = 2 := by decide
    rw [e]
    have : (2 : Int) ^ 27 = 134217728 := by decide
    omega
  · have e : ((intBits l : Int)).toNat = intBits l := by omega
    rw [e]
    refine h _ .mk rfl ?_
    refine Nat.le_trans (intBits_pow_le (m := 2) (by decide) _) ?_
    omega
theorem mod_p {N : Nat} (hc : 0 < b) (hb : intBits b ≤ N) (h : ∀ z, Abs z → z = a.fmod b → 0 ≤ z → z < b → intBits z ≤ N → Q (.int z s.toks) { s with toks := s.toks + 1 }) : wpAny (model prog w) A (binaryOp .Mod (.int a t) (.int b u)) Q E s := by
  have e : a.fmod b = a % b := Int.fmod_eq_emod_of_nonneg _ (Int.le_of_lt hc)
  have h0 := Int.emod_nonneg a (show b ≠ 0 by omega)
  have h1 := Int.emod_lt_of_pos a hc
  rw [← e] at h0 h1
  exact mod_int' (by omega) (h _ .mk rfl h0 h1 (bits_fmod_by (by omega) hb))
theorem pow2_p {e : Int} {N : Nat} (h0 : 0 ≤ e) (h1 : e ≤ N) (hN : N ≤ 10000000) (h : ∀ z, Abs z → z = 2 ^ e.toNat → 0 < z → intBits z ≤ N + 1 → Q (.int z s.toks) { s with toks := s.toks + 1 }) :
    wpAny (model prog w) A (binaryOp .Pow (.int 2 t) (.int e u)) Q E s := by
  refine pow_int h0 ?_ (h _ .mk rfl (kbt_pos _) ?_)
  · have e : intBits (2 : Int) = 2 := by decide
    rw [e]
    have : (2 : Int) ^ 27 = 134217728 := by decide
    omega
  · refine intBits_le_iff.mpr ?_
    have e1 := abs2 e.toNat
    rw [e1]
    exact Nat.pow_lt_pow_right (by decide) (by omega)
theorem shl_p {e x : Int} {N m : Nat} (h0 : 0 ≤ e) (hx : intBits x ≤ m) (h1 : e ≤ N) (hN : m + N ≤ 100000000) (h : ∀ z, Abs z → z = x * 2 ^ e.toNat → intBits z ≤ m + N → Q (.int z s.toks) { s with toks := s.toks + 1 }) :
    wpAny (model prog w) A (binaryOp .LShift (.int x t) (.int e u)) Q E s := by
  refine lshift_int h0 ?_ (h _ .mk rfl ?_)
  · have : (2 : Int) ^ 27 = 134217728 := by decide
    omega
  · by_cases hx0 : x = 0
    · subst hx0
      rw [Int.zero_mul]
      exact Nat.zero_le _
    refine intBits_le_iff.mpr ?_
    have e1 := abs2 e.toNat
    rw [Int.natAbs_mul, e1]
    have h2 := intBits_le_iff.mp hx
    have h3 : x.natAbs * 2 ^ e.toNat < 2 ^ m * 2 ^ e.toNat := Nat.mul_lt_mul_of_pos_right h2 (Nat.two_pow_pos _)
    rw [← Nat.pow_add] at h3
    exact Nat.lt_of_lt_of_le h3 (Nat.pow_le_pow_right (by decide) (by omega))
theorem shr_p {e x : Int} {m : Nat} (h0 : 0 ≤ e) (hx : intBits x ≤ m) (h : ∀ z, Abs z → z = x / 2 ^ e.toNat → intBits z ≤ m → Q (.int z s.toks) { s with toks := s.toks + 1 }) :
    wpAny (model prog w) A (binaryOp .RShift (.int x t) (.int e u)) Q E s := by
  have e1 := fdivP x e.toNat
  exact rshift_int h0 (by rw [e1]; exact h _ .mk rfl (by rw [← e1]; exact bits_fdiv hx))
theorem fdv_p {m : Nat} (hc : 0 < b) (hx : intBits a ≤ m) (hp : PySem.PylongRoom (model prog w) A s) (h : ∀ z, Abs z → z = a / b → intBits z ≤ m → Q (.int z s.toks) { s with toks := s.toks + 1 }) :
    wpAny (model prog w) A (binaryOp .FloorDiv (.int a t) (.int b u)) Q E s := by
  have e1 : a.fdiv b = a / b := Int.fdiv_eq_ediv_of_nonneg _ (Int.le_of_lt hc)
  exact floordiv_int (by omega) (by rw [e1]; exact h _ .mk rfl (by rw [← e1]; exact bits_fdiv hx)) (Or.inr hp)
end
theorem fmodB (a : Int) {b : Int} (h : 0 < b) : 0 ≤ a.fmod b ∧ a.fmod b < b := by
  rw [Int.fmod_eq_emod_of_nonneg _ (Int.le_of_lt h)]
  exact ⟨Int.emod_nonneg _ (by omega), Int.emod_lt_of_pos _ h⟩
theorem fdivE (a : Int) {b : Int} (h : 0 < b) : a.fdiv b = a / b := Int.fdiv_eq_ediv_of_nonneg _ (Int.le_of_lt h)
theorem fmodE (a : Int) {b : Int} (h : 0 < b) : a.fmod b = a % b := Int.fmod_eq_emod_of_nonneg _ (Int.le_of_lt h)
theorem Pre2.bq {a b n q r : Int} (H : Pre2 a b n q r) {N : Nat} (hn : n ≤ N) : intBits q ≤ N := Nat.le_trans (bits_of_lt H.q0 H.q1) (by have := H.n1; omega)
theorem Pre2.br {a b n q r : Int} (H : Pre2 a b n q r) {N : Nat} (hn : n ≤ N) : intBits r ≤ N := Nat.le_trans (bits_of_lt H.r0 (Int.lt_trans H.r1 H.b2)) (by have := H.n1; omega)
theorem eq_t {prog : Program} {w : World} {A : Around} {E : Value → Shared → Prop} {s : Shared} {a b : Int} {t u : Tok} {Q : Value → Shared → Prop} (e : a = b) (h : Q (.bool true) s) : wpAny (model prog w) A (compareOp .Eq (.int a t) (.int b u)) Q E s :=
  eq_int (by rw [e, beq_self_eq_true]; exact h)
theorem gen_toks {α : Type} {M : Model} {A : Around} {m : Sem α} {Q : α → Shared → Prop} {E : Value → Shared → Prop} {h : Heap} {g : Array GenState} {d : Drawn} {X : Nat} {o : OsState}
    (H : ∀ tk, wpAny M A m Q E { heap := h, gens := g, drawn := d, toks := tk, os := o }) : wpAny M A m Q E { heap := h, gens := g, drawn := d, toks := X, os := o } := H X
theorem mul_p {prog : Program} {w : World} {A : Around} {E : Value → Shared → Prop} {s : Shared} {a b : Int} {t u : Tok} {Q : Value → Shared → Prop} {m n : Nat} (ha : intBits a ≤ m) (hb : intBits b ≤ n) (h : m + n ≤ 134217728) (hq : Q (.int (a * b) s.toks) { s with toks := s.toks + 1 }) :
    wpAny (model prog w) A (binaryOp .Mult (.int a t) (.int b u)) Q E s := mul_int hq (mulOk_of_bits ha hb h)
end Mine
namespace Mine
set_option maxRecDepth 100000
set_option maxHeartbeats 8000000
open_top hd for PySem.Challenge.rw_dn0134_04
end Mine
namespace Mine
open PySem.Builtin.Int (intBits)
/-- the same by the divisor -/
def Cg (d a b : Int) : Prop := ∃ k, a = b + k * d
theorem Cg.rfl' (d a : Int) : Cg d a a := ⟨0, by omega⟩
theorem Cg.symm {d a b : Int} (h : Cg d a b) : Cg d b a := by
  obtain ⟨k, h⟩ := h
  exact ⟨-k, by rw [Int.neg_mul]; omega⟩
theorem Cg.trans {d a b c : Int} (h : Cg d a b) (h2 : Cg d b c) : Cg d a c := by
  obtain ⟨k, h⟩ := h
  obtain ⟨j, h2⟩ := h2
  exact ⟨k + j, by rw [Int.add_mul]; omega⟩
theorem Cg.mul {d a b x y : Int} (h : Cg d a b) (h2 : Cg d x y) : Cg d (a * x) (b * y) := by
  obtain ⟨k, h⟩ := h
  obtain ⟨j, h2⟩ := h2
  exact ⟨b * j + k * y + k * j * d, by rw [h, h2]; grind⟩
theorem Cg.eq {d a b : Int} (h : Cg d a b) (a0 : 0 ≤ a) (a1 : a < d) (b0 : 0 ≤ b) (b1 : b < d) : a = b := by
  obtain ⟨k, h⟩ := h
  have := uniqNN (b := d) (q := 0) (r := a) (q' := k) (r' := b) (by omega) a0 a1 b0 b1
  exact this.2
/-- an odd divisor below the power of two, and its inverse -/
structure Mont (d P inv : Int) : Prop where
  d0 : 0 < d
  dP : d < P
  iv : ∃ j, inv * d = 1 + j * P
theorem Mont.cancel {d P inv a b : Int} (H : Mont d P inv) (h : Cg d (a * P) (b * P)) : Cg d a b := by
  obtain ⟨j, hj⟩ := H.iv
  obtain ⟨k, hk⟩ := h
  refine ⟨(a - b) * inv - j * k, ?_⟩
  have e : (a - b) * (inv * d) = (a - b) + j * (a * P - b * P) := by rw [hj]; grind
  have e2 : a * P - b * P = k * d := by omega
  rw [e2] at e
  grind
/-- what a step down tells -/
structure Redc (d P N r : Int) : Prop where
  r0 : 0 ≤ r
  r1 : r < d
  c : Cg d (r * P) N
theorem Mont.redc {d P inv N times made : Int} (H : Mont d P inv) (n0 : 0 ≤ N) (n1 : N < d * P) (ht : times = (-(N * inv)) % P) (hm : made = (N + times * d) / P) :
    (made ≥ d → Redc d P N (made - d)) ∧ (¬ made ≥ d → Redc d P N made) := by
  obtain ⟨d0, dP, j, hj⟩ := H
  have hP : 0 < P := by omega
  have t0 : 0 ≤ times := by rw [ht]; exact Int.emod_nonneg _ (by omega)
  have t1 : times < P := by rw [ht]; exact Int.emod_lt_of_pos _ hP
  have t2 := Int.mul_ediv_add_emod (-(N * inv)) P
  rw [← ht] at t2
  generalize -(N * inv) / P = t at t2
  have key : N + times * d = (-(N * j) - t * d) * P := by
    have e1 : times = -(N * inv) - P * t := by omega
    have e2 : N * (inv * d) = N + N * j * P := by rw [hj]; grind
    rw [e1]
    grind
  have hm' : made = -(N * j) - t * d := by rw [hm, key]; exact Int.mul_ediv_cancel _ (by omega)
  rw [← hm'] at key
  have td : 0 ≤ times * d := Int.mul_nonneg t0 (by omega)
  have td1 : times * d ≤ (P - 1) * d := mul_le_of (by omega) (by omega)
  have td2 : (P - 1) * d = d * P - d := by grind
  have m0 : 0 ≤ made := by
    have : (-1) * P < made * P := by omega
    have := lt_of_mul hP this
    omega
  have m1 : made < 2 * d := by
    refine lt_of_mul hP ?_
    have : 2 * d * P = d * P + d * P := by grind
    omega
  refine ⟨fun h => ⟨by omega, by omega, times - P, ?_⟩, fun h => ⟨m0, by omega, times, by omega⟩⟩
  rw [Int.sub_mul, Int.sub_mul, Int.mul_comm P d]; omega
theorem Redc.bits {d P N r : Int} (H : Redc d P N r) {n : Nat} (h : intBits d ≤ n) : intBits r ≤ n :=
  bits_of_natAbs_le (b := d) (by have := H.r0; have := H.r1; omega) h
/-- the next product -/
theorem Mont.next {d P inv rest other shape kept shape' rest' : Int} (H : Mont d P inv) (h1 : Cg d shape (rest * P)) (h2 : Cg d kept (other * P)) (h3 : Redc d P (shape * kept) shape') (h4 : Redc d P shape' rest') :
    Cg d shape' (rest' * P) ∧ Cg d rest' (rest * other) := by
  refine ⟨h4.c.symm, ?_⟩
  refine H.cancel (H.cancel ?_)
  have e1 := h4.c.mul (Cg.rfl' d P)
  have e2 := h3.c
  have e3 := h1.mul h2
  have e4 : rest * P * (other * P) = rest * other * P * P := by grind
  rw [e4] at e3
  exact e1.trans (e2.trans e3)
/-- the quotient by the low end -/
theorem Mont.quot {d P inv N rest quotient : Int} (H : Mont d P inv) (c : Cg d rest N) (r0 : 0 ≤ rest) (r1 : rest < d) (n0 : 0 ≤ N) (n1 : N < d * P) (hq : quotient = ((N - rest) * inv) % P) :
    N = quotient * d + rest ∧ 0 ≤ quotient ∧ quotient < P := by
  obtain ⟨d0, dP, j, hj⟩ := H
  have hP : 0 < P := by omega
  obtain ⟨k, hk⟩ := c.symm
  have e : (N - rest) * inv = k + k * j * P := by
    have : N - rest = k * d := by omega
    rw [this]
    have : k * d * inv = k * (inv * d) := by grind
    rw [this, hj]; grind
  have k0 : 0 ≤ k := by
    have : (-1) * d < k * d := by omega
    have := lt_of_mul d0 this
    omega
  have k1 : k < P := by
    refine lt_of_mul d0 ?_
    rw [Int.mul_comm P]; omega
  have hk2 : quotient = k := by
    rw [hq, e, Int.add_mul_emod_self_right]; exact Int.emod_eq_of_lt k0 k1
  rw [hk2]
  exact ⟨by omega, k0, k1⟩
/-- a turn of the inverse -/
theorem inv_turn {d f j K : Int} (h : d * f = 1 + j * K) : d * (f * (2 - d * f)) = 1 + -(j * j) * (K * K) := by
  have : d * (f * (2 - d * f)) = (d * f) * (2 - d * f) := by grind
  rw [this, h]; grind
theorem inv_mod {d g j K : Int} (h : d * g = 1 + j * K) : ∃ j', d * (g % K) = 1 + j' * K := by
  have := Int.mul_ediv_add_emod g K
  refine ⟨j - d * (g / K), ?_⟩
  have e : g % K = g - K * (g / K) := by omega
  rw [e, Int.mul_sub, h]; grind
end Mine
namespace Mine
section
variable {prog : Program} {w : World} {A : Around} {E : Value → Shared → Prop} {s : Shared}
theorem adjust_upto (b n : Nat) : Builtin.Slice.sliceAdjust none (some (b : Int)) 1 (n : Int) = (((0 : Nat) : Int), ((min b n : Nat) : Int)) := by
  unfold Builtin.Slice.sliceAdjust
  have h1 : ¬ ((1 : Int) < 0) := by omega
  have h2 : ¬ ((b : Int) < 0) := by omega
  simp only [h1, h2, if_false]
  congr 1
  omega
theorem sliceApplied_upto {sl : Addr} {b n : Nat} {u : Tok} {Q : Int × Int × Nat → Shared → Prop} (hs : s.heap.IsSliceOf sl .none (.int b u) .none) (h : Q (((0 : Nat) : Int), 1, min b n) s) :
    wpAny (model prog w) A (Builtin.Slice.sliceApplied (.ref sl) (pure (n : Int))) Q E s := by
  obtain ⟨os, hos, hcs, hds⟩ := id hs
  unfold Builtin.Slice.sliceApplied Builtin.Slice.sliceFields
  refine wpAny_bind (wpAny_bind (wpAny_field hos hds (x := .none) rfl (wpAny_bind (wpAny_field hos hds (x := .int b u) rfl (wpAny_bind (wpAny_field hos hds (x := .none) rfl (wpAny_pure ?_)))))))
  refine wpAny_bind (slicePart_none ?_)
  show wpAny _ _ (if ((1 : Int) == 0) = true then _ else _) _ _ s
  rw [if_neg (by decide)]
  refine wpAny_bind (slicePart_none (wpAny_bind (slicePart_int (wpAny_bind (wpAny_pure ?_)))))
  show wpAny _ _ (match Builtin.Slice.sliceAdjust none (some (b : Int)) 1 (n : Int) with | (lo, hi) => pure (lo, (1 : Int), Builtin.Slice.slicePlaces lo hi 1)) _ _ s
  rw [adjust_upto b n]
  show wpAny _ _ (pure (((0 : Nat) : Int), (1 : Int), Builtin.Slice.slicePlaces ((0 : Nat) : Int) ((min b n : Nat) : Int) 1)) _ _ s
  rw [places_from 0 (min b n) (Nat.zero_le _)]
  exact wpAny_pure h
theorem getItem_tuple_upto {t sl : Addr} {items : Array Value} {b : Nat} {u : Tok} {Q : Value → Shared → Prop} (ht : IsTup s.heap t items) (hs : s.heap.IsSliceOf sl .none (.int b u) .none) (hb : b < items.size)
    (h : Q (.ref s.heap.objs.size) { s with heap := s.heap.push { cls := .type "tuple", data := .seq (items.toList.take b).toArray } })
    (hsz : items.size ≤ sizeLine := by size_fits) : wpAny (model prog w) A (getItem (.ref t) (.ref sl)) Q E s := by
  have htake : sizeOk (.seq (items.toList.take b).toArray) := by
    show (items.toList.take b).toArray.size ≤ sizeLine
    rw [List.size_toArray, List.length_take, Array.length_toList]
    omega
  obtain ⟨os, hos, hcs, hds⟩ := id hs
  have hTs : s.TypeIs (.ref sl) "slice" := ⟨os, hos, hcs⟩
  unfold getItem
  try with_reducible refine wpAny_holding ?_
  first | refine wpAny_bind (wpAny_pure ?_) | skip
  refine wpAny_bind (wpAny_sequenceKey ht.typeIs (by decide) ?_)
  refine wpAny_bind (wpAny_callSpecial?_slot (name := Str.ofString "__getitem__") ht.typeIs slot_tuple_getitem
    (wpAny_call_entry slot_tuple_getitem ht.typeIs entry_tuple_getitem ?_ (args_tuple_getitem _ _)))
  show wpAny _ _ (Builtin.Tuple.tupleItemsOf (.ref t) >>= _) _ _ s
  refine wpAny_bind (tupleItemsOf_ ht ?_)
  refine wpAny_bind (wpAny_typeOf hTs ?_)
  rw [if_pos (by decide)]
  refine wpAny_bind (sliceApplied_upto hs ?_)
  have e1 : min b items.size = b := by omega
  rw [e1]
  have hno : ¬ ((((0 : Nat) : Int) == 0 && (1 : Int) == 1 && b == items.size) = true) := by
    have : (b == items.size) = false := by rw [beq_eq_false_iff_ne]; omega
    rw [this]; simp
  show wpAny _ _ (if (((0 : Nat) : Int) == 0 && (1 : Int) == 1 && b == items.size) = true then _ else _) _ _ s
  rw [if_neg hno]
  have e2 : ((List.range b).filterMap fun (k : Nat) => items[(((0 : Nat) : Int) + (k : Int) * 1).toNat]?).toArray = (items.toList.take b).toArray := by
    have e : (fun (k : Nat) => items[(((0 : Nat) : Int) + (k : Int) * 1).toNat]?) = fun k => items[0 + k]? := by
      funext k
      have : (((0 : Nat) : Int) + (k : Int) * 1).toNat = 0 + k := by omega
      rw [this]
    rw [e]
    have := pick_run items 0 b
    rw [List.filterMap_map] at this
    have e2 : ((fun x => items[x]?) ∘ fun x => 0 + x) = fun k => items[0 + k]? := rfl
    rw [e2] at this
    rw [this, List.drop_zero]
  rw [e2]
  first
    | exact wpAny_bind (m := Builtin.Tuple.tupleExact _) (wpAny_newObj_type (wpAny_pure ⟨_, rfl, wpAny_pure h⟩) htake)
    | exact wpAny_bind (m := Builtin.Tuple.tupleExact _) (wpAny_newObj_type (wpAny_bind (wpAny_pure (wpAny_pure ⟨_, rfl, wpAny_pure h⟩))) htake)
    | exact wpAny_bind (wpAny_bind (m := Builtin.Tuple.tupleExact _) (wpAny_newObj_type (wpAny_pure (wpAny_pure ⟨_, rfl, wpAny_pure h⟩)) htake))
    | exact wpAny_bind (wpAny_bind (m := Builtin.Tuple.tupleExact _) (wpAny_newObj_type (wpAny_pure ⟨_, rfl, wpAny_pure h⟩) htake))
theorem getItem_tuple_all {t sl : Addr} {items : Array Value} {b : Nat} {u : Tok} {Q : Value → Shared → Prop} (ht : IsTup s.heap t items) (hs : s.heap.IsSliceOf sl .none (.int b u) .none) (hb : items.size ≤ b)
    (h : Q (.ref t) s) : wpAny (model prog w) A (getItem (.ref t) (.ref sl)) Q E s := by
  obtain ⟨os, hos, hcs, hds⟩ := id hs
  have hTs : s.TypeIs (.ref sl) "slice" := ⟨os, hos, hcs⟩
  unfold getItem
  try with_reducible refine wpAny_holding ?_
  first | refine wpAny_bind (wpAny_pure ?_) | skip
  refine wpAny_bind (wpAny_sequenceKey ht.typeIs (by decide) ?_)
  refine wpAny_bind (wpAny_callSpecial?_slot (name := Str.ofString "__getitem__") ht.typeIs slot_tuple_getitem
    (wpAny_call_entry slot_tuple_getitem ht.typeIs entry_tuple_getitem ?_ (args_tuple_getitem _ _)))
  show wpAny _ _ (Builtin.Tuple.tupleItemsOf (.ref t) >>= _) _ _ s
  refine wpAny_bind (tupleItemsOf_ ht ?_)
  refine wpAny_bind (wpAny_typeOf hTs ?_)
  rw [if_pos (by decide)]
  refine wpAny_bind (sliceApplied_upto hs ?_)
  have e1 : min b items.size = items.size := by omega
  rw [e1]
  have hyes : (((0 : Nat) : Int) == 0 && (1 : Int) == 1 && items.size == items.size) = true := by simp
  show wpAny _ _ (if (((0 : Nat) : Int) == 0 && (1 : Int) == 1 && items.size == items.size) = true then _ else _) _ _ s
  rw [if_pos hyes]
  refine wpAny_bind ?_
  unfold Builtin.Tuple.tupleIsExact
  refine wpAny_bind (wpAny_typeOf ht.typeIs ?_)
  refine wpAny_pure ?_
  rw [if_pos (by decide)]
  refine wpAny_bind (wpAny_rule ?_)
  exact wpAny_pure ⟨_, rfl, wpAny_pure h⟩
end
section
variable {prog : Program} {w : World} {A : Around} {E : Value → Shared → Prop} {s : Shared} {h₀ : Heap} {L : Addr} {m : Str → Option Value} {news : List (Addr × Obj)}
theorem slice_tuple_upto {value slice : Expr} {t : Addr} {items zs : Array Value} {b : Nat} {bi : Int} {u : Tok} {Q : Value → Shared → Prop}
    (F : Fr h₀ L s.heap m) (N : News h₀ L s.heap news) (ht : IsTup s.heap t items) (hbi : bi = (b : Int)) (hb : b < items.size) (hz : (items.toList.take b).toArray = zs)
    (h : ∀ D h', Fr h₀ L h' m → News h₀ L h' ((D, { cls := .type "tuple", data := .seq zs }) :: news) → (∀ p ∈ news, p.1 < D) → Q (.ref D) { s with heap := h' })
    (hs : subscripted slice false (.ref t) (.ref s.heap.objs.size) = operate [.ref s.heap.objs.size, .ref t] (getItem (.ref t) (.ref s.heap.objs.size)))
    (hsz : items.size ≤ sizeLine) :
    wpAny (model prog w) A (subscriptTail value slice (.ref t) (.ref s.heap.objs.size)) Q E { s with heap := s.heap.push { cls := .type "slice", data := .fields #[.none, .int bi u, .none] } } := by
  subst hbi
  subst hz
  refine kba_turn (value' := PySem.Expr.Name (PySem.Str.ofString "_") ⟨0, 0, 0, 0⟩) (fun _ => rfl) ?_
  have ht' : IsTup (s.heap.push { cls := .type "slice", data := .fields #[.none, .int b u, .none] }) t items := ht.keeps fun _ _ e => Heap.get?_push_of_some _ e
  refine subscriptTail_ops (s := { s with heap := s.heap.push { cls := .type "slice", data := .fields #[.none, .int b u, .none] } }) ht'.typeIs slot_tuple_getitem.lookup
    (getItem_tuple_upto ht' (Heap.IsSliceOf.new ..) hb ?_ hsz) hs (fun _ => rfl)
  have N1 := News.push (F.push { cls := .type "slice", data := .fields #[.none, .int b u, .none] }) (N.grown fun _ _ e => Heap.get?_push_of_some _ e) { cls := .type "tuple", data := .seq (items.toList.take b).toArray }
  rw [Heap.size_push] at N1
  show Q (.ref (s.heap.push _).objs.size) _
  rw [Heap.size_push]
  exact h _ _ ((F.push _).push _) N1 fun p hp => Nat.lt_succ_of_lt (Heap.lt_size (N p hp).1)
theorem slice_tuple_all {value slice : Expr} {t : Addr} {items : Array Value} {b : Nat} {bi : Int} {u : Tok} {Q : Value → Shared → Prop}
    (F : Fr h₀ L s.heap m) (N : News h₀ L s.heap news) (ht : IsTup s.heap t items) (hbi : bi = (b : Int)) (hb : items.size ≤ b)
    (h : ∀ h', Fr h₀ L h' m → News h₀ L h' news → Q (.ref t) { s with heap := h' })
    (hs : subscripted slice false (.ref t) (.ref s.heap.objs.size) = operate [.ref s.heap.objs.size, .ref t] (getItem (.ref t) (.ref s.heap.objs.size))) :
    wpAny (model prog w) A (subscriptTail value slice (.ref t) (.ref s.heap.objs.size)) Q E { s with heap := s.heap.push { cls := .type "slice", data := .fields #[.none, .int bi u, .none] } } := by
  subst hbi
  refine kba_turn (value' := PySem.Expr.Name (PySem.Str.ofString "_") ⟨0, 0, 0, 0⟩) (fun _ => rfl) ?_
  have ht' : IsTup (s.heap.push { cls := .type "slice", data := .fields #[.none, .int b u, .none] }) t items := ht.keeps fun _ _ e => Heap.get?_push_of_some _ e
  refine subscriptTail_ops (s := { s with heap := s.heap.push { cls := .type "slice", data := .fields #[.none, .int b u, .none] } }) ht'.typeIs slot_tuple_getitem.lookup
    (getItem_tuple_all ht' (Heap.IsSliceOf.new ..) hb ?_) hs (fun _ => rfl)
  exact h _ (F.push _) (N.grown fun _ _ e => Heap.get?_push_of_some _ e)
end
section
variable {prog : Program} {w : World} {A : Around} {E : Value → Shared → Prop} {s : Shared} {h₀ : Heap} {env : Env} {target : Expr} {body : List Stmt} {Q : Flow → Shared → Prop}
theorem iter_tup1 {ax : Addr} {v1 : Value} {n : Nat} {m₀ : Str → Option Value} {news : List (Addr × Obj)}
    (hh : A.handled = none) (F : Fr h₀ env.locals s.heap m₀) (N : News h₀ env.locals s.heap news) (hm : (ax, ({ cls := .type "tuple", data := .seq #[v1] n } : Obj)) ∈ news)
    (rest₀ : ∀ I : Addr, (∀ p ∈ news, p.1 < I) → ItemsRest prog w A E h₀ env target body Q s [(I, "tuple_iterator")] [(ax, { cls := .type "tuple", data := .seq #[v1] n })] [.val v1] m₀ news) :
    wpAny (model prog w) A (pyIter (.ref ax)) (fun it s₂ => TurnsAt prog w A h₀ env target body Q E it s₂) E s := iter_tupTurns (vs := [v1]) hh F N hm rfl rfl rest₀
theorem iter_tup2 {ax : Addr} {v1 v2 : Value} {n : Nat} {m₀ : Str → Option Value} {news : List (Addr × Obj)}
    (hh : A.handled = none) (F : Fr h₀ env.locals s.heap m₀) (N : News h₀ env.locals s.heap news) (hm : (ax, ({ cls := .type "tuple", data := .seq #[v1, v2] n } : Obj)) ∈ news)
    (rest₀ : ∀ I : Addr, (∀ p ∈ news, p.1 < I) → ItemsRest prog w A E h₀ env target body Q s [(I, "tuple_iterator")] [(ax, { cls := .type "tuple", data := .seq #[v1, v2] n })] [.val v1, .val v2] m₀ news) :
    wpAny (model prog w) A (pyIter (.ref ax)) (fun it s₂ => TurnsAt prog w A h₀ env target body Q E it s₂) E s := iter_tupTurns (vs := [v1, v2]) hh F N hm rfl rfl rest₀
theorem unr_end {L I : Addr} {o : Obj} {rest : (Str → Option Value) → List (Addr × Obj) → Prop} {s₁ : Shared} {h' : Heap} {tk : Nat} {m' : Str → Option Value} {all news' : List (Addr × Obj)} (hl : ∀ p ∈ news', p.1 < I) (F : Fr h₀ L h' m') (N : News h₀ L h' all)
    (hI : (I, o) ∈ all) (sub : ∀ p ∈ news', p ∈ all) (r : rest m' news') : UnrEndW h₀ L s₁ [(I, o)] rest { s₁ with heap := h', toks := tk } :=
  ⟨h', tk, m', news', rfl, F, fun p hp => by
    rcases List.mem_append.mp hp with hp | hp
    · rw [List.mem_singleton.mp hp]; exact N _ hI
    · exact N p (sub p hp), fun p hp q hq e => by
    rw [List.mem_singleton.mp hq] at e
    exact Nat.ne_of_lt (hl p hp) e, r⟩
end
section
variable {prog : Program} {w : World} {A : Around} {E : Value → Shared → Prop} {s : Shared} {h₀ : Heap} {L : Addr} {m : Str → Option Value} {news : List (Addr × Obj)}
theorem slice_pair_one {value slice : Expr} {t : Addr} {v1 v2 : Value} {n : Nat} {bi : Int} {u : Tok} {Q : Value → Shared → Prop}
    (F : Fr h₀ L s.heap m) (N : News h₀ L s.heap news) (ht : (t, ({ cls := .type "tuple", data := .seq #[v1, v2] n } : Obj)) ∈ news) (hbi : bi = 1)
    (h : ∀ D h', Fr h₀ L h' m → News h₀ L h' ((D, { cls := .type "tuple", data := .seq #[v1] }) :: news) → (∀ p ∈ news, p.1 < D) → Q (.ref D) { s with heap := h' })
    (hs : subscripted slice false (.ref t) (.ref s.heap.objs.size) = operate [.ref s.heap.objs.size, .ref t] (getItem (.ref t) (.ref s.heap.objs.size))) :
    wpAny (model prog w) A (subscriptTail value slice (.ref t) (.ref s.heap.objs.size)) Q E { s with heap := s.heap.push { cls := .type "slice", data := .fields #[.none, .int bi u, .none] } } :=
  slice_tuple_upto (b := 1) (items := #[v1, v2]) F N (News.isTup N ht) hbi (Nat.le_of_ble_eq_true rfl) rfl h hs (Nat.le_of_ble_eq_true rfl)
theorem slice_pair_two {value slice : Expr} {t : Addr} {v1 v2 : Value} {n : Nat} {bi : Int} {u : Tok} {Q : Value → Shared → Prop}
    (F : Fr h₀ L s.heap m) (N : News h₀ L s.heap news) (ht : (t, ({ cls := .type "tuple", data := .seq #[v1, v2] n } : Obj)) ∈ news) (hbi : bi = 2)
    (h : ∀ h', Fr h₀ L h' m → News h₀ L h' news → Q (.ref t) { s with heap := h' })
    (hs : subscripted slice false (.ref t) (.ref s.heap.objs.size) = operate [.ref s.heap.objs.size, .ref t] (getItem (.ref t) (.ref s.heap.objs.size))) :
    wpAny (model prog w) A (subscriptTail value slice (.ref t) (.ref s.heap.objs.size)) Q E { s with heap := s.heap.push { cls := .type "slice", data := .fields #[.none, .int bi u, .none] } } :=
  slice_tuple_all (b := 2) (items := #[v1, v2]) F N (News.isTup N ht) hbi (Nat.le_of_ble_eq_true rfl) h hs
end
end Mine
namespace Mine
def PairCall (prog : Program) (w : World) (K : Frag) (p : Program) (loose : List Str) (mean : ExcName → Option Value) (mg mb : Str → Option Value) (f : Addr) (vs : List Value) (q r : Int) (k : Nat) : Prop :=
  ∀ (dp un : Nat) (gd : Option (List Code)) (cn : Str) (cs : Scope) (a : Addr) (ccd : Value) (cl : List (Str × Addr)) (outer : List Env) (A₀ : Around) (base h₀ : Heap) (L : Addr) (m : Str → Option Value) (news : List (Addr × Obj)) (s : Shared)
    (Q E : Value → Shared → Prop),
    Below A₀ base outer h₀ → Fr h₀ L s.heap m → K.In h₀ → News h₀ L s.heap news → Top p loose mean mg mb h₀ → cs.kind = .function → dp + k + 104 < recursionLimit → un + 8 * k + 100 < cLine →
    (∀ D t1 t2 c h' tk', Fr h₀ L h' m → News h₀ L h' ((D, pairO q r t1 t2 c) :: news) → AllLt D news → Q (.ref D) { s with heap := h', toks := tk' }) →
    wpAny (model prog w) (ktrTop dp un gd cn cs L a ccd cl outer) (call (.ref f) vs) Q E s

theorem pair_use {prog : Program} {w : World} {K : Frag} {p : Program} {loose : List Str} {mean : ExcName → Option Value} {mg mb : Str → Option Value} {f : Addr} {vs : List Value} {q r : Int} {k : Nat}
   {dp un : Nat} {gd : Option (List Code)} {cn : Str} {cs : Scope} {a : Addr} {ccd : Value} {cl : List (Str × Addr)} {outer : List Env} {A₀ : Around} {base h₀ : Heap} {L : Addr} {m : Str → Option Value} {news : List (Addr × Obj)} {s : Shared} {Q E : Value → Shared → Prop}
   (B : Below A₀ base outer h₀) (F : Fr h₀ L s.heap m) (X : K.In h₀) (N : News h₀ L s.heap news) (T : Top p loose mean mg mb h₀) (hk : cs.kind = .function) (C : PairCall prog w K p loose mean mg mb f vs q r k)
   (hd : dp + k + 104 < recursionLimit) (hu : un + 8 * k + 100 < cLine)
   (ret : ∀ D t1 t2 c h' tk', Fr h₀ L h' m → News h₀ L h' ((D, pairO q r t1 t2 c) :: news) → AllLt D news → Q (.ref D) { s with heap := h', toks := tk' }) :
    wpAny (model prog w) (ktrTop dp un gd cn cs L a ccd cl outer) (call (.ref f) vs) Q E s := C _ _ _ _ _ _ _ _ _ _ _ _ _ _ _ _ _ _ B F X N T hk hd hu ret

section
variable (w : World) (mean : ExcName → Option Value) (mg mb : Str → Option Value)
abbrev PC := PairCall PySem.Challenge.rw_dn0134_04.row.prog w (hd.heap_39 w.params) hd.view_39 (looseW hd.view_39 []) mean mg mb
def Div2 (k : Nat) : Prop := ∀ (a b n q r : Int) (t u v : Tok), Pre2 a b n q r → n ≤ 2 ^ k → k ≤ 19 → PC w mean mg mb 21 [.int a t, .int b u, .int n v] q r (2 * k + 2)
def Div3 (k : Nat) : Prop := ∀ (a12 a3 b b1 b2 n q r : Int) (t1 t2 t3 t4 t5 t6 : Tok), Pre3 a12 a3 b b1 b2 n q r → n ≤ 2 ^ k → k ≤ 19 → PC w mean mg mb 28 [.int a12 t1, .int a3 t2, .int b t3, .int b1 t4, .int b2 t5, .int n t6] q r (2 * k + 3)
end
end Mine
namespace Mine
open PySem.Builtin.Int (intBits)
local macro_rules | `(tactic| bits_by_make) => `(tactic| with_reducible assumption)
local macro_rules | `(tactic| walk_at "exec While Compare cons cons") => `(tactic| k_extra "mywhile")
local macro_rules | `(tactic| walk_at "exec While Compare cons nil") => `(tactic| k_extra "mywhile")
set_option maxRecDepth 100000 in
set_option maxHeartbeats 8000000 in
theorem div3_step (w : World) (mean : ExcName → Option Value) (mg mb : Str → Option Value) (k : Nat) (H : Div2 w mean mg mb k) : Div3 w mean mg mb k := by
  (have hh : PySem.Challenge.rw_dn0134_04 = PySem.Challenge.rw_dn0134_04 ∧ hd.heap_39 = hd.heap_39 := by (k_fill; exact ⟨rfl, rfl⟩))
  clear hh
  k_with_none
  intro a12 a3 b b1 b2 n q r t1 t2 t3 t4 t5 t6 P hn hk19
  have hn19 : n ≤ 524288 := Int.le_trans hn (pmono hk19)
  have hn1 := P.n1
  have hbp : intBits ((2 : Int) ^ n.toNat) ≤ 600000 := Nat.le_trans (bits_of_lt (k := n.toNat + 1) (Int.le_of_lt (ppos _)) (by rw [Int.pow_succ]; have := ppos n.toNat; omega)) (by omega)
  have hbb1 : intBits b1 ≤ 600000 := Nat.le_trans (bits_of_lt (by have := ppos (n.toNat - 1); have := P.b10; omega) P.b11) (by omega)
  have hbb2 : intBits b2 ≤ 600000 := Nat.le_trans (bits_of_lt P.b20 P.b21) (by omega)
  have hba : intBits a12 ≤ 5000000 := bits_of_natAbs_le (b := b) (by have := P.a12b; omega) (by rw [P.e]; exact Nat.le_trans (bits_add (bits_mul hbb1 hbp) hbb2) (by decide))
  unfold PC PairCall
  intro dp un gd cn cs a ccd cl outer A₀ base h₀ L m news s Q E B F X N T hk hd hu hret
  k_with "call ref" => (
    obtain ⟨q', r', hP'⟩ := P.neCase (by rw [← fdivP]; assumption)
    have hbr : intBits r' ≤ 600000 := Nat.le_trans (bits_of_lt hP'.r0 (Int.lt_trans hP'.r1 hP'.b2)) (by omega)
    have hbq : intBits q' ≤ 600000 := Nat.le_trans (bits_of_lt hP'.q0 hP'.q1) (by omega)
    (refine' pair_use ?k1 ?k2 ?k3 ?k4 ?k5 ?kK (H _ _ _ q' r' _ _ _ hP' hn hk19) ?kd ?ku ?_)
    (case k1 => k_asm)
    (case k2 => k_asm)
    (case k3 => k_asm)
    (case k4 => k_asm)
    (case k5 => k_asm)
    (case kK => exact rfl)
    (case kd => ktr_room)
    (case ku => ktr_units)
    intro D' x1 x2 c' h' tk' F' N' l'
    (try dsimp only)
    (try k_fold))
  k_with "mywhile" => (k_while (fun _ x y => y * b + x = q * b + r ∧ x < b) (fun _ x y => (- x).toNat) "r" "q")
  k_with "state" => (first | exact P.start1 (by assumption) | exact P.start2 (by assumption) | exact d3_turn ⟨by assumption, by assumption⟩ (by assumption))
  have hb0 : 0 < b := by have := P.r0; have := P.r1; omega
  refine wpAny_call ?_
  k_dflt ktr_enter
  k_steps
  all_goals (
    obtain ⟨e1, e2⟩ := P.fin (by assumption) (by assumption) (by assumption)
    subst e1
    subst e2
    refine hret _ _ _ _ _ _ (by k_asm) (news_sub (by k_asm) (sub0 (sub1 subr))) ?_
    first | assumption | exact And.right (by assumption))
end Mine
namespace Mine
open PySem.Builtin.Int (intBits)
local macro_rules | `(tactic| bits_by_make) => `(tactic| with_reducible assumption)
local macro_rules | `(tactic| walk_at "binaryOp RShift int int") => `(tactic| k_extra "half")
local macro_rules | `(tactic| walk_at "inplaceOp RShift int int") => `(tactic| with_reducible refine ihalf_z ?_)
local macro_rules | `(tactic| walk_at "inplaceOp LShift int int") => `(tactic| (with_reducible refine ilshift_int ?kbn ?kbs ?_; (case kbn => decide); (case kbs => refine kbm_shl (m := 2000000) (Nat.le_trans (by with_reducible assumption) ?_) ?_ ?_ <;> decide)))
local macro_rules | `(tactic| walk_at "call builtin:divmod") => `(tactic| k_extra "mydiv")
set_option maxRecDepth 100000 in
set_option maxHeartbeats 8000000 in
theorem div2_step (w : World) (mean : ExcName → Option Value) (mg mb : Str → Option Value) (k : Nat) (H : ∀ j, k = j + 1 → Div3 w mean mg mb j) : Div2 w mean mg mb k := by
  (have hh : PySem.Challenge.rw_dn0134_04 = PySem.Challenge.rw_dn0134_04 ∧ hd.heap_39 = hd.heap_39 := by (k_fill; exact ⟨rfl, rfl⟩))
  clear hh
  k_with_none
  intro a b n q r t1 t2 t3 P hn hk19
  have hn19 : n ≤ 524288 := Int.le_trans hn (pmono hk19)
  have hn1 := P.n1
  have hba : intBits a ≤ 1200000 := Nat.le_trans (bits_of_lt P.a0 P.alt) (by omega)
  have hbb : intBits b ≤ 600000 := Nat.le_trans (bits_of_lt (by have := P.r0; have := P.r1; omega) P.b2) (by omega)
  have hb0 : b ≠ 0 := by have := P.r0; have := P.r1; omega
  unfold PC PairCall
  intro dp un gd cn cs aa ccd cl outer A₀ base h₀ L m news s Q E B F X N T hk hd hu hret
  k_with "half" => (first
    | (with_reducible refine half_z (halves0 (by assumption)) ?_; intro hz ez)
    | (with_reducible refine half_z (halves1 (by assumption)) ?_; intro hz ez))
  k_with "mydiv" => (
    (refine' divmod_D ?k1 ?k2 hb0 P.fdm (PySem.PylongRoom.of (PySem.Heap.NoLimit.keeps (PyProof.Rows.Top.nolimit (by assumption)) (PyProof.Rows.Fr.keep (by assumption))) ?kd) ?_)
    (case k1 => k_asm)
    (case k2 => k_asm)
    (case kd => (simp only [Builtin.pylongFrames]; ktr_room))
    intro D' x1 x2 h' tk' F' N' l'
    (try dsimp only)
    (try k_fold))
  k_with "call ref" => (first
    | (
      (refine' pair_use ?k1 ?k2 ?k3 ?k4 ?k5 ?kK (hJ _ _ _ _ _ _ q2 _ _ _ _ _ _ _ h2 hjz hj19) ?kd ?ku ?_)
      (case k1 => k_asm)
      (case k2 => k_asm)
      (case k3 => k_asm)
      (case k4 => k_asm)
      (case k5 => k_asm)
      (case kK => exact rfl)
      (case kd => ktr_room)
      (case ku => ktr_units)
      intro D' x1 x2 c' h' tk' F' N' l'
      (try dsimp only)
      (try k_fold))
    | (
      obtain ⟨j, hj⟩ : ∃ j, k = j + 1 := ⟨k - 1, by have := P.big (by assumption); have : k ≠ 0 := (by intro e; subst e; simp at hn; omega); omega⟩
      have hJ := H j hj
      have hj19 : j ≤ 19 := by omega
      have hjz : hz ≤ 2 ^ j := halfLe ez (by rw [← hj]; omega)
      obtain ⟨q1, r1, q2, h1, h2, h3⟩ := (by first | exact P.halvesT ez | exact P.padT.halvesT ez : ∃ q1 r1 q2, _ ∧ _ ∧ _)
      have hbq1 : intBits q1 ≤ 600000 := Nat.le_trans (bits_of_lt h1.q0 h1.q1) (by omega)
      (refine' pair_use ?k1 ?k2 ?k3 ?k4 ?k5 ?kK (hJ _ _ _ _ _ _ q1 r1 _ _ _ _ _ _ h1 hjz hj19) ?kd ?ku ?_)
      (case k1 => k_asm)
      (case k2 => k_asm)
      (case k3 => k_asm)
      (case k4 => k_asm)
      (case k5 => k_asm)
      (case kK => exact rfl)
      (case kd => ktr_room)
      (case ku => ktr_units)
      intro D' x1 x2 c' h' tk' F' N' l'
      (try dsimp only)
      (try k_fold)))
  refine wpAny_call ?_
  k_dflt ktr_enter
  k_steps
  all_goals (first
    | exact absurd ‹Builtin.bitAnd n 1 = 0› ‹Builtin.bitAnd n 1 ≠ 0›
    | exact hret _ _ _ _ _ _ (by k_asm) (by k_asm) (by assumption)
    | (subst h3; refine hret _ _ _ _ _ _ (by k_asm) (news_sub (by k_asm) (sub0 (sub1 (sub1 (sub1 subr))))) ?_; exact (And.right (And.right (And.right (by assumption))))))
theorem div_all (w : World) (mean : ExcName → Option Value) (mg mb : Str → Option Value) : ∀ k, Div2 w mean mg mb k ∧ Div3 w mean mg mb k
  | 0 => have h := div2_step w mean mg mb 0 (fun j e => by omega); ⟨h, div3_step w mean mg mb 0 h⟩
  | k + 1 => have h := div2_step w mean mg mb (k + 1) (fun j e => by obtain rfl : k = j := by omega
                                                                     exact (div_all w mean mg mb k).2); ⟨h, div3_step w mean mg mb (k + 1) h⟩
theorem use2 {w : World} {mean : ExcName → Option Value} {mg mb : Str → Option Value} {a b n q r : Int} {t u v : Tok} (h : Pre2 a b n q r) (hn : n ≤ 262144) : PC w mean mg mb 21 [.int a t, .int b u, .int n v] q r 38 := (div_all w mean mg mb 18).1 a b n q r t u v h hn (by decide)
theorem use3 {w : World} {mean : ExcName → Option Value} {mg mb : Str → Option Value} {a12 a3 b b1 b2 n q r : Int} {t1 t2 t3 t4 t5 t6 : Tok} (h : Pre3 a12 a3 b b1 b2 n q r) (hn : n ≤ 262144) : PC w mean mg mb 28 [.int a12 t1, .int a3 t2, .int b t3, .int b1 t4, .int b2 t5, .int n t6] q r 39 := (div_all w mean mg mb 18).2 a12 a3 b b1 b2 n q r t1 t2 t3 t4 t5 t6 h hn (by decide)
end Mine
namespace Mine
def RelCall (prog : Program) (w : World) (K : Frag) (p : Program) (loose : List Str) (mean : ExcName → Option Value) (mg mb : Str → Option Value) (f : Addr) (vs : List Value) (R : Int → Prop) (k : Nat) : Prop :=
  ∀ (dp un : Nat) (gd : Option (List Code)) (cn : Str) (cs : Scope) (a : Addr) (ccd : Value) (cl : List (Str × Addr)) (outer : List Env) (A₀ : Around) (base h₀ : Heap) (L : Addr) (m : Str → Option Value) (news : List (Addr × Obj)) (s : Shared)
    (Q E : Value → Shared → Prop),
    Below A₀ base outer h₀ → Fr h₀ L s.heap m → K.In h₀ → News h₀ L s.heap news → Top p loose mean mg mb h₀ → cs.kind = .function → dp + k + 104 < recursionLimit → un + 8 * k + 100 < cLine →
    (∀ z t h' tk', R z → Fr h₀ L h' m → News h₀ L h' news → Q (.int z t) { s with heap := h', toks := tk' }) →
    wpAny (model prog w) (ktrTop dp un gd cn cs L a ccd cl outer) (call (.ref f) vs) Q E s
theorem rel_use {prog : Program} {w : World} {K : Frag} {p : Program} {loose : List Str} {mean : ExcName → Option Value} {mg mb : Str → Option Value} {f : Addr} {vs : List Value} {R : Int → Prop} {k : Nat}
   {dp un : Nat} {gd : Option (List Code)} {cn : Str} {cs : Scope} {a : Addr} {ccd : Value} {cl : List (Str × Addr)} {outer : List Env} {A₀ : Around} {base h₀ : Heap} {L : Addr} {m : Str → Option Value} {news : List (Addr × Obj)} {s : Shared} {Q E : Value → Shared → Prop}
   (B : Below A₀ base outer h₀) (F : Fr h₀ L s.heap m) (X : K.In h₀) (N : News h₀ L s.heap news) (T : Top p loose mean mg mb h₀) (hk : cs.kind = .function) (C : RelCall prog w K p loose mean mg mb f vs R k)
   (hd : dp + k + 104 < recursionLimit) (hu : un + 8 * k + 100 < cLine)
   (ret : ∀ z t h' tk', R z → Fr h₀ L h' m → News h₀ L h' news → Q (.int z t) { s with heap := h', toks := tk' }) :
    wpAny (model prog w) (ktrTop dp un gd cn cs L a ccd cl outer) (call (.ref f) vs) Q E s := C _ _ _ _ _ _ _ _ _ _ _ _ _ _ _ _ _ _ B F X N T hk hd hu ret
section
variable (w : World) (mean : ExcName → Option Value) (mg mb : Str → Option Value)
abbrev RC := RelCall PySem.Challenge.rw_dn0134_04.row.prog w (hd.heap_39 w.params) hd.view_39 (looseW hd.view_39 []) mean mg mb
end
end Mine
namespace Mine
open PySem.Builtin.Int (intBits)
theorem shl1_pos {z : Int} {k : Nat} (h : z = 1 * 2 ^ k) : 0 < z := by rw [h, Int.one_mul]; exact ppos k
local macro_rules | `(tactic| bits_by_make) => `(tactic| with_reducible assumption)
local macro_rules | `(tactic| walk_at "storeName") => `(tactic| ((fail_if_success (with_reducible rename KPfMark => zMk)); (fail_if_success ((with_reducible refine abs_skip ?ka ?kb); (case ka => with_reducible assumption))); k_extra "abs"))
local macro_rules | `(tactic| walk_at "binaryOp Pow int int") => `(tactic| ((fail_if_success (with_reducible rename KPfMark => zMk)); (with_reducible refine' pow3_z ?ka ?kb ?_); (case ka => bits_by_make); (case kb => decide); k_extra "intro3"))
local macro_rules | `(tactic| walk_at "binaryOp Pow int int") => `(tactic| ((fail_if_success (with_reducible rename KPfMark => zMk)); (with_reducible refine pow2_p (N := 20000) ?kb1 ?kb2 ?kb3 ?_); (case kb1 => omega); (case kb2 => omega); (case kb3 => decide); k_extra "introP"))
local macro_rules | `(tactic| walk_at "binaryOp Mod int int") => `(tactic| ((fail_if_success (with_reducible rename KPfMark => zMk)); (with_reducible refine' mod_p ?ka ?kb ?_); (case ka => first | decide | assumption | k_extra "pos"); (case kb => bits_by_make); k_extra "introM"))
local macro_rules | `(tactic| walk_at "call ref") => `(tactic| k_extra "mycall")
local macro_rules | `(tactic| walk_at "binaryOp LShift int int") => `(tactic| ((fail_if_success (with_reducible rename KPfMark => zMk)); (with_reducible refine' shl_p (N := 40000) ?kb1 ?kb2 ?kb3 ?kb4 ?_); (case kb1 => omega); (case kb2 => bits_by_make); (case kb3 => omega); (case kb4 => decide); k_extra "introS"))
local macro_rules | `(tactic| walk_at "binaryOp RShift int int") => `(tactic| ((fail_if_success (with_reducible rename KPfMark => zMk)); (with_reducible refine' shr_p ?kb1 ?kb2 ?_); (case kb1 => omega); (case kb2 => bits_by_make); k_extra "introS"))
local macro_rules | `(tactic| walk_at "execs cons") => `(tactic| ((with_reducible refine gen_toks ?_); intro tk; (with_reducible refine wpAny_execs_cons ?_); try dsimp only))
local macro_rules | `(tactic| walk_at "execs nil") => `(tactic| ((with_reducible refine gen_toks ?_); intro tk; (with_reducible refine wpAny_execs_nil ?_)))
local macro_rules | `(tactic| walk_at "binaryOp Mult int int") => `(tactic| ((with_reducible refine' mul_p ?kb1 ?kb2 ?kb3 ?_); (case kb1 => bits_by_make); (case kb2 => bits_by_make); (case kb3 => decide)))
local macro_rules | `(tactic| walk_at "exec While Compare cons cons") => `(tactic| k_extra "mywhile")
local macro_rules | `(tactic| walk_at "exec While Compare cons nil") => `(tactic| k_extra "mywhile")
/-- what the law's step down tells -/
structure Wide4 (d width inv : Int) : Prop where
  w1 : 2 ≤ width
  w2 : width ≤ 9000
  m : Mont d (2 ^ width.toNat) inv
  b1 : 2 ^ (width.toNat - 1) < d
  bd : intBits d ≤ 9000
  bi : intBits inv ≤ 9000
theorem redc_z {d width inv N times zs made zt : Int} (H : Wide4 d width inv) (n0 : 0 ≤ N) (n1 : N < d * 2 ^ width.toNat) (ht : times = (-(N * inv)).fmod zs) (hs : zs = 1 * 2 ^ width.toNat) (hm : made = zt / 2 ^ width.toNat) (hz : zt = N + times * d) :
    (made ≥ d → Redc d (2 ^ width.toNat) N (made - d)) ∧ (¬ made ≥ d → Redc d (2 ^ width.toNat) N made) := by
  rw [Int.one_mul] at hs
  subst hs
  rw [fmodE _ (ppos _)] at ht
  exact H.m.redc n0 n1 ht (by rw [hm, hz])
set_option maxRecDepth 100000 in
set_option maxHeartbeats 8000000 in
theorem dropped_c (w : World) (mean : ExcName → Option Value) (mg mb : Str → Option Value) {nu d width inv : Int} {t1 t2 t3 t4 : Tok} (H : Wide4 d width inv) (n0 : 0 ≤ nu) (n1 : nu < d * 2 ^ width.toNat) (hN : intBits nu ≤ 20000) :
    RC w mean mg mb 49 [.int nu t1, .int d t2, .int width t3, .int inv t4] (Redc d (2 ^ width.toNat) nu) 2 := by
  (have hh : PySem.Challenge.rw_dn0134_04 = PySem.Challenge.rw_dn0134_04 ∧ hd.heap_39 = hd.heap_39 := by (k_fill; exact ⟨rfl, rfl⟩))
  clear hh
  k_with_none
  have hw1 := H.w1
  have hw2 := H.w2
  have hbd := H.bd
  have hbi := H.bi
  unfold RC RelCall
  intro dp un gd cn cs a ccd cl outer A₀ base h₀ L m news s Q E B F X N T hk hd hu hret
  k_with "abs" => (
      ((with_reducible refine' abs_store ?ka ?_); (case ka => bits_by_make); intro z az hz bz))
  k_with "introM" => (intro zm am hzm lom him bzm)
  k_with "introS" => (intro zs as hzs bzs; (try (have pzs := shl1_pos hzs)))
  k_with "pos" => (first | omega)
  refine wpAny_call ?_
  k_dflt ktr_enter
  k_steps
  all_goals (
    have hR := redc_z H n0 n1 (by assumption) (by assumption) (by assumption) rfl
    refine hret _ _ _ _ ?_ (by k_asm) (by k_asm)
    first | exact hR.1 (by assumption) | exact hR.2 (by assumption))
def IvS (d known found : Int) : Prop := 0 ≤ found ∧ ∃ j, d * found = 1 + j * 2 ^ known.toNat
theorem ivs_start {d k f : Int} (h : ∃ c, d = 2 * c + 1) (hk : k = 1) (hf : f = 1) : IvS d k f ∧ 1 ≤ k ∧ k ≤ 18000 ∧ intBits f ≤ 20000 := by
  subst hk; subst hf
  obtain ⟨c, h⟩ := h
  exact ⟨⟨by decide, c, by rw [show (2 : Int) ^ (1 : Int).toNat = 2 from rfl]; omega⟩, by decide, by decide, by decide⟩
theorem ivs_turn {d known k2 found zs zm : Int} (h : IvS d known found) (h0 : 1 ≤ known) (hk2 : k2 = known * 2) (hz : zs = 1 * 2 ^ k2.toNat) (hm : zm = (found * (2 - d * found)).fmod zs) (h1 : known < 9000) (lo : 0 ≤ zm) (hi : zm < zs) :
    IvS d k2 zm ∧ 1 ≤ k2 ∧ k2 ≤ 18000 ∧ intBits zm ≤ 20000 := by
  subst hk2
  obtain ⟨f0, j, hj⟩ := h
  rw [Int.one_mul] at hz
  subst hz
  rw [fmodE _ (ppos _)] at hm
  have e : (2 : Int) ^ (known * 2).toNat = 2 ^ known.toNat * 2 ^ known.toNat := by rw [← Int.pow_add]; congr 1; omega
  have k := inv_turn hj
  rw [← e] at k
  obtain ⟨j', hj'⟩ := inv_mod k
  rw [← hm] at hj'
  exact ⟨⟨lo, j', hj'⟩, by omega, by omega, Nat.le_trans (bits_of_lt lo hi) (by omega)⟩
structure InvR (d width z : Int) : Prop where
  iv : ∃ j, z * d = 1 + j * 2 ^ width.toNat
  b : intBits z ≤ 9000
theorem ivs_end {d known found zs zm width : Int} (h : IvS d known found) (w2 : width ≤ 9000) (h1 : ¬ known < width) (hz : zs = 1 * 2 ^ width.toNat) (hm : zm = found.fmod zs) (lo : 0 ≤ zm) (hi : zm < zs) : InvR d width zm := by
  obtain ⟨f0, j, hj⟩ := h
  rw [Int.one_mul] at hz
  subst hz
  rw [fmodE _ (ppos _)] at hm
  have e : (2 : Int) ^ known.toNat = 2 ^ (known.toNat - width.toNat) * 2 ^ width.toNat := by rw [← Int.pow_add]; congr 1; omega
  rw [e, ← Int.mul_assoc] at hj
  obtain ⟨j', hj'⟩ := inv_mod hj
  rw [← hm] at hj'
  exact ⟨⟨j', by rw [Int.mul_comm]; exact hj'⟩, Nat.le_trans (bits_of_lt lo hi) (by omega)⟩
set_option maxRecDepth 100000 in
set_option maxHeartbeats 8000000 in
theorem inverse_c (w : World) (mean : ExcName → Option Value) (mg mb : Str → Option Value) {d width : Int} {t1 t2 : Tok} (ho : ∃ c, d = 2 * c + 1) (w1 : 2 ≤ width) (w2 : width ≤ 9000) (hbd : intBits d ≤ 9000) :
    RC w mean mg mb 42 [.int d t1, .int width t2] (InvR d width) 2 := by
  (have hh : PySem.Challenge.rw_dn0134_04 = PySem.Challenge.rw_dn0134_04 ∧ hd.heap_39 = hd.heap_39 := by (k_fill; exact ⟨rfl, rfl⟩))
  clear hh
  k_with_none
  unfold RC RelCall
  intro dp un gd cn cs a ccd cl outer A₀ base h₀ L m news s Q E B F X N T hk hd hu hret
  k_with "abs" => (
      ((with_reducible refine' abs_store ?ka ?_); (case ka => bits_by_make); intro z az hz bz))
  k_with "introM" => (intro zm am hzm lom him bzm)
  k_with "introS" => (intro zs as hzs bzs; (try (have pzs := shl1_pos hzs)))
  k_with "pos" => (first | omega)
  k_with "mywhile" => ((k_while (fun _ known found => IvS d known found ∧ 1 ≤ known ∧ known ≤ 18000 ∧ intBits found ≤ 20000) (fun _ known found => (width - known).toNat) "known" "found"))
  k_with "state" => (first
    | exact ivs_start ho (by assumption) (by assumption)
    | exact ivs_turn (by assumption) (by assumption) (by assumption) (by assumption) (by assumption) (by omega) (by assumption) (by assumption))
  refine wpAny_call ?_
  k_dflt ktr_enter
  k_steps
  all_goals (refine hret _ _ _ _ ?_ (by k_asm) (news_sub (by k_asm) (sub1 subr)); exact ivs_end (by assumption) w2 (by assumption) (by assumption) (by assumption) (by assumption) (by assumption))
end Mine
namespace Mine
open PySem.Builtin.Int (intBits)
local macro_rules | `(tactic| bits_by_make) => `(tactic| with_reducible assumption)
local macro_rules | `(tactic| walk_at "storeName") => `(tactic| ((fail_if_success (with_reducible rename KPfMark => zMk)); (fail_if_success ((with_reducible refine abs_skip ?ka ?kb); (case ka => with_reducible assumption))); k_extra "abs"))
local macro_rules | `(tactic| walk_at "binaryOp Pow int int") => `(tactic| ((fail_if_success (with_reducible rename KPfMark => zMk)); (with_reducible refine' pow3_z ?ka ?kb ?_); (case ka => bits_by_make); (case kb => decide); k_extra "intro3"))
local macro_rules | `(tactic| walk_at "binaryOp Pow int int") => `(tactic| ((fail_if_success (with_reducible rename KPfMark => zMk)); (with_reducible refine pow2_p (N := 20000) ?kb1 ?kb2 ?kb3 ?_); (case kb1 => omega); (case kb2 => omega); (case kb3 => decide); k_extra "introP"))
local macro_rules | `(tactic| walk_at "binaryOp Mod int int") => `(tactic| ((fail_if_success (with_reducible rename KPfMark => zMk)); (with_reducible refine' mod_p ?ka ?kb ?_); (case ka => first | decide | assumption | k_extra "pos"); (case kb => bits_by_make); k_extra "introM"))
local macro_rules | `(tactic| walk_at "call ref") => `(tactic| k_extra "mycall")
local macro_rules | `(tactic| walk_at "binaryOp LShift int int") => `(tactic| ((fail_if_success (with_reducible rename KPfMark => zMk)); (with_reducible refine' shl_p (N := 40000) ?kb1 ?kb2 ?kb3 ?kb4 ?_); (case kb1 => omega); (case kb2 => bits_by_make); (case kb3 => omega); (case kb4 => decide); k_extra "introS"))
local macro_rules | `(tactic| walk_at "binaryOp RShift int int") => `(tactic| ((fail_if_success (with_reducible rename KPfMark => zMk)); (with_reducible refine' shr_p ?kb1 ?kb2 ?_); (case kb1 => omega); (case kb2 => bits_by_make); k_extra "introS"))
local macro_rules | `(tactic| walk_at "execs cons") => `(tactic| ((with_reducible refine gen_toks ?_); intro tk; (with_reducible refine wpAny_execs_cons ?_); try dsimp only))
local macro_rules | `(tactic| walk_at "execs nil") => `(tactic| ((with_reducible refine gen_toks ?_); intro tk; (with_reducible refine wpAny_execs_nil ?_)))
local macro_rules | `(tactic| walk_at "binaryOp Mult int int") => `(tactic| ((with_reducible refine' mul_p ?kb1 ?kb2 ?kb3 ?_); (case kb1 => bits_by_make); (case kb2 => bits_by_make); (case kb3 => decide)))
local macro_rules | `(tactic| walk_at "eval Call") => `(tactic| ((first | (with_reducible show wpAny _ _ (eval (Expr.Call (Expr.Name (Str.ofString "_law_dropped") _) _ _ _) _) _ _ _) | (with_reducible show wpAny _ _ (eval (Expr.Call (Expr.Name (Str.ofString "_law_inverse") _) _ _ _) _) _ _ _) | (with_reducible show wpAny _ _ (eval (Expr.Call (Expr.Name (Str.ofString "_law_lift") _) _ _ _) _) _ _ _)); k_dflt (refine Call_ ?_)))
def LiftW (d width : Int) (pre : List Int) (power : Int) : Prop := 0 ≤ power ∧ power < d ∧ Cg d power (2 ^ (width / 2 ^ (14 - pre.length)).toNat * 2 ^ width.toNat)
theorem lift_start {d width inv zs z : Int} (H : Wide4 d width inv) (hz : z = zs - d) (hs : zs = 1 * 2 ^ width.toNat) : LiftW d width [] z ∧ intBits z ≤ 10000 := by
  have h1 := H.w1
  have h2 := H.w2
  have h3 := H.b1
  have h4 := H.m.dP
  have e : (2 : Int) ^ width.toNat = 2 ^ (width.toNat - 1) * 2 := by rw [← Int.pow_succ]; congr 1; omega
  rw [Int.one_mul] at hs
  have e0 : width / 2 ^ (14 - ([] : List Int).length) = 0 := by
    show width / 16384 = 0
    omega
  refine ⟨⟨by omega, by omega, -1, ?_⟩, bits_of_natAbs_le (b := d) (by omega) (Nat.le_trans H.bd (by decide))⟩
  rw [e0, hz, hs]
  show _ = 1 * _ + _
  omega
theorem mul_lt_dP {d P a b : Int} (d0 : 0 < d) (h : d < P) (a0 : 0 ≤ a) (a1 : a < d) (b0 : 0 ≤ b) (b1 : b < d) : 0 ≤ a * b ∧ a * b < d * P := by
  have h1 : a * b ≤ d * b := mul_le_of b0 (by omega)
  have h2 : d * b < d * P := Int.mul_lt_mul_of_pos_left (by omega) d0
  exact ⟨Int.mul_nonneg a0 b0, by omega⟩
theorem LiftW.arg {d width inv p : Int} {pre : List Int} (H : Wide4 d width inv) (h : LiftW d width pre p) : 0 ≤ p * p ∧ p * p < d * 2 ^ width.toNat := mul_lt_dP H.m.d0 H.m.dP h.1 h.2.1 h.1 h.2.1
theorem LiftW.sq {d width inv p r : Int} {pre : List Int} (H : Wide4 d width inv) (h : LiftW d width pre p) (hr : Redc d (2 ^ width.toNat) (p * p) r) :
    Cg d r (2 ^ (2 * (width / 2 ^ (14 - pre.length)).toNat) * 2 ^ width.toNat) := by
  refine H.m.cancel (hr.c.trans ?_)
  have e := h.2.2.mul h.2.2
  have e2 : (2 : Int) ^ (2 * (width / 2 ^ (14 - pre.length)).toNat) = 2 ^ (width / 2 ^ (14 - pre.length)).toNat * 2 ^ (width / 2 ^ (14 - pre.length)).toNat := by rw [← Int.pow_add]; congr 1; omega
  rw [e2]
  generalize (2 : Int) ^ (width / 2 ^ (14 - pre.length)).toNat = x at *
  generalize (2 : Int) ^ width.toNat = P at *
  have e3 : x * x * P * P = x * P * (x * P) := by grind
  rw [e3]; exact e
theorem lift_half {width k zs zm : Int} {pre : List Int} (w1 : 2 ≤ width) (hk : k = 13 - (pre.length : Int)) (hl : pre.length < ((13 : Int) - -1).toNat) (hz : zs = width / 2 ^ k.toNat) (hm : zm = zs.fmod 2) :
    (width / 2 ^ (14 - (pre ++ [k]).length)).toNat = 2 * (width / 2 ^ (14 - pre.length)).toNat + zm.toNat ∧ 0 ≤ zm ∧ zm < 2 := by
  rw [fmodE _ (by decide)] at hm
  have hl' : pre.length < 14 := hl
  have e1 : 14 - (pre ++ [k]).length = k.toNat := by simp only [List.length_append, List.length_cons, List.length_nil]; omega
  have e2 : 14 - pre.length = k.toNat + 1 := by omega
  have hp := ppos k.toNat
  have e3 : width / 2 ^ (k.toNat + 1) = zs / 2 := by rw [Int.pow_succ, hz]; exact (Int.ediv_ediv_of_nonneg (by omega)).symm
  have z0 : 0 ≤ zs := by rw [hz]; exact Int.ediv_nonneg (by omega) (by omega)
  rw [e1, e2, e3, ← hz]
  omega
theorem lift_even {d width inv p r k zs zm : Int} {pre : List Int} (H : Wide4 d width inv) (h : LiftW d width pre p) (hr : Redc d (2 ^ width.toNat) (p * p) r) (hk : k = 13 - (pre.length : Int)) (hl : pre.length < ((13 : Int) - -1).toNat) (hz : zs = width / 2 ^ k.toNat) (hm : zm = zs.fmod 2) (h1 : ¬ zm = 1) :
    LiftW d width (pre ++ [k]) r ∧ intBits r ≤ 10000 := by
  have hh := lift_half H.w1 hk hl hz hm
  have e : zm.toNat = 0 := by omega
  rw [e, Nat.add_zero] at hh
  refine ⟨⟨hr.r0, hr.r1, ?_⟩, Nat.le_trans (hr.bits H.bd) (by decide)⟩
  rw [hh.1]; exact h.sq H hr
theorem lift_odd {d width inv p r r2 k zs zm : Int} {pre : List Int} (H : Wide4 d width inv) (h : LiftW d width pre p) (hr : Redc d (2 ^ width.toNat) (p * p) r) (hk : k = 13 - (pre.length : Int)) (hl : pre.length < ((13 : Int) - -1).toNat) (hz : zs = width / 2 ^ k.toNat) (hm : zm = zs.fmod 2) (h1 : zm = 1)
    (h2 : r2 = 2 * r ∧ ¬ d ≤ 2 * r ∨ r2 = 2 * r - d ∧ d ≤ 2 * r) :
    LiftW d width (pre ++ [k]) r2 ∧ intBits r2 ≤ 10000 := by
  have hh := lift_half H.w1 hk hl hz hm
  have e : zm.toNat = 1 := by omega
  rw [e] at hh
  have r0 := hr.r0
  have r1 := hr.r1
  have c := (Cg.rfl' d 2).mul (h.sq H hr)
  have b : 0 ≤ r2 ∧ r2 < d := by omega
  refine ⟨⟨b.1, b.2, ?_⟩, bits_of_natAbs_le (b := d) (by omega) (Nat.le_trans H.bd (by decide))⟩
  rw [hh.1, Int.pow_succ]
  generalize (2 : Int) ^ (2 * (width / 2 ^ (14 - pre.length)).toNat) = x at *
  generalize (2 : Int) ^ width.toNat = P at *
  have e3 : x * 2 * P = 2 * (x * P) := by grind
  rw [e3]
  refine Cg.trans ?_ c
  rcases h2 with h2 | h2
  · exact ⟨0, by omega⟩
  · exact ⟨-1, by omega⟩
theorem lift_end {d width z : Int} {pre : List Int} (h : LiftW d width pre z) (hl : 14 ≤ pre.length) : 0 ≤ z ∧ z < d ∧ Cg d z (2 ^ width.toNat * 2 ^ width.toNat) := by
  have e : 14 - pre.length = 0 := by omega
  have h2 := h.2.2
  rw [e, Int.pow_zero, Int.ediv_one] at h2
  exact ⟨h.1, h.2.1, h2⟩
set_option maxRecDepth 100000 in
set_option maxHeartbeats 8000000 in
theorem lift_c (w : World) (mean : ExcName → Option Value) (mg mb : Str → Option Value) {d width inv : Int} {t1 t2 t3 : Tok} (H : Wide4 d width inv) :
    RC w mean mg mb 56 [.int d t1, .int width t2, .int inv t3] (fun z => 0 ≤ z ∧ z < d ∧ Cg d z (2 ^ width.toNat * 2 ^ width.toNat)) 4 := by
  (have hh : PySem.Challenge.rw_dn0134_04 = PySem.Challenge.rw_dn0134_04 ∧ hd.heap_39 = hd.heap_39 := by (k_fill; exact ⟨rfl, rfl⟩))
  clear hh
  k_with_none
  have hw1 := H.w1
  have hw2 := H.w2
  have hbd := H.bd
  have hbi := H.bi
  unfold RC RelCall
  intro dp un gd cn cs a ccd cl outer A₀ base h₀ L m news s Q E B F X N T hk hd hu hret
  k_with "abs" => (
      ((with_reducible refine' abs_store ?ka ?_); (case ka => bits_by_make); intro z az hz bz))
  k_with "introM" => (intro zm am hzm lom him bzm)
  k_with "introS" => (intro zs as hzs bzs; (try (have pzs := shl1_pos hzs)))
  k_with "pos" => (first | omega)
  k_with "pyIter ref" => ((k_state (fun pre power => LiftW d width pre power ∧ intBits power ≤ 10000) "power"))
  k_with "state" => (first | exact lift_start H (by assumption) (by assumption) | exact lift_even H (by assumption) hR (by assumption) (by assumption) (by assumption) (by assumption) (by assumption) | exact lift_odd H (by assumption) hR (by assumption) (by assumption) (by assumption) (by assumption) (by assumption) (.inl ⟨by assumption, by assumption⟩) | exact lift_odd H (by assumption) hR (by assumption) (by assumption) (by assumption) (by assumption) (by assumption) (.inr ⟨by assumption, by assumption⟩))
  k_with "mycall" => (
      (with_reducible show wpAny _ _ (call (Value.ref 49) _ _) _ _ _)
      (rename LiftW _ _ _ _ => hW)
      have hA := hW.arg H
      k_dflt (refine' rel_use ?k1 ?k2 ?k3 ?k4 ?k5 ?kK (dropped_c w _ _ _ H hA.1 hA.2 ?kn) ?kd ?ku ?_)
      (case k1 => k_asm)
      (case k2 => k_asm)
      (case k3 => k_asm)
      (case k4 => k_asm)
      (case k5 => k_asm)
      (case kK => exact rfl)
      (case kd => ktr_room)
      (case ku => ktr_units)
      (case kn => exact bits_mul (by with_reducible assumption) (by with_reducible assumption))
      intro zr tr h' tk' hR F' N'
      have azr : Abs zr := .mk
      have bzr := hR.bits hbd
      (try dsimp only)
      (try k_fold))
  refine wpAny_call ?_
  k_dflt ktr_enter
  k_steps
  all_goals (exact hret _ _ _ _ (lift_end (by assumption) (by decide)) (by k_asm) (by k_asm))
end Mine
-- PARTS: math.txt mont.txt tup.txt div.txt call.txt law04a.txt law04b.txt
namespace Mine
open PySem.Builtin.Int (intBits)
local macro_rules | `(tactic| bits_by_make) => `(tactic| with_reducible assumption)
local macro_rules | `(tactic| walk_at "storeName") => `(tactic| ((fail_if_success (with_reducible rename KPfMark => zMk)); (fail_if_success ((with_reducible refine abs_skip ?ka ?kb); (case ka => with_reducible assumption))); k_extra "abs"))
local macro_rules | `(tactic| walk_at "binaryOp Pow int int") => `(tactic| ((fail_if_success (with_reducible rename KPfMark => zMk)); (with_reducible refine' pow3_z ?ka ?kb ?_); (case ka => bits_by_make); (case kb => decide); k_extra "intro3"))
local macro_rules | `(tactic| walk_at "binaryOp Pow int int") => `(tactic| ((fail_if_success (with_reducible rename KPfMark => zMk)); (with_reducible refine pow2_p (N := 20000) ?kb1 ?kb2 ?kb3 ?_); (case kb1 => omega); (case kb2 => omega); (case kb3 => decide); k_extra "introP"))
local macro_rules | `(tactic| walk_at "binaryOp Mod int int") => `(tactic| ((fail_if_success (with_reducible rename KPfMark => zMk)); (with_reducible refine' mod_p ?ka ?kb ?_); (case ka => first | decide | assumption | k_extra "pos"); (case kb => bits_by_make); k_extra "introM"))
local macro_rules | `(tactic| walk_at "call ref") => `(tactic| k_extra "mycall")
local macro_rules | `(tactic| walk_at "binaryOp LShift int int") => `(tactic| ((fail_if_success (with_reducible rename KPfMark => zMk)); (with_reducible refine' shl_p (N := 40000) ?kb1 ?kb2 ?kb3 ?kb4 ?_); (case kb1 => omega); (case kb2 => bits_by_make); (case kb3 => omega); (case kb4 => decide); k_extra "introS"))
local macro_rules | `(tactic| walk_at "binaryOp RShift int int") => `(tactic| ((fail_if_success (with_reducible rename KPfMark => zMk)); (with_reducible refine' shr_p ?kb1 ?kb2 ?_); (case kb1 => omega); (case kb2 => bits_by_make); k_extra "introS"))
local macro_rules | `(tactic| walk_at "execs cons") => `(tactic| ((with_reducible refine gen_toks ?_); intro tk; (with_reducible refine wpAny_execs_cons ?_); try dsimp only))
local macro_rules | `(tactic| walk_at "execs nil") => `(tactic| ((with_reducible refine gen_toks ?_); intro tk; (with_reducible refine wpAny_execs_nil ?_)))
local macro_rules | `(tactic| walk_at "binaryOp Mult int int") => `(tactic| ((with_reducible refine' mul_p ?kb1 ?kb2 ?kb3 ?_); (case kb1 => bits_by_make); (case kb2 => bits_by_make); (case kb3 => decide)))
local macro_rules | `(tactic| walk_at "eval Call") => `(tactic| ((first | (with_reducible show wpAny _ _ (eval (Expr.Call (Expr.Name (Str.ofString "_law_dropped") _) _ _ _) _) _ _ _) | (with_reducible show wpAny _ _ (eval (Expr.Call (Expr.Name (Str.ofString "_law_inverse") _) _ _ _) _) _ _ _) | (with_reducible show wpAny _ _ (eval (Expr.Call (Expr.Name (Str.ofString "_law_lift") _) _ _ _) _) _ _ _)); k_dflt (refine Call_ ?_)))
local macro_rules | `(tactic| walk_at "exec For Tuple Subscript cons nil") => `(tactic| (k_here; (rename Fr _ _ _ _ => lF'); (with_unfolding_all refine' For_turns lF' ?_; k_whole)))
local macro_rules | `(tactic| walk_at "subscriptTail Tuple cons Slice ref ref") => `(tactic| k_extra "cut")
local macro_rules | `(tactic| walk_at "pyIter ref") => `(tactic| k_extra "myiter")
local macro_rules | `(tactic| kc_close) => `(tactic| k_extra "good")
local macro_rules | `(tactic| walk_at "UnrEndW") => `(tactic| k_extra "unrend")
local macro_rules | `(tactic| walk_at "binaryOp FloorDiv int int") => `(tactic| k_extra "floordiv")
structure Dv (d width : Int) : Prop where
  w1 : 2 ≤ width
  w2 : width ≤ 9000
  odd : ∃ c, d = 2 * c + 1
  lo : 2 ^ (width.toNat - 1) < d
  hi : d < 2 ^ width.toNat
  bd : intBits d ≤ 9000
theorem law4_dv {width d z1 z2 zm zw : Int} (hd : d = z1 + 2 * zm + 1) (hw : width = 2 + zw) (w0 : 0 ≤ zw) (w1 : zw < 8999) (h1 : z1 = 1 * 2 ^ (width - 1).toNat) (h2 : z2 = 1 * 2 ^ (width - 2).toNat) (m0 : 0 ≤ zm) (m1 : zm < z2) : Dv d width := by
  rw [Int.one_mul] at h1 h2
  have e1 : (2 : Int) ^ (width - 1).toNat = 2 ^ (width - 2).toNat * 2 := by rw [← Int.pow_succ]; congr 1; omega
  have e2 : (2 : Int) ^ width.toNat = 2 ^ (width - 1).toNat * 2 := by rw [← Int.pow_succ]; congr 1; omega
  have e3 : (width - 1).toNat = width.toNat - 1 := by omega
  have hp := ppos (width - 2).toNat
  have hi : d < 2 ^ width.toNat := by omega
  refine ⟨by omega, by omega, ⟨2 ^ (width - 2).toNat + zm, by omega⟩, by rw [← e3]; omega, hi, Nat.le_trans (bits_of_lt (by omega) hi) (by omega)⟩
theorem Dv.wide {d width inv : Int} (H : Dv d width) (h : InvR d width inv) : Wide4 d width inv :=
  ⟨H.w1, H.w2, ⟨by have := H.lo; have := ppos (width.toNat - 1); omega, H.hi, h.iv⟩, H.lo, H.bd, h.b⟩
/-- a number and its moved form -/
structure Pr (d P v f : Int) : Prop where
  v0 : 0 ≤ v
  v1 : v < d
  f0 : 0 ≤ f
  f1 : f < d
  c : Cg d f (v * P)
theorem Pr.bits {d width v f : Int} (D : Dv d width) (H : Pr d (2 ^ width.toNat) v f) : intBits v ≤ 9000 ∧ intBits f ≤ 9000 :=
  ⟨bits_of_natAbs_le (b := d) (by have := H.v0; have := H.v1; omega) D.bd, bits_of_natAbs_le (b := d) (by have := H.f0; have := H.f1; omega) D.bd⟩
theorem Pr.arg {d P v f v' f' : Int} (h : d < P) (H : Pr d P v f) (H' : Pr d P v' f') : 0 ≤ f * f' ∧ f * f' < d * P := mul_lt_dP (by have := H.v0; have := H.v1; omega) h H.f0 H.f1 H'.f0 H'.f1
theorem Pr.prod {d P v f v' f' : Int} (h : d < P) (H : Pr d P v f) (H' : Pr d P v' f') : 0 ≤ v * v' ∧ v * v' < d * P := mul_lt_dP (by have := H.v0; have := H.v1; omega) h H.v0 H.v1 H'.v0 H'.v1
theorem red_arg {d P N r : Int} (h : d < P) (d0 : 0 < d) (H : Redc d P N r) : 0 ≤ r ∧ r < d * P := by
  have h1 := H.r0; have h2 := H.r1
  have : d * 1 ≤ d * P := Int.mul_le_mul_of_nonneg_left (by omega) (by omega)
  omega
theorem Pr.first {d P inv x lift f : Int} (M : Mont d P inv) (x0 : 0 ≤ x) (x1 : x < d) (lc : Cg d lift (P * P)) (hr : Redc d P (x * lift) f) : Pr d P x f := by
  refine ⟨x0, x1, hr.r0, hr.r1, M.cancel (hr.c.trans ?_)⟩
  have e := (Cg.rfl' d x).mul lc
  have e2 : x * (P * P) = x * P * P := by grind
  rw [← e2]; exact e
theorem Pr.next {d P inv v f v' f' shape rest : Int} (M : Mont d P inv) (H : Pr d P v f) (H' : Pr d P v' f') (h1 : Redc d P (f * f') shape) (h2 : Redc d P shape rest) : Pr d P rest shape ∧ Cg d rest (v * v') :=
  have h := M.next H.c H'.c h1 h2
  ⟨⟨h2.r0, h2.r1, h1.r0, h1.r1, h.1⟩, h.2⟩
theorem Pr.pre2 {d width inv v f v' f' rest q zs nu : Int} (hn : nu = v * v') (D : Dv d width) (W : Wide4 d width inv) (H : Pr d (2 ^ width.toNat) v f) (H' : Pr d (2 ^ width.toNat) v' f') (c : Cg d rest (v * v')) (r0 : 0 ≤ rest) (r1 : rest < d) (hq : q = ((nu - rest) * inv).fmod zs) (hz : zs = 1 * 2 ^ width.toNat) :
    Pre2 nu d width q rest := by
  subst hn
  have hp := H.prod W.m.dP H'
  rw [Int.one_mul] at hz
  subst hz
  rw [fmodE _ (ppos _)] at hq
  have h := W.m.quot c r0 r1 hp.1 hp.2 hq
  exact ⟨by have := W.w1; omega, h.1, h.2.1, h.2.2, r0, r1, Int.le_of_lt W.b1, D.hi⟩
theorem dropped_c2 (w : World) (mean : ExcName → Option Value) (mg mb : Str → Option Value) {v f v' f' d width inv : Int} {t1 t2 t3 t4 : Tok} (D : Dv d width) (H : Wide4 d width inv) (h1 : Pr d (2 ^ width.toNat) v f) (h2 : Pr d (2 ^ width.toNat) v' f') :
    RC w mean mg mb 49 [.int (f * f') t1, .int d t2, .int width t3, .int inv t4] (Redc d (2 ^ width.toNat) (f * f')) 2 :=
  dropped_c w mean mg mb H (Pr.arg H.m.dP h1 h2).1 (Pr.arg H.m.dP h1 h2).2 (Nat.le_trans (bits_mul (h1.bits D).2 (h2.bits D).2) (by decide))
set_option maxRecDepth 100000 in
set_option maxHeartbeats 8000000 in
theorem X : PySem.Challenge.rw_dn0134_04.Holds := hd (by
  k_with_none
  k_with "abs" => (first
    | ((with_reducible show wpAny _ _ (storeName _ (Str.ofString "width") _) _ _ _); (with_reducible refine' abs_store ?ka ?_); (case ka => bits_by_make); intro width awidth hwidth bwidth)
    | ((with_reducible show wpAny _ _ (storeName _ (Str.ofString "divisor") _) _ _ _); (with_reducible refine' abs_store ?ka ?_); (case ka => bits_by_make); intro divisor adivisor hdivisor bdivisor; (have hDv := law4_dv hdivisor hwidth (by assumption) (by assumption) (by assumption) (by assumption) (by assumption) (by assumption)); have bdv := hDv.bd; have dv0 : 0 < divisor := (by have := hDv.lo; have := ppos (width.toNat - 1); omega))
    | ((with_reducible refine' abs_store ?ka ?_); (case ka => bits_by_make); intro z az hz bz))
  k_with "introM" => (first | ((with_reducible show ∀ z, Abs z → z = Int.fmod _ 2 → _ → _ → _ → _); intro zp ap hzp lop hip bzp; (rcases (show zp = 0 ∨ zp = 1 by omega) with ep | ep <;> subst ep <;> (try (exfalso; revert hzp; decide)))) | ((with_reducible show ∀ z, Abs z → z = Int.fmod _ divisor → _ → _ → _ → _); intro x ax hx hx0 hx1 bx; (have bx9 : intBits x ≤ 9000 := bits_of_natAbs_le (b := divisor) (by omega) hDv.bd)) | (intro zm am hzm lom him bzm))
  k_with "myiter" => (first
    | ((with_reducible show wpAny _ _ (pyIter (Value.ref _)) (fun it s₂ => TurnsAt _ _ _ _ _ _ _ _ _ it s₂) _ _); (rename Fr _ _ _ _ => lF'); (rename News _ _ _ _ => lN')
       (first
       | ((with_unfolding_all refine' iter_tup1 (by rfl) lF' lN' ?khm ?_); (case khm => k_mem))
       | ((with_unfolding_all refine' iter_tup2 (by rfl) lF' lN' ?khn ?_); (case khn => k_mem)))
       clear lF' lN'; intro iT lT; have lT0 := lT; (try k_lt lT0))
    | ((with_reducible show wpAny _ _ (pyIter (Value.ref _)) (fun it s₂ => LoopAtV _ _ _ _ _ _ _ _ _ it s₂) _ _); (rename Fr _ _ _ _ => lF'); (rename News _ _ _ _ => lN')
       (with_unfolding_all refine' kst_listL (σ := Int × Nat × Int × Nat) (fun _ => [(_, listOf (List.toArray _) _)]) (fun c => [(Str.ofString "rest", Value.int c.1 c.2.1), (Str.ofString "shape", Value.int c.2.2.1 c.2.2.2)]) (fun _ => True) [Str.ofString "other", Str.ofString "kept", Str.ofString "number", Str.ofString "quotient"] (fun _ c => Pr divisor (2 ^ width.toNat) c.1 c.2.2.1) (x, _, first, _) (by rfl) (fun _ => List.Mem.head _) ?khi lF' ?khN True.intro ?kk ?kp ?_ ?_)
       (case khN => (with_unfolding_all exact news_sub lN' (List.forall_mem_cons.mpr ⟨by k_mem, List.forall_mem_nil _⟩)))
       (case khi => l_ints)
       (case kk => kst_all)
       (case kp => exact hPf)
       (all_goals (try clear lF' lN'))
       rotate_left
       (
         rintro ⟨rest, tr0, shape, ts0⟩ kU kH kTk kFacts kInv kFr kNews
         have kMark := kstMark
         dsimp only [kstB] at kFr
         dsimp only at kNews kInv)
       rotate_left
       (
         rintro ⟨rest, tr0, shape, ts0⟩ kPre kPost kN kT kU kH kTk kOwn kEq kMem kOff kFacts kInv kFr kNews
         have kMark := kstMark
         dsimp only [kstB] at kFr
         dsimp only at kNews kInv
         simp only [List.nil_append, List.cons_append] at kNews
         have aR : Abs rest := .mk
         have aS : Abs shape := .mk
         have bRS := kInv.bits hDv
         have bR := bRS.1
         have bS := bRS.2)
       (all_goals (try dsimp only))
       (all_goals (try k_fold))))
  k_with "state" => (first | exact hPn)
  k_with "introS" => (intro zs as hzs bzs; (try (have pzs := shl1_pos hzs)))
  k_with "pos" => (first | omega)
  k_with "floordiv" => (
    (fail_if_success (with_reducible rename KPfMark => zMk))
    (with_reducible refine' fdv_p ?ka ?kb ?kc ?_)
    (case ka => first | decide | assumption | omega)
    (case kb => bits_by_make)
    (case kc => k_dflt (exact PySem.PylongRoom.of (by (refine PySem.Heap.NoLimit.keeps ?_ (PyProof.Rows.Fr.keep (by assumption)); first | assumption | exact PyProof.Rows.Glob.nolimit (by assumption) | exact PyProof.Rows.Top.nolimit (by assumption))) (of_decide_eq_true (by with_unfolding_all rfl))))
    intro zd azd hzd bzd)
  k_with "good" => (first
    | (kc_bool
       (apply goodW_bool)
       (case F => exact kFr)
       (case hg => assumption)
       (case hn => exact raisesW_false (by wrow_none_raised))
       (case hp => ((refine postW_of (by wrow_shape) (w_eq_bool (w_res rfl) w_lit) ?_); rfl))
       (case hos => rfl))
    | ((with_reducible show InvEndN _ _ _ _ _ _ _)
       (rename News _ _ _ _ => nE')
       (rename Fr _ _ _ _ => fE')
       (apply kst_end ⟨_, _, _, _⟩)
       (case F => k_dflt (exact fE'))
       (case N => k_dflt (exact nE'))
       (case hn => first | kst_in | kst_inAny)
       (case ho => first | (intro p hp; kst_mem) | kst_anyIn)
       (case ha => rfl)
       (case hf => kst_facts)
       (case hk => kst_all)
       (case hr => kst_same)
       (case hp => exact hPn)))
  k_with "unrend" => (
    (rename News _ _ _ _ => lN')
    (k_dflt (refine' unr_end lT (by k_asm) lN' ?kI ?ks ⟨by k_subL, ?_⟩))
    (case kI => k_mem)
    (case ks => (repeat' (first | exact subr | (refine sub1 ?_))))
    clear lN')
  k_with "cut" => (first
    | (k_dflt (refine' slice_pair_one ?qF ?qN ?qt ?qb ?_ ?qs; (case qF => k_asm); (case qN => k_asm); (case qt => k_mem); (case qb => decide); (case qs => with_unfolding_all rfl)); intro D' h' F' N' l1; (try k_lt l1))
    | (k_dflt (refine' slice_pair_two ?qF ?qN ?qt ?qb ?_ ?qs; (case qF => k_asm); (case qN => k_asm); (case qt => k_mem); (case qb => decide); (case qs => with_unfolding_all rfl)); intro h' F' N'))
  k_with "mycall" => (first
    | ((with_reducible show wpAny _ _ (call (Value.ref 42) _ _) _ _ _)
       k_dflt (refine' rel_use ?k1 ?k2 ?k3 ?k4 ?k5 ?kK (inverse_c _ _ _ _ hDv.odd hDv.w1 hDv.w2 hDv.bd) ?kd ?ku ?_)
       (case k1 => k_asm)
       (case k2 => k_asm)
       (case k3 => k_asm)
       (case k4 => k_asm)
       (case k5 => k_asm)
       (case kK => exact rfl)
       (case kd => ktr_room)
       (case ku => ktr_units)
       intro inv tr h' tk' hR F' N'
       have ainv : Abs inv := .mk
       have binv := hR.b
       have hW := hDv.wide hR
       (try dsimp only)
       (try k_fold))
    | ((with_reducible show wpAny _ _ (call (Value.ref 56) _ _) _ _ _)
       k_dflt (refine' rel_use ?k1 ?k2 ?k3 ?k4 ?k5 ?kK (lift_c _ _ _ _ hW) ?kd ?ku ?_)
       (case k1 => k_asm)
       (case k2 => k_asm)
       (case k3 => k_asm)
       (case k4 => k_asm)
       (case k5 => k_asm)
       (case kK => exact rfl)
       (case kd => ktr_room)
       (case ku => ktr_units)
       intro lift tr h' tk' hR F' N'
       have alift : Abs lift := .mk
       obtain ⟨hl0, hl1, hlc⟩ := hR
       have blift : intBits lift ≤ 9000 := bits_of_natAbs_le (b := divisor) (by omega) hDv.bd
       (try dsimp only)
       (try k_fold))
    | ((with_reducible show wpAny _ _ (call (Value.ref 49) [Value.int (_ * lift) _, _, _, _] _) _ _ _)
       have hA := mul_lt_dP hW.m.d0 hW.m.dP hx0 hx1 hl0 hl1
       k_dflt (refine' rel_use ?k1 ?k2 ?k3 ?k4 ?k5 ?kK (dropped_c _ _ _ _ hW hA.1 hA.2 ?kn) ?kd ?ku ?_)
       (case k1 => k_asm)
       (case k2 => k_asm)
       (case k3 => k_asm)
       (case k4 => k_asm)
       (case k5 => k_asm)
       (case kK => exact rfl)
       (case kd => ktr_room)
       (case ku => ktr_units)
       (case kn => exact Nat.le_trans (bits_mul (by with_reducible assumption) (by with_reducible assumption)) (by decide))
       intro first tr h' tk' hR F' N'
       have afirst : Abs first := .mk
       have hPf := Pr.first hW.m hx0 hx1 hlc hR
       have bfirst := (hPf.bits hDv).2
       (try dsimp only)
       (try k_fold))
    | ((with_reducible show wpAny _ _ (call (Value.ref 49) [Value.int (_ * _) _, _, _, _] _) _ _ _)
       k_dflt (refine' rel_use ?k1 ?k2 ?k3 ?k4 ?k5 ?kK (dropped_c2 _ _ _ _ hDv hW ?kp1 ?kp2) ?kd ?ku ?_)
       (case k1 => k_asm)
       (case k2 => k_asm)
       (case k3 => k_asm)
       (case k4 => k_asm)
       (case k5 => k_asm)
       (case kK => exact rfl)
       (case kd => ktr_room)
       (case ku => ktr_units)
       (case kp1 => assumption)
       (case kp2 => assumption)
       intro shp tr h' tk' hS F' N'
       have ashp : Abs shp := .mk
       have bshp := hS.bits bdv
       (try dsimp only)
       (try k_fold))
    | ((with_reducible show wpAny _ _ (call (Value.ref 49) [Value.int shp _, _, _, _] _) _ _ _)
       have hA := red_arg hW.m.dP hW.m.d0 hS
       k_dflt (refine' rel_use ?k1 ?k2 ?k3 ?k4 ?k5 ?kK (dropped_c _ _ _ _ hW hA.1 hA.2 ?kn) ?kd ?ku ?_)
       (case k1 => k_asm)
       (case k2 => k_asm)
       (case k3 => k_asm)
       (case k4 => k_asm)
       (case k5 => k_asm)
       (case kK => exact rfl)
       (case kd => ktr_room)
       (case ku => ktr_units)
       (case kn => exact Nat.le_trans bshp (by decide))
       intro rst tr h' tk' hR F' N'
       have arst : Abs rst := .mk
       have brst := hR.bits bdv
       have hNx := Pr.next hW.m (by assumption) (by assumption) hS hR
       (try dsimp only)
       (try k_fold))
    | ((with_reducible show wpAny _ _ (call (Value.ref 21) _ _) _ _ _)
       have hP2 := Pr.pre2 (by assumption) hDv hW (by assumption) (by assumption) hNx.2 hR.r0 hR.r1 (by assumption) (by assumption)
       have hPn := hNx.1
       k_dflt (refine' pair_use ?k1 ?k2 ?k3 ?k4 ?k5 ?kK (use2 hP2 ?kn) ?kd ?ku ?_)
       (case k1 => k_asm)
       (case k2 => k_asm)
       (case k3 => k_asm)
       (case k4 => k_asm)
       (case k5 => k_asm)
       (case kK => exact rfl)
       (case kd => ktr_room)
       (case ku => ktr_units)
       (case kn => exact Int.le_trans hDv.w2 (by decide))
       intro D' x1 x2 c' h' tk' F' N' l'
       (try dsimp only)
       (try k_fold)))
  k_go0
  (all_goals try k_fold)
  k_steps)
end Mine
theorem PySem.Challenge.cw_dn0134_04_holds : PySem.Challenge.rw_dn0134_04.Holds :=
  Mine.X
