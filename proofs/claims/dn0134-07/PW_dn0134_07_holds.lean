import PyProof.Rows.All
import Wide.All
import OpenK.AllK
import Wide.FinOn
import PySem.Challenge.RW_dn0134_07
open PySem PySem.W PyProof.Rows
set_option Elab.async false
namespace Mine
open PySem.Builtin.Int (intBits)

theorem ppos (k : Nat) : (0 : Int) < 2 ^ k := kbt_pos k
theorem pmono {i j : Nat} (h : i ≤ j) : (2 : Int) ^ i ≤ 2 ^ j := by
  have := Nat.pow_le_pow_right (n := 2) (by decide) h
  rw [← kbt_cast, ← kbt_cast]; omega
theorem uniqNN {q b r q' r' : Int} (h : q * b + r = q' * b + r') (r0 : 0 ≤ r) (r1 : r < b) (r0' : 0 ≤ r') (r1' : r' < b) : q = q' ∧ r = r' := by
  have hb : 0 < b := by omega
  have h1 := kbt_unique (a := q * b + r) (b := b) (q := q) (r := r) hb (by rw [Int.mul_comm b q]; omega) r0 r1
  have h2 := kbt_unique (a := q * b + r) (b := b) (q := q') (r := r') hb (by rw [Int.mul_comm b q']; omega) r0' r1'
  exact ⟨h1.1.symm.trans h2.1, h1.2.symm.trans h2.2⟩
theorem mul_le_of {a b c : Int} (hc : 0 ≤ c) (h : a ≤ b) : a * c ≤ b * c := Int.mul_le_mul_of_nonneg_right h hc
theorem mul_lt_of {a b c : Int} (hc : 0 < c) (h : a < b) : a * c < b * c := Int.mul_lt_mul_of_pos_right h hc
theorem lt_of_mul {a b c : Int} (hc : 0 < c) (h : a * c < b * c) : a < b := Int.lt_of_mul_lt_mul_right h (Int.le_of_lt hc)
theorem bits_of_lt {x : Int} {k : Nat} (h0 : 0 ≤ x) (h : x < 2 ^ k) : intBits x ≤ k := by
  refine intBits_le_iff.mpr ?_
  have := kbt_cast k
  omega
theorem lt_of_bits {x : Int} {k : Nat} (h : intBits x ≤ k) : x < 2 ^ k := by
  have h1 := intBits_le_iff.mp h
  have := kbt_cast k
  omega
theorem fdivP (a : Int) (k : Nat) : a.fdiv (2 ^ k) = a / 2 ^ k := Int.fdiv_eq_ediv_of_nonneg _ (Int.le_of_lt (kbt_pos k))
theorem and_all (x : Int) : Builtin.bitAnd x (-1) = x := by
  have hn : ¬ (0 : Int) ≤ -1 := by decide
  have e : (Builtin.bitNot (-1)).toNat = 0 := by decide
  by_cases hx : 0 ≤ x
  · rw [bitAnd_pn hx hn, e, Nat.and_zero]; simp
  · rw [bitAnd_nn hx hn, e, Nat.or_zero]
    unfold Builtin.bitNot
    omega
/-- the bits of the one and of the other -/
theorem or_add {x y : Int} {k : Nat} (y0 : 0 ≤ y) (y1 : y < 2 ^ k) : Builtin.bitOr (x * 2 ^ k) y = x * 2 ^ k + y := by
  have hp := kbt_pos k
  have key : ∀ k : Nat, ∀ x y : Int, 0 ≤ y → y < 2 ^ k → Builtin.bitAnd (Builtin.bitNot (x * 2 ^ k)) (Builtin.bitNot y) = Builtin.bitNot (x * 2 ^ k + y) := by
    intro k
    induction k with
    | zero =>
      intro x y h0 h1
      have : y = 0 := by rw [Int.pow_zero] at h1; omega
      subst this
      rw [Int.add_zero]
      have e : Builtin.bitNot 0 = -1 := rfl
      rw [e, and_all]
    | succ k ih =>
      intro x y h0 h1
      rw [Int.pow_succ] at h1
      rw [kbt_halves]
      have e1 : Builtin.bitNot (x * 2 ^ (k + 1)) / 2 = Builtin.bitNot (x * 2 ^ k) := by
        unfold Builtin.bitNot
        rw [Int.pow_succ, ← Int.mul_assoc]; omega
      have e2 : Builtin.bitNot y / 2 = Builtin.bitNot (y / 2) := by unfold Builtin.bitNot; omega
      rw [e1, e2, ih x (y / 2) (by omega) (by omega)]
      unfold Builtin.bitNot
      rw [Int.pow_succ, ← Int.mul_assoc]
      generalize x * 2 ^ k = z
      split <;> omega
  unfold Builtin.bitOr
  rw [key k x y y0 y1]
  unfold Builtin.bitNot; omega
end Mine
namespace Mine
open PySem.Builtin.Int (intBits)
structure Pre2 (a b n q r : Int) : Prop where
  n1 : 1 ≤ n
  e : a = q * b + r
  q0 : 0 ≤ q
  q1 : q < 2 ^ n.toNat
  r0 : 0 ≤ r
  r1 : r < b
  b1 : 2 ^ (n.toNat - 1) ≤ b
  b2 : b < 2 ^ n.toNat
structure Pre3 (a12 a3 b b1 b2 n q r : Int) : Prop where
  n1 : 1 ≤ n
  ea : a12 * 2 ^ n.toNat + a3 = q * b + r
  q0 : 0 ≤ q
  q1 : q < 2 ^ n.toNat
  r0 : 0 ≤ r
  r1 : r < b
  e : b = b1 * 2 ^ n.toNat + b2
  b10 : 2 ^ (n.toNat - 1) ≤ b1
  b11 : b1 < 2 ^ n.toNat
  b20 : 0 ≤ b2
  b21 : b2 < 2 ^ n.toNat
  a30 : 0 ≤ a3
  a31 : a3 < 2 ^ n.toNat
section
variable {a12 a3 b b1 b2 n q r : Int}
theorem Pre3.a12b (H : Pre3 a12 a3 b b1 b2 n q r) : 0 ≤ a12 ∧ a12 < b := by
  obtain ⟨n1, ea, q0, q1, r0, r1, e, b10, b11, b20, b21, a30, a31⟩ := H
  have hP := ppos n.toNat
  have hB := ppos (n.toNat - 1)
  generalize (2 : Int) ^ n.toNat = P at *
  have hb1 : 0 ≤ b1 * P := Int.mul_nonneg (by omega) (by omega)
  have hb : 0 < b := by omega
  constructor
  · have h0 : 0 ≤ q * b := Int.mul_nonneg q0 (by omega)
    have : (-1) * P < a12 * P := by omega
    have := lt_of_mul hP this
    omega
  · refine lt_of_mul hP ?_
    have h1 : (q + 1) * b ≤ P * b := mul_le_of (by omega) (by omega)
    rw [Int.add_mul, Int.one_mul, Int.mul_comm P b] at h1
    omega
theorem Pre3.eqCase (H : Pre3 a12 a3 b b1 b2 n q r) (h : a12 / 2 ^ n.toNat = b1) :
    (2 ^ n.toNat - 1) * b + ((a12 - b1 * 2 ^ n.toNat + b1) * 2 ^ n.toNat + a3 - (2 ^ n.toNat - 1) * b2) = q * b + r ∧
      (a12 - b1 * 2 ^ n.toNat + b1) * 2 ^ n.toNat + a3 - (2 ^ n.toNat - 1) * b2 < b ∧ 0 ≤ a12 - b1 * 2 ^ n.toNat + b1 ∧ a12 - b1 * 2 ^ n.toNat + b1 < 2 ^ (n.toNat + 1) := by
  have h2 := H.a12b
  obtain ⟨n1, ea, q0, q1, r0, r1, e, b10, b11, b20, b21, a30, a31⟩ := H
  have hP := ppos n.toNat
  have hB := ppos (n.toNat - 1)
  have hs : (2 : Int) ^ (n.toNat + 1) = 2 ^ n.toNat * 2 := Int.pow_succ ..
  rw [hs]
  generalize (2 : Int) ^ n.toNat = P at *
  have hm := Int.emod_nonneg a12 (show P ≠ 0 by omega)
  have hm2 := Int.emod_lt_of_pos a12 hP
  have hd := Int.emod_def a12 P
  rw [h, Int.mul_comm P b1] at hd
  generalize hx : a12 - b1 * P = x at *
  have h3 : x * P ≤ (b2 - 1) * P := mul_le_of (by omega) (by omega)
  have e1 : (x + b1) * P = x * P + b1 * P := Int.add_mul ..
  have e2 : (b2 - 1) * P = b2 * P - P := by rw [Int.sub_mul, Int.one_mul]
  have e3 : (P - 1) * b2 = b2 * P - b2 := by rw [Int.sub_mul, Int.one_mul, Int.mul_comm]
  have e4 : (P - 1) * b = b * P - b := by rw [Int.sub_mul, Int.one_mul, Int.mul_comm]
  have e5 : b * P = b1 * P * P + b2 * P := by rw [e, Int.add_mul]
  have e6 : a12 * P = b1 * P * P + x * P := by rw [← hx, Int.sub_mul]; omega
  refine ⟨by omega, by omega, by omega, by omega⟩
theorem Pre3.neCase (H : Pre3 a12 a3 b b1 b2 n q r) (h : a12 / 2 ^ n.toNat ≠ b1) : ∃ q' r', Pre2 a12 b1 n q' r' := by
  have h2 := H.a12b
  obtain ⟨n1, ea, q0, q1, r0, r1, e, b10, b11, b20, b21, a30, a31⟩ := H
  have hP := ppos n.toNat
  have hB := ppos (n.toNat - 1)
  have hb1 : 0 < b1 := by omega
  have h3 : a12 < b1 * 2 ^ n.toNat := by
    generalize (2 : Int) ^ n.toNat = P at *
    have h4 : a12 / P < b1 + 1 := Int.ediv_lt_of_lt_mul hP (by rw [Int.add_mul]; omega)
    exact Int.lt_mul_of_ediv_lt hP (by omega)
  refine ⟨a12 / b1, a12 % b1, n1, ?_, Int.ediv_nonneg h2.1 (by omega), Int.ediv_lt_of_lt_mul hb1 (by rw [Int.mul_comm]; exact h3), Int.emod_nonneg _ (by omega), Int.emod_lt_of_pos _ hb1, b10, b11⟩
  rw [Int.mul_comm]; exact (Int.mul_ediv_add_emod a12 b1).symm
theorem Pre3.ne2 (H : Pre3 a12 a3 b b1 b2 n q r) {q' r' : Int} (h : Pre2 a12 b1 n q' r') :
    q' * b + (r' * 2 ^ n.toNat + a3 - q' * b2) = q * b + r ∧ r' * 2 ^ n.toNat + a3 - q' * b2 < b := by
  obtain ⟨n1, ea, q0, q1, r0, r1, e, b10, b11, b20, b21, a30, a31⟩ := H
  obtain ⟨_, e', q0', q1', r0', r1', _, _⟩ := h
  have hP := ppos n.toNat
  generalize (2 : Int) ^ n.toNat = P at *
  have h1 : 0 ≤ q' * b2 := Int.mul_nonneg q0' b20
  have h2 : r' * P ≤ (b1 - 1) * P := mul_le_of (by omega) (by omega)
  have e2 : (b1 - 1) * P = b1 * P - P := by rw [Int.sub_mul, Int.one_mul]
  refine ⟨?_, by omega⟩
  rw [← ea, e', e, Int.mul_add, Int.add_mul, ← Int.mul_assoc]
  omega
end
section
variable {a b n q r : Int}
theorem Pre2.pad (H : Pre2 a b n q r) : Pre2 (a * 2) (b * 2) (n + 1) q (r * 2) := by
  obtain ⟨n1, e, q0, q1, r0, r1, b1, b2⟩ := H
  have e1 : (n + 1).toNat = n.toNat + 1 := by omega
  have e2 : (n + 1).toNat - 1 = (n.toNat - 1) + 1 := by omega
  have hs : (2 : Int) ^ (n.toNat + 1) = 2 ^ n.toNat * 2 := Int.pow_succ ..
  have hs' : (2 : Int) ^ (n.toNat - 1 + 1) = 2 ^ (n.toNat - 1) * 2 := Int.pow_succ ..
  have hP := ppos n.toNat
  refine ⟨by omega, ?_, q0, ?_, by omega, by omega, ?_, ?_⟩
  · rw [e, Int.add_mul, Int.mul_assoc]
  · rw [e1, hs]; omega
  · rw [e2, hs']; omega
  · rw [e1, hs]; omega
/-- the first half's division and the second's -/
theorem Pre2.halves (H : Pre2 a b n q r) {h : Int} (hn : n = h * 2) : ∃ q1 r1 q2, Pre3 (a / 2 ^ n.toNat) ((a / 2 ^ h.toNat) % 2 ^ h.toNat) b (b / 2 ^ h.toNat) (b % 2 ^ h.toNat) h q1 r1 ∧
    Pre3 r1 (a % 2 ^ h.toNat) b (b / 2 ^ h.toNat) (b % 2 ^ h.toNat) h q2 r ∧ q = q1 * 2 ^ h.toNat + q2 := by
  obtain ⟨n1, e, q0, q1, r0, r1, b1, b2⟩ := H
  have hb : 0 < b := by omega
  have hk : n.toNat = h.toNat + h.toNat := by omega
  have hk' : n.toNat - 1 = (h.toNat - 1) + h.toNat := by omega
  have hP := ppos h.toNat
  have hP' := ppos (h.toNat - 1)
  have ep : (2 : Int) ^ n.toNat = 2 ^ h.toNat * 2 ^ h.toNat := by rw [hk, Int.pow_add]
  have ep' : (2 : Int) ^ (n.toNat - 1) = 2 ^ (h.toNat - 1) * 2 ^ h.toNat := by rw [hk', Int.pow_add]
  have h1 : 1 ≤ h := by omega
  rw [ep] at b2 q1 ⊢
  rw [ep'] at b1
  have a0 : 0 ≤ a := by
    have : 0 ≤ q * b := Int.mul_nonneg q0 (by omega)
    omega
  have k1 : 2 ^ (h.toNat - 1) ≤ b / 2 ^ h.toNat := Int.le_ediv_of_mul_le hP b1
  have k2 : b / 2 ^ h.toNat < 2 ^ h.toNat := Int.ediv_lt_of_lt_mul hP b2
  have k3 := Int.emod_nonneg b (show (2 : Int) ^ h.toNat ≠ 0 by omega)
  have k4 := Int.emod_lt_of_pos b hP
  have k5 : b = b / 2 ^ h.toNat * 2 ^ h.toNat + b % 2 ^ h.toNat := by rw [Int.mul_comm]; exact (Int.mul_ediv_add_emod b _).symm
  have c3 := Int.emod_nonneg (a / 2 ^ h.toNat) (show (2 : Int) ^ h.toNat ≠ 0 by omega)
  have c4 := Int.emod_lt_of_pos (a / 2 ^ h.toNat) hP
  have d3 := Int.emod_nonneg a (show (2 : Int) ^ h.toNat ≠ 0 by omega)
  have d4 := Int.emod_lt_of_pos a hP
  have f1 : a / (2 ^ h.toNat * 2 ^ h.toNat) = a / 2 ^ h.toNat / 2 ^ h.toNat := (Int.ediv_ediv_of_nonneg (by omega)).symm
  rw [f1]
  have f2 : a / 2 ^ h.toNat / 2 ^ h.toNat * 2 ^ h.toNat + (a / 2 ^ h.toNat) % 2 ^ h.toNat = a / 2 ^ h.toNat := by rw [Int.mul_comm]; exact Int.mul_ediv_add_emod _ _
  have f3 : a / 2 ^ h.toNat * 2 ^ h.toNat + a % 2 ^ h.toNat = a := by rw [Int.mul_comm]; exact Int.mul_ediv_add_emod _ _
  have g0 : 0 ≤ a / 2 ^ h.toNat := Int.ediv_nonneg a0 (by omega)
  have g1 : a / 2 ^ h.toNat < 2 ^ h.toNat * b := by
    refine Int.ediv_lt_of_lt_mul hP ?_
    have h3 : (q + 1) * b ≤ 2 ^ h.toNat * 2 ^ h.toNat * b := mul_le_of (by omega) (by omega)
    rw [Int.add_mul, Int.one_mul] at h3
    rw [Int.mul_right_comm]
    omega
  generalize hx : a / 2 ^ h.toNat = x at *
  have m1 := Int.emod_nonneg x (show b ≠ 0 by omega)
  have m2 := Int.emod_lt_of_pos x hb
  have m3 : x = x / b * b + x % b := by rw [Int.mul_comm]; exact (Int.mul_ediv_add_emod x b).symm
  have m4 : x / b < 2 ^ h.toNat := Int.ediv_lt_of_lt_mul hb g1
  have m5 : 0 ≤ x / b := Int.ediv_nonneg g0 (by omega)
  generalize x / b = y at *
  generalize x % b = z at *
  have w0 : 0 ≤ z * 2 ^ h.toNat := Int.mul_nonneg m1 (by omega)
  have w1 : z * 2 ^ h.toNat ≤ (b - 1) * 2 ^ h.toNat := mul_le_of (by omega) (by omega)
  have w2 : (b - 1) * 2 ^ h.toNat = 2 ^ h.toNat * b - 2 ^ h.toNat := by rw [Int.sub_mul, Int.one_mul, Int.mul_comm]
  have v1 := Int.emod_nonneg (z * 2 ^ h.toNat + a % 2 ^ h.toNat) (show b ≠ 0 by omega)
  have v2 := Int.emod_lt_of_pos (z * 2 ^ h.toNat + a % 2 ^ h.toNat) hb
  have v3 : z * 2 ^ h.toNat + a % 2 ^ h.toNat = (z * 2 ^ h.toNat + a % 2 ^ h.toNat) / b * b + (z * 2 ^ h.toNat + a % 2 ^ h.toNat) % b := by
    generalize z * 2 ^ h.toNat + a % 2 ^ h.toNat = y'
    rw [Int.mul_comm]; exact (Int.mul_ediv_add_emod _ b).symm
  have v4 : (z * 2 ^ h.toNat + a % 2 ^ h.toNat) / b < 2 ^ h.toNat := Int.ediv_lt_of_lt_mul hb (by omega)
  have v5 : 0 ≤ (z * 2 ^ h.toNat + a % 2 ^ h.toNat) / b := Int.ediv_nonneg (by omega) (by omega)
  generalize hu : (z * 2 ^ h.toNat + a % 2 ^ h.toNat) / b = u at *
  generalize hv : (z * 2 ^ h.toNat + a % 2 ^ h.toNat) % b = v at *
  have U : q = y * 2 ^ h.toNat + u ∧ r = v := by
    refine uniqNN (b := b) ?_ r0 r1 v1 v2
    rw [← e, ← f3, m3, Int.add_mul, Int.add_mul, Int.mul_right_comm y b]
    omega
  obtain ⟨U1, rfl⟩ := U
  exact ⟨y, z, u, ⟨h1, by rw [f2]; exact m3, m5, m4, m1, m2, k5, k1, k2, k3, k4, c3, c4⟩, ⟨h1, v3, v5, v4, v1, v2, k5, k1, k2, k3, k4, d3, d4⟩, U1⟩
end
end Mine
namespace Mine
section
variable {a12 a3 b b1 b2 n q r : Int}
theorem Pre3.start1 (H : Pre3 a12 a3 b b1 b2 n q r) (h : a12.fdiv (2 ^ n.toNat) = b1) :
    (1 * 2 ^ n.toNat - 1) * b + (Builtin.bitOr ((a12 - b1 * 2 ^ n.toNat + b1) * 2 ^ n.toNat) a3 - (1 * 2 ^ n.toNat - 1) * b2) = q * b + r ∧ Builtin.bitOr ((a12 - b1 * 2 ^ n.toNat + b1) * 2 ^ n.toNat) a3 - (1 * 2 ^ n.toNat - 1) * b2 < b := by
  rw [or_add H.a30 H.a31, Int.one_mul]
  have h' := H.eqCase (by rw [← fdivP]; exact h)
  exact ⟨h'.1, h'.2.1⟩
theorem Pre3.start2 (H : Pre3 a12 a3 b b1 b2 n q r) {q' r' : Int} (h : Pre2 a12 b1 n q' r') :
    q' * b + (Builtin.bitOr (r' * 2 ^ n.toNat) a3 - q' * b2) = q * b + r ∧ Builtin.bitOr (r' * 2 ^ n.toNat) a3 - q' * b2 < b := by
  rw [or_add H.a30 H.a31]
  exact H.ne2 h
theorem d3_turn {x y b c : Int} (h : y * b + x = c ∧ x < b) (h0 : x < 0) : (y - 1) * b + (x + b) = c ∧ x + b < b := by
  rw [Int.sub_mul, Int.one_mul]; omega
end
end Mine
namespace Mine
theorem Pre3.fin {a12 a3 b b1 b2 n q r x y : Int} (H : Pre3 a12 a3 b b1 b2 n q r) (h : y * b + x = q * b + r) (h0 : ¬ x < 0) (h1 : x < b) : y = q ∧ x = r :=
  uniqNN h (by omega) h1 H.r0 H.r1
theorem news_sub {h₀ h : Heap} {L : Addr} {news news' : List (Addr × Obj)} (N : News h₀ L h news') (hs : ∀ p ∈ news, p ∈ news') : News h₀ L h news := fun p hp => N p (hs p hp)
theorem sub0 {p : Addr × Obj} {l l' : List (Addr × Obj)} (h : ∀ q ∈ l, q ∈ l') : ∀ q ∈ p :: l, q ∈ p :: l' := fun q hq => (List.mem_cons.mp hq).elim (fun e => e ▸ .head _) fun m => .tail _ (h q m)
theorem sub1 {p : Addr × Obj} {l l' : List (Addr × Obj)} (h : ∀ q ∈ l, q ∈ l') : ∀ q ∈ l, q ∈ p :: l' := fun q hq => .tail _ (h q hq)
theorem subr {l : List (Addr × Obj)} : ∀ q ∈ l, q ∈ l := fun _ h => h
end Mine
namespace Mine
open PySem.Builtin.Int (intBits)
section
variable {a b n q r : Int}
theorem Pre2.a0 (H : Pre2 a b n q r) : 0 ≤ a := by
  have h1 := H.r0; have h2 := H.r1
  have : 0 ≤ q * b := Int.mul_nonneg H.q0 (by omega)
  have := H.e
  omega
theorem Pre2.alt (H : Pre2 a b n q r) : a < 2 ^ (n.toNat + n.toNat) := by
  have h1 := H.r0; have h2 := H.r1
  have h3 : (q + 1) * b ≤ 2 ^ n.toNat * b := mul_le_of (by omega) (by have := H.q1; omega)
  have h4 : b * 2 ^ n.toNat ≤ 2 ^ n.toNat * 2 ^ n.toNat := mul_le_of (Int.le_of_lt (ppos _)) (Int.le_of_lt H.b2)
  rw [Int.pow_add]
  have := H.e
  rw [Int.add_mul, Int.one_mul] at h3
  rw [Int.mul_comm b] at h4
  omega
theorem Pre2.big (H : Pre2 a b n q r) (h : ¬ (intBits a : Int) - n ≤ 4000) : 4000 < n := by
  have h1 := bits_of_lt H.a0 H.alt
  have := H.n1
  omega
theorem and_mask (x : Int) (k : Nat) : Builtin.bitAnd x (1 * 2 ^ k - 1) = x % 2 ^ k := by rw [Int.one_mul, kbt_mask]
theorem Pre2.halvesT (H : Pre2 a b n q r) {h : Int} (hn : n = h * 2) : ∃ q1 r1 q2, Pre3 (a.fdiv (2 ^ n.toNat)) (Builtin.bitAnd (a.fdiv (2 ^ h.toNat)) (1 * 2 ^ h.toNat - 1)) b (b.fdiv (2 ^ h.toNat)) (Builtin.bitAnd b (1 * 2 ^ h.toNat - 1)) h q1 r1 ∧
    Pre3 r1 (Builtin.bitAnd a (1 * 2 ^ h.toNat - 1)) b (b.fdiv (2 ^ h.toNat)) (Builtin.bitAnd b (1 * 2 ^ h.toNat - 1)) h q2 r ∧ Builtin.bitOr (q1 * 2 ^ h.toNat) q2 = q := by
  simp only [fdivP, and_mask]
  obtain ⟨q1, r1, q2, h1, h2, h3⟩ := H.halves hn
  exact ⟨q1, r1, q2, h1, h2, by rw [or_add h2.q0 h2.q1]; exact h3.symm⟩
theorem halves0 (hp : Builtin.bitAnd n 1 = 0) : n = n.fdiv (2 ^ (1 : Int).toNat) * 2 := by
  rw [bitAnd_m1] at hp
  have e : (2 : Int) ^ (1 : Int).toNat = 2 := by decide
  rw [e, Int.fdiv_eq_ediv_of_nonneg _ (by decide)]
  omega
theorem halves1 (hp : Builtin.bitAnd n 1 ≠ 0) : n + 1 = (n + 1).fdiv (2 ^ (1 : Int).toNat) * 2 := by
  rw [bitAnd_m1] at hp
  have e : (2 : Int) ^ (1 : Int).toNat = 2 := by decide
  rw [e, Int.fdiv_eq_ediv_of_nonneg _ (by decide)]
  omega
theorem Pre2.padT (H : Pre2 a b n q r) : Pre2 (a * 2 ^ (1 : Int).toNat) (b * 2 ^ (1 : Int).toNat) (n + 1) q (r * 2) := H.pad
theorem halfLe {n h : Int} {j : Nat} (hn : n = h * 2) (hk : n ≤ 2 ^ (j + 1) + 1) : h ≤ 2 ^ j := by
  rw [Int.pow_succ] at hk; omega
theorem Pre2.fdm (H : Pre2 a b n q r) : a.fdiv b = q ∧ a.fmod b = r := by
  have h1 := H.r0; have h2 := H.r1
  rw [Int.fdiv_eq_ediv_of_nonneg _ (by omega), Int.fmod_eq_emod_of_nonneg _ (by omega)]
  exact kbt_unique (by omega) (by rw [H.e, Int.mul_comm]; omega) h1 h2
end
theorem half_z {prog : Program} {w : World} {A : Around} {E : Value → Shared → Prop} {s : Shared} {Q : Value → Shared → Prop} {n : Int} {t u : Tok} (he : n = n.fdiv (2 ^ (1 : Int).toNat) * 2) (h : ∀ z, n = z * 2 → Q (.int z s.toks) { s with toks := s.toks + 1 }) :
    wpAny (model prog w) A (binaryOp .RShift (.int n t) (.int 1 u)) Q E s := rshift_int (by decide) (h _ he)
theorem ihalf_z {prog : Program} {w : World} {A : Around} {E : Value → Shared → Prop} {s : Shared} {Q : Value → Shared → Prop} {r : Int} {t u : Tok} (h : Q (.int r s.toks) { s with toks := s.toks + 1 }) :
    wpAny (model prog w) A (inplaceOp .RShift (.int (r * 2) t) (.int 1 u)) Q E s := irshift_int (by decide) (by
  have e : (r * 2).fdiv (2 ^ (1 : Int).toNat) = r := by
    have e : (2 : Int) ^ (1 : Int).toNat = 2 := by decide
    rw [e, Int.fdiv_eq_ediv_of_nonneg _ (by decide)]
    omega
  rw [e]; exact h)
abbrev pairO (q r : Int) (t1 t2 : Tok) (c : Nat) : Obj := { cls := .type "tuple", data := .seq #[.int q t1, .int r t2] c }
theorem divmod_D {prog : Program} {w : World} {A : Around} {E : Value → Shared → Prop} {s : Shared} {a b q r : Int} {t u : Tok} {Q : Value → Shared → Prop} {h₀ : Heap} {L : Addr} {m : Str → Option Value} {news : List (Addr × Obj)} (F : Fr h₀ L s.heap m) (N : News h₀ L s.heap news) (hb : b ≠ 0) (hq : a.fdiv b = q ∧ a.fmod b = r)
    (hp : PySem.PylongRoom (model prog w) A s)
    (h : ∀ D t1 t2 h' tk, Fr h₀ L h' m → News h₀ L h' ((D, pairO q r t1 t2 0) :: news) → AllLt D news → Q (.ref D) { s with toks := tk, heap := h' }) :
    wpAny (model prog w) A (call (.builtin "divmod") [.int a t, .int b u]) Q E s := by
  refine divmod_N F N hb (fun h' F' N' => ?_) (Or.inr hp)
  rw [hq.1, hq.2] at N'
  exact h _ _ _ h' _ F' N' (allLt_of fun p hp => Heap.lt_size (N p hp).1)
end Mine
namespace Mine
open PySem.Builtin.Int (intBits)
theorem abs2 (k : Nat) : ((2 : Int) ^ k).natAbs = 2 ^ k := by rw [← kbt_cast, Int.natAbs_natCast]
inductive Abs (z : Int) : Prop where | mk
theorem abs_skip {M : Model} {A : Around} {env : Env} {x : Str} {z : Int} {t : Tok} {Q : Unit → Shared → Prop} {E : Value → Shared → Prop} {s : Shared} (_ : Abs z) (h : wpAny M A (storeName env x (.int z t)) Q E s) : wpAny M A (storeName env x (.int z t)) Q E s := h
theorem abs_store {M : Model} {A : Around} {env : Env} {x : Str} {e : Int} {t : Tok} {Q : Unit → Shared → Prop} {E : Value → Shared → Prop} {s : Shared} {N : Nat} (hb : intBits e ≤ N)
    (h : ∀ z, Abs z → z = e → intBits z ≤ N → wpAny M A (storeName env x (.int z t)) Q E s) : wpAny M A (storeName env x (.int e t)) Q E s := h e .mk rfl hb
section
variable {prog : Program} {w : World} {A : Around} {E : Value → Shared → Prop} {s : Shared} {a b : Int} {t u : Tok} {Q : Value → Shared → Prop}
theorem pow3_z {l : Int} {N : Nat} (hb : intBits l ≤ N) (hN : 2 * N ≤ 100000000) (h : ∀ z, Abs z → z = 3 ^ intBits l → intBits z ≤ 2 * N + 1 → Q (.int z s.toks) { s with toks := s.toks + 1 }) :
    wpAny (model prog w) A (binaryOp .Pow (.int 3 t) (.int (intBits l : Int) u)) Q E s := by
  refine pow_int (by omega) ?_ ?_
  · have e : intBits (3 : Int) = 2 := by decide
    rw [e]
    have : (2 : Int) ^ 27 = 134217728 := by decide
    omega
  · have e : ((intBits l : Int)).toNat = intBits l := by omega
    rw [e]
    refine h _ .mk rfl ?_
    refine Nat.le_trans (intBits_pow_le (m := 2) (by decide) _) ?_
    omega
theorem mod_p {N : Nat} (hc : 0 < b) (hb : intBits b ≤ N) (h : ∀ z, Abs z → z = a.fmod b → 0 ≤ z → z < b → intBits z ≤ N → Q (.int z s.toks) { s with toks := s.toks + 1 }) : wpAny (model prog w) A (binaryOp .Mod (.int a t) (.int b u)) Q E s := by
  have e : a.fmod b = a % b := Int.fmod_eq_emod_of_nonneg _ (Int.le_of_lt hc)
  have h0 := Int.emod_nonneg a (show b ≠ 0 by omega)
  have h1 := Int.emod_lt_of_pos a hc
  rw [← e] at h0 h1
  exact mod_int' (by omega) (h _ .mk rfl h0 h1 (bits_fmod_by (by omega) hb))
theorem pow2_p {e : Int} {N : Nat} (h0 : 0 ≤ e) (h1 : e ≤ N) (hN : N ≤ 10000000) (h : ∀ z, Abs z → z = 2 ^ e.toNat → 0 < z → intBits z ≤ N + 1 → Q (.int z s.toks) { s with toks := s.toks + 1 }) :
    wpAny (model prog w) A (binaryOp .Pow (.int 2 t) (.int e u)) Q E s := by
  refine pow_int h0 ?_ (h _ .mk rfl (kbt_pos _) ?_)
  · have e : intBits (2 : Int) = 2 := by decide
    rw [e]
    have : (2 : Int) ^ 27 = 134217728 := by decide
    omega
  · refine intBits_le_iff.mpr ?_
    have e1 := abs2 e.toNat
    rw [e1]
    exact Nat.pow_lt_pow_right (by decide) (by omega)
theorem shl_p {e x : Int} {N m : Nat} (h0 : 0 ≤ e) (hx : intBits x ≤ m) (h1 : e ≤ N) (hN : m + N ≤ 100000000) (h : ∀ z, Abs z → z = x * 2 ^ e.toNat → intBits z ≤ m + N → Q (.int z s.toks) { s with toks := s.toks + 1 }) :
    wpAny (model prog w) A (binaryOp .LShift (.int x t) (.int e u)) Q E s := by
  refine lshift_int h0 ?_ (h _ .mk rfl ?_)
  · have : (2 : Int) ^ 27 = 134217728 := by decide
    omega
  · by_cases hx0 : x = 0
    · subst hx0
      rw [Int.zero_mul]
      exact Nat.zero_le _
    refine intBits_le_iff.mpr ?_
    have e1 := abs2 e.toNat
    rw [Int.natAbs_mul, e1]
    have h2 := intBits_le_iff.mp hx
    have h3 : x.natAbs * 2 ^ e.toNat < 2 ^ m * 2 ^ e.toNat := Nat.mul_lt_mul_of_pos_right h2 (Nat.two_pow_pos _)
    rw [← Nat.pow_add] at h3
    exact Nat.lt_of_lt_of_le h3 (Nat.pow_le_pow_right (by decide) (by omega))
theorem shr_p {e x : Int} {m : Nat} (h0 : 0 ≤ e) (hx : intBits x ≤ m) (h : ∀ z, Abs z → z = x / 2 ^ e.toNat → intBits z ≤ m → Q (.int z s.toks) { s with toks := s.toks + 1 }) :
    wpAny (model prog w) A (binaryOp .RShift (.int x t) (.int e u)) Q E s := by
  have e1 := fdivP x e.toNat
  exact rshift_int h0 (by rw [e1]; exact h _ .mk rfl (by rw [← e1]; exact bits_fdiv hx))
theorem fdv_p {m : Nat} (hc : 0 < b) (hx : intBits a ≤ m) (hp : PySem.PylongRoom (model prog w) A s) (h : ∀ z, Abs z → z = a / b → intBits z ≤ m → Q (.int z s.toks) { s with toks := s.toks + 1 }) :
    wpAny (model prog w) A (binaryOp .FloorDiv (.int a t) (.int b u)) Q E s := by
  have e1 : a.fdiv b = a / b := Int.fdiv_eq_ediv_of_nonneg _ (Int.le_of_lt hc)
  exact floordiv_int (by omega) (by rw [e1]; exact h _ .mk rfl (by rw [← e1]; exact bits_fdiv hx)) (Or.inr hp)
end
theorem fmodB (a : Int) {b : Int} (h : 0 < b) : 0 ≤ a.fmod b ∧ a.fmod b < b := by
  rw [Int.fmod_eq_emod_of_nonneg _ (Int.le_of_lt h)]
  exact ⟨Int.emod_nonneg _ (by omega), Int.emod_lt_of_pos _ h⟩
theorem fdivE (a : Int) {b : Int} (h : 0 < b) : a.fdiv b = a / b := Int.fdiv_eq_ediv_of_nonneg _ (Int.le_of_lt h)
theorem fmodE (a : Int) {b : Int} (h : 0 < b) : a.fmod b = a % b := Int.fmod_eq_emod_of_nonneg _ (Int.le_of_lt h)
theorem Pre2.bq {a b n q r : Int} (H : Pre2 a b n q r) {N : Nat} (hn : n ≤ N) : intBits q ≤ N := Nat.le_trans (bits_of_lt H.q0 H.q1) (by have := H.n1; omega)
theorem Pre2.br {a b n q r : Int} (H : Pre2 a b n q r) {N : Nat} (hn : n ≤ N) : intBits r ≤ N := Nat.le_trans (bits_of_lt H.r0 (Int.lt_trans H.r1 H.b2)) (by have := H.n1; omega)
theorem eq_t {prog : Program} {w : World} {A : Around} {E : Value → Shared → Prop} {s : Shared} {a b : Int} {t u : Tok} {Q : Value → Shared → Prop} (e : a = b) (h : Q (.bool true) s) : wpAny (model prog w) A (compareOp .Eq (.int a t) (.int b u)) Q E s :=
  eq_int (by rw [e, beq_self_eq_true]; exact h)
theorem gen_toks {α : Type} {M : Model} {A : Around} {m : Sem α} {Q : α → Shared → Prop} {E : Value → Shared → Prop} {h : Heap} {g : Array GenState} {d : Drawn} {X : Nat} {o : OsState}
    (H : ∀ tk, wpAny M A m Q E { heap := h, gens := g, drawn := d, toks := tk, os := o }) : wpAny M A m Q E { heap := h, gens := g, drawn := d, toks := X, os := o } := H X
theorem mul_p {prog : Program} {w : World} {A : Around} {E : Value → Shared → Prop} {s : Shared} {a b : Int} {t u : Tok} {Q : Value → Shared → Prop} {m n : Nat} (ha : intBits a ≤ m) (hb : intBits b ≤ n) (h : m + n ≤ 134217728) (hq : Q (.int (a * b) s.toks) { s with toks := s.toks + 1 }) :
    wpAny (model prog w) A (binaryOp .Mult (.int a t) (.int b u)) Q E s := mul_int hq (mulOk_of_bits ha hb h)
end Mine
namespace Mine
set_option maxRecDepth 100000
set_option maxHeartbeats 8000000
open_top hd for PySem.Challenge.rw_dn0134_07
end Mine
namespace Mine
def PairCall (prog : Program) (w : World) (K : Frag) (p : Program) (loose : List Str) (mean : ExcName → Option Value) (mg mb : Str → Option Value) (f : Addr) (vs : List Value) (q r : Int) (k : Nat) : Prop :=
  ∀ (dp un : Nat) (gd : Option (List Code)) (cn : Str) (cs : Scope) (a : Addr) (ccd : Value) (cl : List (Str × Addr)) (outer : List Env) (A₀ : Around) (base h₀ : Heap) (L : Addr) (m : Str → Option Value) (news : List (Addr × Obj)) (s : Shared)
    (Q E : Value → Shared → Prop),
    Below A₀ base outer h₀ → Fr h₀ L s.heap m → K.In h₀ → News h₀ L s.heap news → Top p loose mean mg mb h₀ → cs.kind = .function → dp + k + 104 < recursionLimit → un + 8 * k + 100 < cLine →
    (∀ D t1 t2 c h' tk', Fr h₀ L h' m → News h₀ L h' ((D, pairO q r t1 t2 c) :: news) → AllLt D news → Q (.ref D) { s with heap := h', toks := tk' }) →
    wpAny (model prog w) (ktrTop dp un gd cn cs L a ccd cl outer) (call (.ref f) vs) Q E s

theorem pair_use {prog : Program} {w : World} {K : Frag} {p : Program} {loose : List Str} {mean : ExcName → Option Value} {mg mb : Str → Option Value} {f : Addr} {vs : List Value} {q r : Int} {k : Nat}
   {dp un : Nat} {gd : Option (List Code)} {cn : Str} {cs : Scope} {a : Addr} {ccd : Value} {cl : List (Str × Addr)} {outer : List Env} {A₀ : Around} {base h₀ : Heap} {L : Addr} {m : Str → Option Value} {news : List (Addr × Obj)} {s : Shared} {Q E : Value → Shared → Prop}
   (B : Below A₀ base outer h₀) (F : Fr h₀ L s.heap m) (X : K.In h₀) (N : News h₀ L s.heap news) (T : Top p loose mean mg mb h₀) (hk : cs.kind = .function) (C : PairCall prog w K p loose mean mg mb f vs q r k)
   (hd : dp + k + 104 < recursionLimit) (hu : un + 8 * k + 100 < cLine)
   (ret : ∀ D t1 t2 c h' tk', Fr h₀ L h' m → News h₀ L h' ((D, pairO q r t1 t2 c) :: news) → AllLt D news → Q (.ref D) { s with heap := h', toks := tk' }) :
    wpAny (model prog w) (ktrTop dp un gd cn cs L a ccd cl outer) (call (.ref f) vs) Q E s := C _ _ _ _ _ _ _ _ _ _ _ _ _ _ _ _ _ _ B F X N T hk hd hu ret

section
variable (w : World) (mean : ExcName → Option Value) (mg mb : Str → Option Value)
abbrev PC := PairCall PySem.Challenge.rw_dn0134_07.row.prog w (hd.heap_39 w.params) hd.view_39 (looseW hd.view_39 []) mean mg mb
def Div2 (k : Nat) : Prop := ∀ (a b n q r : Int) (t u v : Tok), Pre2 a b n q r → n ≤ 2 ^ k → k ≤ 19 → PC w mean mg mb 21 [.int a t, .int b u, .int n v] q r (2 * k + 2)
def Div3 (k : Nat) : Prop := ∀ (a12 a3 b b1 b2 n q r : Int) (t1 t2 t3 t4 t5 t6 : Tok), Pre3 a12 a3 b b1 b2 n q r → n ≤ 2 ^ k → k ≤ 19 → PC w mean mg mb 28 [.int a12 t1, .int a3 t2, .int b t3, .int b1 t4, .int b2 t5, .int n t6] q r (2 * k + 3)
end
end Mine
namespace Mine
open PySem.Builtin.Int (intBits)
local macro_rules | `(tactic| bits_by_make) => `(tactic| with_reducible assumption)
local macro_rules | `(tactic| walk_at "exec While Compare cons cons") => `(tactic| k_extra "mywhile")
local macro_rules | `(tactic| walk_at "exec While Compare cons nil") => `(tactic| k_extra "mywhile")
set_option maxRecDepth 100000 in
set_option maxHeartbeats 8000000 in
theorem div3_step (w : World) (mean : ExcName → Option Value) (mg mb : Str → Option Value) (k : Nat) (H : Div2 w mean mg mb k) : Div3 w mean mg mb k := by
  (have hh : PySem.Challenge.rw_dn0134_07 = PySem.Challenge.rw_dn0134_07 ∧ hd.heap_39 = hd.heap_39 := by (k_fill; exact ⟨rfl, rfl⟩))
  clear hh
  k_with_none
  intro a12 a3 b b1 b2 n q r t1 t2 t3 t4 t5 t6 P hn hk19
  have hn19 : n ≤ 524288 := Int.le_trans hn (pmono hk19)
  have hn1 := P.n1
  have hbp : intBits ((2 : Int) ^ n.toNat) ≤ 600000 := Nat.le_trans (bits_of_lt (k := n.toNat + 1) (Int.le_of_lt (ppos _)) (by rw [Int.pow_succ]; have := ppos n.toNat; omega)) (by omega)
  have hbb1 : intBits b1 ≤ 600000 := Nat.le_trans (bits_of_lt (by have := ppos (n.toNat - 1); have := P.b10; omega) P.b11) (by omega)
  have hbb2 : intBits b2 ≤ 600000 := Nat.le_trans (bits_of_lt P.b20 P.b21) (by omega)
  have hba : intBits a12 ≤ 5000000 := bits_of_natAbs_le (b := b) (by have := P.a12b; omega) (by rw [P.e]; exact Nat.le_trans (bits_add (bits_mul hbb1 hbp) hbb2) (by decide))
  unfold PC PairCall
  intro dp un gd cn cs a ccd cl outer A₀ base h₀ L m news s Q E B F X N T hk hd hu hret
  k_with "call ref" => (
    obtain ⟨q', r', hP'⟩ := P.neCase (by rw [← fdivP]; assumption)
    have hbr : intBits r' ≤ 600000 := Nat.le_trans (bits_of_lt hP'.r0 (Int.lt_trans hP'.r1 hP'.b2)) (by omega)
    have hbq : intBits q' ≤ 600000 := Nat.le_trans (bits_of_lt hP'.q0 hP'.q1) (by omega)
    (refine' pair_use ?k1 ?k2 ?k3 ?k4 ?k5 ?kK (H _ _ _ q' r' _ _ _ hP' hn hk19) ?kd ?ku ?_)
    (case k1 => k_asm)
    (case k2 => k_asm)
    (case k3 => k_asm)
    (case k4 => k_asm)
    (case k5 => k_asm)
    (case kK => exact rfl)
    (case kd => ktr_room)
    (case ku => ktr_units)
    intro D' x1 x2 c' h' tk' F' N' l'
    (try dsimp only)
    (try k_fold))
  k_with "mywhile" => (k_while (fun _ x y => y * b + x = q * b + r ∧ x < b) (fun _ x y => (- x).toNat) "r" "q")
  k_with "state" => (first | exact P.start1 (by assumption) | exact P.start2 (by assumption) | exact d3_turn ⟨by assumption, by assumption⟩ (by assumption))
  have hb0 : 0 < b := by have := P.r0; have := P.r1; omega
  refine wpAny_call ?_
  k_dflt ktr_enter
  k_steps
  all_goals (
    obtain ⟨e1, e2⟩ := P.fin (by assumption) (by assumption) (by assumption)
    subst e1
    subst e2
    refine hret _ _ _ _ _ _ (by k_asm) (news_sub (by k_asm) (sub0 (sub1 subr))) ?_
    first | assumption | exact And.right (by assumption))
end Mine
namespace Mine
open PySem.Builtin.Int (intBits)
local macro_rules | `(tactic| bits_by_make) => `(tactic| with_reducible assumption)
local macro_rules | `(tactic| walk_at "binaryOp RShift int int") => `(tactic| k_extra "half")
local macro_rules | `(tactic| walk_at "inplaceOp RShift int int") => `(tactic| with_reducible refine ihalf_z ?_)
local macro_rules | `(tactic| walk_at "inplaceOp LShift int int") => `(tactic| (with_reducible refine ilshift_int ?kbn ?kbs ?_; (case kbn => decide); (case kbs => refine kbm_shl (m := 2000000) (Nat.le_trans (by with_reducible assumption) ?_) ?_ ?_ <;> decide)))
local macro_rules | `(tactic| walk_at "call builtin:divmod") => `(tactic| k_extra "mydiv")
set_option maxRecDepth 100000 in
set_option maxHeartbeats 8000000 in
theorem div2_step (w : World) (mean : ExcName → Option Value) (mg mb : Str → Option Value) (k : Nat) (H : ∀ j, k = j + 1 → Div3 w mean mg mb j) : Div2 w mean mg mb k := by
  (have hh : PySem.Challenge.rw_dn0134_07 = PySem.Challenge.rw_dn0134_07 ∧ hd.heap_39 = hd.heap_39 := by (k_fill; exact ⟨rfl, rfl⟩))
  clear hh
  k_with_none
  intro a b n q r t1 t2 t3 P hn hk19
  have hn19 : n ≤ 524288 := Int.le_trans hn (pmono hk19)
  have hn1 := P.n1
  have hba : intBits a ≤ 1200000 := Nat.le_trans (bits_of_lt P.a0 P.alt) (by omega)
  have hbb : intBits b ≤ 600000 := Nat.le_trans (bits_of_lt (by have := P.r0; have := P.r1; omega) P.b2) (by omega)
  have hb0 : b ≠ 0 := by have := P.r0; have := P.r1; omega
  unfold PC PairCall
  intro dp un gd cn cs aa ccd cl outer A₀ base h₀ L m news s Q E B F X N T hk hd hu hret
  k_with "half" => (first
    | (with_reducible refine half_z (halves0 (by assumption)) ?_; intro hz ez)
    | (with_reducible refine half_z (halves1 (by assumption)) ?_; intro hz ez))
  k_with "mydiv" => (
    (refine' divmod_D ?k1 ?k2 hb0 P.fdm (PySem.PylongRoom.of (PySem.Heap.NoLimit.keeps (PyProof.Rows.Top.nolimit (by assumption)) (PyProof.Rows.Fr.keep (by assumption))) ?kd) ?_)
    (case k1 => k_asm)
    (case k2 => k_asm)
    (case kd => (simp only [Builtin.pylongFrames]; ktr_room))
    intro D' x1 x2 h' tk' F' N' l'
    (try dsimp only)
    (try k_fold))
  k_with "call ref" => (first
    | (
      (refine' pair_use ?k1 ?k2 ?k3 ?k4 ?k5 ?kK (hJ _ _ _ _ _ _ q2 _ _ _ _ _ _ _ h2 hjz hj19) ?kd ?ku ?_)
      (case k1 => k_asm)
      (case k2 => k_asm)
      (case k3 => k_asm)
      (case k4 => k_asm)
      (case k5 => k_asm)
      (case kK => exact rfl)
      (case kd => ktr_room)
      (case ku => ktr_units)
      intro D' x1 x2 c' h' tk' F' N' l'
      (try dsimp only)
      (try k_fold))
    | (
      obtain ⟨j, hj⟩ : ∃ j, k = j + 1 := ⟨k - 1, by have := P.big (by assumption); have : k ≠ 0 := (by intro e; subst e; simp at hn; omega); omega⟩
      have hJ := H j hj
      have hj19 : j ≤ 19 := by omega
      have hjz : hz ≤ 2 ^ j := halfLe ez (by rw [← hj]; omega)
      obtain ⟨q1, r1, q2, h1, h2, h3⟩ := (by first | exact P.halvesT ez | exact P.padT.halvesT ez : ∃ q1 r1 q2, _ ∧ _ ∧ _)
      have hbq1 : intBits q1 ≤ 600000 := Nat.le_trans (bits_of_lt h1.q0 h1.q1) (by omega)
      (refine' pair_use ?k1 ?k2 ?k3 ?k4 ?k5 ?kK (hJ _ _ _ _ _ _ q1 r1 _ _ _ _ _ _ h1 hjz hj19) ?kd ?ku ?_)
      (case k1 => k_asm)
      (case k2 => k_asm)
      (case k3 => k_asm)
      (case k4 => k_asm)
      (case k5 => k_asm)
      (case kK => exact rfl)
      (case kd => ktr_room)
      (case ku => ktr_units)
      intro D' x1 x2 c' h' tk' F' N' l'
      (try dsimp only)
      (try k_fold)))
  refine wpAny_call ?_
  k_dflt ktr_enter
  k_steps
  all_goals (first
    | exact absurd ‹Builtin.bitAnd n 1 = 0› ‹Builtin.bitAnd n 1 ≠ 0›
    | exact hret _ _ _ _ _ _ (by k_asm) (by k_asm) (by assumption)
    | (subst h3; refine hret _ _ _ _ _ _ (by k_asm) (news_sub (by k_asm) (sub0 (sub1 (sub1 (sub1 subr))))) ?_; exact (And.right (And.right (And.right (by assumption))))))
theorem div_all (w : World) (mean : ExcName → Option Value) (mg mb : Str → Option Value) : ∀ k, Div2 w mean mg mb k ∧ Div3 w mean mg mb k
  | 0 => have h := div2_step w mean mg mb 0 (fun j e => by omega); ⟨h, div3_step w mean mg mb 0 h⟩
  | k + 1 => have h := div2_step w mean mg mb (k + 1) (fun j e => by obtain rfl : k = j := by omega
                                                                     exact (div_all w mean mg mb k).2); ⟨h, div3_step w mean mg mb (k + 1) h⟩
theorem use2 {w : World} {mean : ExcName → Option Value} {mg mb : Str → Option Value} {a b n q r : Int} {t u v : Tok} (h : Pre2 a b n q r) (hn : n ≤ 262144) : PC w mean mg mb 21 [.int a t, .int b u, .int n v] q r 38 := (div_all w mean mg mb 18).1 a b n q r t u v h hn (by decide)
theorem use3 {w : World} {mean : ExcName → Option Value} {mg mb : Str → Option Value} {a12 a3 b b1 b2 n q r : Int} {t1 t2 t3 t4 t5 t6 : Tok} (h : Pre3 a12 a3 b b1 b2 n q r) (hn : n ≤ 262144) : PC w mean mg mb 28 [.int a12 t1, .int a3 t2, .int b t3, .int b1 t4, .int b2 t5, .int n t6] q r 39 := (div_all w mean mg mb 18).2 a12 a3 b b1 b2 n q r t1 t2 t3 t4 t5 t6 h hn (by decide)
end Mine
-- PARTS: math.txt div.txt
namespace Mine
open PySem.Builtin.Int (intBits)
def geo (x : Int) : Nat → Int
  | 0 => 0
  | c + 1 => geo x c * x + 1
theorem geo_mul (x : Int) : ∀ c : Nat, geo x c * (x - 1) = x ^ c - 1
  | 0 => by rw [geo, Int.zero_mul, Int.pow_zero]; rfl
  | c + 1 => by
    have ih := geo_mul x c
    rw [geo, Int.pow_succ]
    generalize x ^ c = y at *
    generalize geo x c = g at *
    grind
theorem geo_ge {x : Int} (hx : 2 ≤ x) : ∀ c : Nat, x ^ c ≤ geo x (c + 1)
  | 0 => by rw [geo, geo, Int.zero_mul, Int.pow_zero]; decide
  | c + 1 => by
    have ih := geo_ge hx c
    rw [geo, Int.pow_succ]
    have := mul_le_of (c := x) (by omega) ih
    omega
theorem geo_lt {x : Int} (hx : 2 ≤ x) (c : Nat) : geo x (c + 1) < 2 * x ^ c := by
  refine lt_of_mul (c := x - 1) (by omega) ?_
  rw [geo_mul, Int.pow_succ]
  have hp : 0 < x ^ c := Int.pow_pos (by omega)
  generalize x ^ c = y at *
  have : y * 1 ≤ y * (x - 1) := Int.mul_le_mul_of_nonneg_left (by omega) (by omega)
  have e : 2 * y * (x - 1) = y * x + (y * (x - 1) - y * 1) := by grind
  omega
/-- one turn of the wheel -/
theorem wheel_core {W r ones D T V top y : Int} (hT : 0 < T) (hV : 0 < V) (ho : 0 < ones) (hD : D * ones = T * V - 1) (hW : W = r * ones) (r0 : 0 ≤ r) (r1 : r < D) (hy : W = top * T + y) (y0 : 0 ≤ y) (y1 : y < T) :
    0 ≤ top ∧ top < V ∧ ∃ r', r * V = top * D + r' ∧ 0 ≤ r' ∧ r' < D ∧ r' * ones = y * V + top := by
  have W0 : 0 ≤ W := by rw [hW]; exact Int.mul_nonneg r0 (by omega)
  have W1 : W < T * V - 1 := by rw [hW, ← hD]; exact mul_lt_of ho r1
  have t0 : 0 ≤ top := by
    have : (-1) * T < top * T := by omega
    have := lt_of_mul hT this
    omega
  have t1 : top < V := by
    have : top * T < V * T := by rw [Int.mul_comm V]; omega
    exact lt_of_mul hT this
  have key : (r * V - top * D) * ones = y * V + top := by
    have : r * V * ones = top * D * ones + (y * V + top) := by
      have e1 : r * V * ones = W * V := by rw [hW]; grind
      have e2 : top * D * ones = top * (T * V - 1) := by rw [← hD]; grind
      rw [e1, e2, hy]; grind
    rw [Int.sub_mul]; omega
  have yv0 : 0 ≤ y * V := Int.mul_nonneg y0 (by omega)
  have lt : y * V + top < T * V - 1 := by
    rcases (show y ≤ T - 2 ∨ y = T - 1 by omega) with h | h
    · have : y * V ≤ (T - 2) * V := mul_le_of (by omega) h
      have e : (T - 2) * V = T * V - 2 * V := by grind
      omega
    · subst h
      have e : (T - 1) * V = T * V - V := by grind
      rcases (show top ≤ V - 2 ∨ top = V - 1 by omega) with h | h
      · omega
      · subst h
        have e2 : (V - 1) * T = T * V - T := by grind
        omega
  refine ⟨t0, t1, r * V - top * D, by omega, ?_, ?_, key⟩
  · have : (-1) * ones < (r * V - top * D) * ones := by rw [key]; omega
    have := lt_of_mul ho this
    omega
  · refine lt_of_mul ho ?_
    rw [key, hD]; exact lt
structure Wheel (ones ring D size w upper lower : Int) : Prop where
  w1 : 1 ≤ w
  w2 : w ≤ 5000
  sw : w ≤ size
  s2 : size ≤ 15000
  on : 0 < ones
  hr : ring = 2 ^ size.toNat - 1
  hD : D * ones = 2 ^ size.toNat - 1
  d1 : 2 ^ (w.toNat + w.toNat - 1) ≤ D
  d2 : D < 2 ^ (w.toNat + w.toNat)
  up : upper = D / 2 ^ w.toNat
  lo : lower = D % 2 ^ w.toNat
theorem shl1_pos {z : Int} {k : Nat} (h : z = 1 * 2 ^ k) : 0 < z := by rw [h, Int.one_mul]; exact ppos k
theorem most_pos {part most zd zm : Int} (hp : part = 1 + 2 * zm) (hm : most = (zd + 1) / 2) (hz : zd = 9999 / part) (p1 : 0 ≤ zm) (p2 : zm < 2500) : 0 < most := by
  have h2 : 2 ≤ zd := by rw [hz]; exact Int.le_ediv_of_mul_le (by omega) (by omega)
  omega
theorem part_count {part most count x zd : Int} (hc : count = 2 + 2 * x) (x1 : x < most) (hm : most = (zd + 1) / 2) (hz : zd = 9999 / part) (x0 : 0 ≤ x) (p1 : 1 ≤ part) (p2 : part ≤ 4999) : 0 ≤ part * count ∧ part * count ≤ 9999 + part ∧ 2 ≤ count ∧ part * 2 ≤ part * count := by
  have h1 : count ≤ 9999 / part + 1 := by omega
  have h2 : part * (9999 / part) ≤ 9999 := Int.mul_ediv_self_le (by omega)
  have h3 : part * count ≤ part * (9999 / part + 1) := Int.mul_le_mul_of_nonneg_left h1 (by omega)
  have h4 : part * (9999 / part + 1) = part * (9999 / part) + part := by rw [Int.mul_add, Int.mul_one]
  exact ⟨Int.mul_nonneg (by omega) (by omega), by omega, by omega, Int.mul_le_mul_of_nonneg_left (by omega) (by omega)⟩
theorem law7_setup {part count x y ones ring D size w upper lower z1 z2 z3 : Int} (hp : part = 1 + 2 * x) (hc : count = 2 + 2 * y) (x0 : 0 ≤ x) (x1 : x < 2500) (y0 : 0 ≤ y) (hpc : part * count ≤ 9999 + part)
    (ho : ones = z1 - 1) (hr : ring = z2 - 1) (h1 : z1 = 1 * 2 ^ part.toNat) (h2 : z2 = 1 * 2 ^ (part * count).toNat) (hD : D = ring / ones) (hs : size = part * count) (hw : w = (size - part + 1) / 2)
    (hu : upper = D / 2 ^ w.toNat) (hl : lower = D.fmod z3) (h3 : z3 = 1 * 2 ^ w.toNat) : Wheel ones ring D size w upper lower := by
  rw [Int.one_mul] at h1 h2 h3
  have e1 : size - part + 1 = 2 * (1 + x + y + 2 * (x * y)) := by rw [hs, hp, hc]; grind
  have xy : 0 ≤ x * y := Int.mul_nonneg x0 y0
  have hw' : w = 1 + x + y + 2 * (x * y) := by omega
  have hx2 : (2 : Int) ≤ 2 ^ part.toNat := by
    have := pmono (i := 1) (j := part.toNat) (by omega)
    simpa using this
  have epc : (part * count).toNat = part.toNat * count.toNat := by
    have h : ((part.toNat * count.toNat : Nat) : Int) = part * count := by
      rw [Int.natCast_mul, Int.toNat_of_nonneg (by omega), Int.toNat_of_nonneg (by omega)]
    omega
  have e2 : (2 : Int) ^ (part * count).toNat = (2 ^ part.toNat) ^ count.toNat := by rw [epc, Int.pow_mul]
  obtain ⟨c, ec⟩ : ∃ c, count.toNat = c + 1 := ⟨count.toNat - 1, by omega⟩
  have hg := geo_mul (2 ^ part.toNat) count.toNat
  rw [← e2, ← h1, ← h2, ← ho, ← hr, ec] at hg
  rw [h1] at hg
  have hon : 0 < ones := by omega
  have hDg : D = geo (2 ^ part.toNat) (c + 1) := by rw [hD, ← hg]; exact Int.mul_ediv_cancel _ (by omega)
  have k1 := geo_ge hx2 c
  have k2 := geo_lt hx2 c
  rw [← hDg] at k1 k2 hg
  have e3 : ((2 : Int) ^ part.toNat) ^ c = 2 ^ (w.toNat + w.toNat - 1) := by
    rw [← Int.pow_mul]
    congr 1
    have h : ((part.toNat * c : Nat) : Int) = part * (count - 1) := by
      rw [Int.natCast_mul, Int.toNat_of_nonneg (by omega)]
      congr 1; omega
    have h' : part * (count - 1) = 2 * w - 1 := by rw [Int.mul_sub, Int.mul_one, ← hs]; omega
    omega
  rw [e3] at k1 k2
  have e4 : (2 : Int) ^ (w.toNat + w.toNat) = 2 ^ (w.toNat + w.toNat - 1) * 2 := by rw [← Int.pow_succ]; congr 1; omega
  have e5 : ring = 2 ^ size.toNat - 1 := by rw [hr, h2, hs]
  refine ⟨by omega, by omega, ?_, by omega, hon, e5, by rw [hg]; exact e5, k1, by omega, hu, by rw [hl, h3, fmodE _ (ppos _)]⟩
  have : part * 2 ≤ part * count := Int.mul_le_mul_of_nonneg_left (by omega) (by omega)
  omega
section
variable {ones ring D size w upper lower wheel rest top zs low : Int}
theorem Wheel.turn (H : Wheel ones ring D size w upper lower) (hW : wheel = rest * ones) (htop : top = wheel / 2 ^ (size - w).toNat) (hz : zs = wheel * 2 ^ w.toNat) (hl : low = zs % 2 ^ size.toNat) (r0 : 0 ≤ rest) (r1' : wheel < ring) :
    (∃ u, low = u * 2 ^ w.toNat) ∧ 0 ≤ top ∧ top < 2 ^ w.toNat ∧ ∃ r', Pre3 rest 0 D upper lower w top r' ∧ r' * ones = low + top := by
  obtain ⟨w1, w2, sw, s2, on, hr, hD, d1, d2, up, lo⟩ := H
  have r1 : rest < D := by
    refine lt_of_mul on ?_
    rw [hD, ← hr, ← hW]; exact r1'
  have eS : (2 : Int) ^ size.toNat = 2 ^ (size - w).toNat * 2 ^ w.toNat := by rw [← Int.pow_add]; congr 1; omega
  have hT := ppos (size - w).toNat
  have hV := ppos w.toNat
  have hV' := ppos (w.toNat - 1)
  have eV : (2 : Int) ^ (w.toNat + w.toNat) = 2 ^ w.toNat * 2 ^ w.toNat := Int.pow_add ..
  have eV' : (2 : Int) ^ (w.toNat + w.toNat - 1) = 2 ^ (w.toNat - 1) * 2 ^ w.toNat := by rw [← Int.pow_add]; congr 1; omega
  rw [eV] at d2; rw [eV'] at d1; rw [eS] at hD hl
  have y0 := Int.emod_nonneg wheel (show (2 : Int) ^ (size - w).toNat ≠ 0 by omega)
  have y1 := Int.emod_lt_of_pos wheel hT
  have y2 : wheel = top * 2 ^ (size - w).toNat + wheel % 2 ^ (size - w).toNat := by rw [htop, Int.mul_comm]; exact (Int.mul_ediv_add_emod _ _).symm
  have lowE : low = wheel % 2 ^ (size - w).toNat * 2 ^ w.toNat := by rw [hl, hz, Int.mul_comm wheel, Int.mul_comm ((2 : Int) ^ (size - w).toNat), Int.mul_emod_mul_of_pos _ _ hV, Int.mul_comm]
  obtain ⟨t0, t1, r', c1, c2, c3, c4⟩ := wheel_core hT hV on hD hW r0 r1 y2 y0 y1
  refine ⟨⟨_, lowE⟩, t0, t1, r', ?_, by rw [lowE]; exact c4⟩
  have k1 : 2 ^ (w.toNat - 1) ≤ D / 2 ^ w.toNat := Int.le_ediv_of_mul_le hV d1
  have k2 : D / 2 ^ w.toNat < 2 ^ w.toNat := Int.ediv_lt_of_lt_mul hV d2
  have k3 := Int.emod_nonneg D (show (2 : Int) ^ w.toNat ≠ 0 by omega)
  have k4 := Int.emod_lt_of_pos D hV
  have k5 : D = D / 2 ^ w.toNat * 2 ^ w.toNat + D % 2 ^ w.toNat := by rw [Int.mul_comm]; exact (Int.mul_ediv_add_emod _ _).symm
  rw [← up] at k1 k2 k5
  rw [← lo] at k3 k4 k5
  exact ⟨w1, by rw [Int.add_zero]; exact c1, t0, t1, c2, c3, k5, k1, k2, k3, k4, Int.le_refl _, hV⟩
theorem Wheel.word (H : Wheel ones ring D size w upper lower) (hW : wheel = rest * ones) (r0 : 0 ≤ rest) (r1 : rest < D) : wheel = rest * ones ∧ 0 ≤ rest ∧ wheel < ring ∧ intBits wheel ≤ 20000 ∧ intBits rest ≤ 20000 := by
  have h1 := H.hD; have h2 := H.s2; have h3 := H.on; have h6 := H.hr; have h7 := H.d2; have h8 := H.w2; have h9 := H.w1
  have h4 := mul_lt_of h3 r1
  have h5 : 0 ≤ rest * ones := Int.mul_nonneg r0 (by omega)
  exact ⟨hW, r0, by omega, Nat.le_trans (bits_of_lt (k := size.toNat) (by omega) (by omega)) (by omega), Nat.le_trans (bits_of_lt r0 (Int.lt_trans r1 h7)) (by omega)⟩
end
theorem ones_pos {part ones z1 : Int} (ho : ones = z1 - 1) (h1 : z1 = 1 * 2 ^ part.toNat) (p1 : 1 ≤ part) : 0 < ones := by
  rw [Int.one_mul] at h1
  have hx2 : (2 : Int) ≤ 2 ^ part.toNat := by
    have := pmono (i := 1) (j := part.toNat) (by omega)
    simpa using this
  omega
theorem div_pos {part count ones ring D z1 z2 : Int} (ho : ones = z1 - 1) (hr : ring = z2 - 1) (hD : D = ring / ones) (h1 : z1 = 1 * 2 ^ part.toNat) (h2 : z2 = 1 * 2 ^ (part * count).toNat) (p1 : 1 ≤ part) (c2 : 2 ≤ count) : 0 < D := by
  rw [Int.one_mul] at h1 h2
  have hx2 : (2 : Int) ≤ 2 ^ part.toNat := by
    have := pmono (i := 1) (j := part.toNat) (by omega)
    simpa using this
  have h3 : part * 1 ≤ part * count := Int.mul_le_mul_of_nonneg_left (by omega) (by omega)
  have := pmono (i := part.toNat) (j := (part * count).toNat) (by omega)
  have h4 : 1 ≤ D := by rw [hD]; exact Int.le_ediv_of_mul_le (by omega) (by omega)
  omega
theorem ne_f {prog : Program} {w : World} {A : Around} {E : Value → Shared → Prop} {s : Shared} {a b : Int} {t u : Tok} {Q : Value → Shared → Prop} (e : a = b) (h : Q (.bool false) s) : wpAny (model prog w) A (compareOp .NotEq (.int a t) (.int b u)) Q E s :=
  ne_int (by rw [e]; simpa using h)
section
variable {prog : Program} {w : World} {A : Around} {E : Value → Shared → Prop} {s : Shared} {a b : Int} {t u : Tok} {Q : Value → Shared → Prop}
theorem and_p {k N : Nat} (hb : b = 2 ^ k - 1) (hN : intBits b ≤ N) (h : ∀ z, Abs z → z = a % 2 ^ k → 0 ≤ z → intBits z ≤ N → Q (.int z s.toks) { s with toks := s.toks + 1 }) : wpAny (model prog w) A (binaryOp .BitAnd (.int a t) (.int b u)) Q E s := by
  have hp := ppos k
  have h0 := Int.emod_nonneg a (show (2 : Int) ^ k ≠ 0 by omega)
  have h1 := Int.emod_lt_of_pos a hp
  refine and_int ?_
  have e : Builtin.bitAnd a b = a % 2 ^ k := by rw [hb, kbt_mask]
  rw [e]
  exact h _ .mk rfl h0 (bits_of_natAbs_le (b := b) (by omega) hN)
theorem or_p {k : Nat} {x : Int} {m n : Nat} (ha : a = x * 2 ^ k) (b0 : 0 ≤ b) (b1 : b < 2 ^ k) (hm : intBits a ≤ m) (hn : intBits b ≤ n) (h : ∀ z, Abs z → z = a + b → intBits z ≤ max m n + 1 → Q (.int z s.toks) { s with toks := s.toks + 1 }) : wpAny (model prog w) A (binaryOp .BitOr (.int a t) (.int b u)) Q E s := by
  refine or_int ?_
  have e : Builtin.bitOr a b = a + b := by rw [ha, or_add b0 b1]
  rw [e]
  exact h _ .mk rfl (bits_add hm hn)
end
local macro_rules | `(tactic| bits_by_make) => `(tactic| with_reducible assumption)
local macro_rules | `(tactic| walk_at "storeName") => `(tactic| ((fail_if_success ((with_reducible refine abs_skip ?ka ?kb); (case ka => with_reducible assumption))); k_extra "abs"))
local macro_rules | `(tactic| walk_at "binaryOp Pow int int") => `(tactic| ((with_reducible refine' pow3_z ?ka ?kb ?_); (case ka => bits_by_make); (case kb => decide); k_extra "intro3"))
local macro_rules | `(tactic| walk_at "binaryOp Pow int int") => `(tactic| ((with_reducible refine pow2_p (N := 20000) ?kb1 ?kb2 ?kb3 ?_); (case kb1 => omega); (case kb2 => omega); (case kb3 => decide); k_extra "introP"))
local macro_rules | `(tactic| walk_at "binaryOp Mod int int") => `(tactic| ((with_reducible refine' mod_p ?ka ?kb ?_); (case ka => first | decide | assumption | k_extra "pos"); (case kb => bits_by_make); k_extra "introM"))
local macro_rules | `(tactic| walk_at "call ref") => `(tactic| k_extra "mycall")
local macro_rules | `(tactic| walk_at "binaryOp LShift int int") => `(tactic| ((with_reducible refine' shl_p (N := 40000) ?kb1 ?kb2 ?kb3 ?kb4 ?_); (case kb1 => omega); (case kb2 => bits_by_make); (case kb3 => omega); (case kb4 => decide); k_extra "introS"))
local macro_rules | `(tactic| walk_at "binaryOp RShift int int") => `(tactic| ((with_reducible refine' shr_p ?kb1 ?kb2 ?_); (case kb1 => omega); (case kb2 => bits_by_make); k_extra "introS"))
local macro_rules | `(tactic| walk_at "execs cons") => `(tactic| ((with_reducible refine gen_toks ?_); intro tk; (with_reducible refine wpAny_execs_cons ?_); try dsimp only))
local macro_rules | `(tactic| walk_at "execs nil") => `(tactic| ((with_reducible refine gen_toks ?_); intro tk; (with_reducible refine wpAny_execs_nil ?_)))
local macro_rules | `(tactic| walk_at "binaryOp Mult int int") => `(tactic| ((with_reducible refine' mul_p ?kb1 ?kb2 ?kb3 ?_); (case kb1 => bits_by_make); (case kb2 => bits_by_make); (case kb3 => decide)))
local macro_rules | `(tactic| walk_at "binaryOp FloorDiv int int") => `(tactic| k_extra "floordiv")
local macro_rules | `(tactic| walk_at "compareOp NotEq int int") => `(tactic| k_extra "ne")
local macro_rules | `(tactic| walk_at "binaryOp BitAnd int int") => `(tactic| k_extra "and")
local macro_rules | `(tactic| walk_at "binaryOp BitOr int int") => `(tactic| k_extra "or")
set_option maxRecDepth 100000 in
set_option maxHeartbeats 8000000 in
theorem X : PySem.Challenge.rw_dn0134_07.Holds := hd (by
  k_with_none
  k_with "abs" => (first
    | ((with_reducible show wpAny _ _ (storeName _ (Str.ofString "count") _) _ _ _); (with_reducible refine' abs_store ?ka ?_); (case ka => bits_by_make); intro count acount hcount bcount; have hpc := part_count hcount (by assumption) (by assumption) (by assumption) (by assumption) (by omega) (by omega); obtain ⟨hpc1, hpc2, hpc3, hpc4⟩ := hpc)
    | ((with_reducible show wpAny _ _ (storeName _ (Str.ofString "part") _) _ _ _); (with_reducible refine' abs_store ?ka ?_); (case ka => bits_by_make); intro part apart hpart bpart)
    | ((with_reducible show wpAny _ _ (storeName _ (Str.ofString "most") _) _ _ _); (with_reducible refine' abs_store ?ka ?_); (case ka => bits_by_make); intro most amost hmost bmost)
    | ((with_reducible show wpAny _ _ (storeName _ (Str.ofString "ones") _) _ _ _); (with_reducible refine' abs_store ?ka ?_); (case ka => bits_by_make); intro ones aones hones bones)
    | ((with_reducible show wpAny _ _ (storeName _ (Str.ofString "ring") _) _ _ _); (with_reducible refine' abs_store ?ka ?_); (case ka => bits_by_make); intro ring aring hring bring)
    | ((with_reducible show wpAny _ _ (storeName _ (Str.ofString "divisor") _) _ _ _); (with_reducible refine' abs_store ?ka ?_); (case ka => bits_by_make); intro divisor adivisor hdivisor bdivisor)
    | ((with_reducible show wpAny _ _ (storeName _ (Str.ofString "size") _) _ _ _); (with_reducible refine' abs_store ?ka ?_); (case ka => bits_by_make); intro size asize hsize bsize)
    | ((with_reducible show wpAny _ _ (storeName _ (Str.ofString "width") _) _ _ _); (with_reducible refine' abs_store ?ka ?_); (case ka => bits_by_make); intro width awidth hwidth bwidth)
    | ((with_reducible show wpAny _ _ (storeName _ (Str.ofString "wheel") _) _ _ _); (with_reducible refine' abs_store ?ka ?_); (case ka => bits_by_make); intro wheel awheel hwheel bwheel)
    | ((with_reducible show wpAny _ _ (storeName _ (Str.ofString "rest") _) _ _ _); (with_reducible refine' abs_store ?ka ?_); (case ka => bits_by_make); intro rest arest hrest brest)
    | ((with_reducible show wpAny _ _ (storeName _ (Str.ofString "upper") _) _ _ _); (with_reducible refine' abs_store ?ka ?_); (case ka => bits_by_make); intro upper aupper hupper bupper)
    | ((with_reducible show wpAny _ _ (storeName _ (Str.ofString "lower") _) _ _ _); (with_reducible refine' abs_store ?ka ?_); (case ka => bits_by_make); intro lower alower hlower blower)
    | ((with_reducible show wpAny _ _ (storeName _ (Str.ofString "top") _) _ _ _); (with_reducible refine' abs_store ?ka ?_); (case ka => bits_by_make); intro top atop htop btop)
    | ((with_reducible refine' abs_store ?ka ?_); (case ka => bits_by_make); intro z az hz bz))
  k_with "introM" => (intro zm am hzm lom him bzm)
  k_with "introS" => (intro zs as hzs bzs; (try (have pzs := shl1_pos hzs)))
  k_with "pos" => (first | omega | exact most_pos hpart (by assumption) (by assumption) (by assumption) (by assumption) | exact div_pos hones hring (by assumption) (by assumption) (by assumption) (by omega) (by omega))
  k_with "and" => ((with_reducible refine' and_p ?ka ?kb ?_); (case ka => exact hWh.hr); (case kb => bits_by_make); intro low alow hlow low0 blow; have hTurn := hWh.turn (by assumption) (by assumption) (by assumption) hlow (by assumption) (by assumption); obtain ⟨⟨u, hu⟩, ht0, ht1, r', hP3, hr'⟩ := hTurn)
  k_with "or" => ((with_reducible refine' or_p hu ht0 ht1 ?ka ?kb ?_); (case ka => bits_by_make); (case kb => bits_by_make); intro wh awh hwh bwh)
  k_with "pyIter ref" => (
    have hWh := law7_setup hpart hcount (by assumption) (by assumption) (by assumption) hpc2 hones hring (by assumption) (by assumption) (by assumption) hsize (by assumption) (by assumption) (by assumption) (by assumption)
    have hw1 := hWh.w1
    have hw2 := hWh.w2
    have hw3 := hWh.sw
    have hw4 := hWh.s2
    k_state (fun _ wheel rest => wheel = rest * ones ∧ 0 ≤ rest ∧ wheel < ring ∧ intBits wheel ≤ 20000 ∧ intBits rest ≤ 20000) "wheel" "rest")
  k_with "state" => (first | exact hWh.word (by assumption) (by assumption) (by assumption) | exact hWh.word (by rw [hwh]; exact hr'.symm) hP3.r0 hP3.r1)
  k_with "ne" => ((refine ne_f ?ka ?_); (case ka => first | rfl | (rw [hwh]; exact hr')))
  k_with "mycall" => (
      (with_reducible show wpAny _ _ (call (Value.ref 28) _ _) _ _ _)
      have aq : Abs r' := .mk
      have hbr := Nat.le_trans (bits_of_lt hP3.r0 (Int.lt_trans hP3.r1 hWh.d2)) (show _ ≤ 20000 by omega)
      k_dflt (refine' pair_use ?k1 ?k2 ?k3 ?k4 ?k5 ?kK (use3 hP3 ?kn) ?kd ?ku ?_)
      (case k1 => k_asm)
      (case k2 => k_asm)
      (case k3 => k_asm)
      (case k4 => k_asm)
      (case k5 => k_asm)
      (case kK => exact rfl)
      (case kd => ktr_room)
      (case ku => ktr_units)
      (case kn => omega)
      intro D' x1 x2 c' h' tk' F' N' l'
      (try dsimp only)
      (try k_fold))
  k_with "floordiv" => (
    (with_reducible refine' fdv_p ?ka ?kb ?kc ?_)
    (case ka => first | decide | assumption | omega | exact ones_pos hones (by assumption) (by omega))
    (case kb => bits_by_make)
    (case kc => k_dflt (exact PySem.PylongRoom.of (by (refine PySem.Heap.NoLimit.keeps ?_ (PyProof.Rows.Fr.keep (by assumption)); first | assumption | exact PyProof.Rows.Glob.nolimit (by assumption) | exact PyProof.Rows.Top.nolimit (by assumption))) (of_decide_eq_true (by with_unfolding_all rfl))))
    intro zd azd hzd bzd)
  k_go0
  (all_goals try k_fold)
  k_steps)
end Mine
theorem PySem.Challenge.cw_dn0134_07_holds : PySem.Challenge.rw_dn0134_07.Holds :=
  Mine.X
