import PyProof.Rows.All
import Wide.All
import OpenK.AllK
import Wide.FinOn
import PySem.Challenge.RW_dn0134_06
open PySem PySem.W PyProof.Rows
set_option Elab.async false
namespace Mine
open PySem.Builtin.Int (intBits)

theorem ppos (k : Nat) : (0 : Int) < 2 ^ k := kbt_pos k
theorem pmono {i j : Nat} (h : i ≤ j) : (2 : Int) ^ i ≤ 2 ^ j := by
  have := Nat.pow_le_pow_right (n := 2) (by decide) h
  rw [← kbt_cast, ← kbt_cast]; omega
theorem uniqNN {q b r q' r' : Int} (h : q * b + r = q' * b + r') (r0 : 0 ≤ r) (r1 : r < b) (r0' : 0 ≤ r') (r1' : r' < b) : q = q' ∧ r = r' := by
  have hb : 0 < b := by omega
  have h1 := kbt_unique (a := q * b + r) (b := b) (q := q) (r := r) hb (by rw [Int.mul_comm b q]; omega) r0 r1
  have h2 := kbt_unique (a := q * b + r) (b := b) (q := q') (r := r') hb (by rw [Int.mul_comm b q']; omega) r0' r1'
  exact ⟨h1.1.symm.trans h2.1, h1.2.symm.trans h2.2⟩
theorem mul_le_of {a b c : Int} (hc : 0 ≤ c) (h : a ≤ b) : a * c ≤ b * c := Int.mul_le_mul_of_nonneg_right h hc
theorem mul_lt_of {a b c : Int} (hc : 0 < c) (h : a < b) : a * c < b * c := Int.mul_lt_mul_of_pos_right h hc
theorem lt_of_mul {a b c : Int} (hc : 0 < c) (h : a * c < b * c) : a < b := Int.lt_of_mul_lt_mul_right h (Int.le_of_lt hc)
theorem bits_of_lt {x : Int} {k : Nat} (h0 : 0 ≤ x) (h : x < 2 ^ k) : intBits x ≤ k := by
  refine intBits_le_iff.mpr ?_
  have := kbt_cast k
  omega
theorem lt_of_bits {x : Int} {k : Nat} (h : intBits x ≤ k) : x < 2 ^ k := by
  have h1 := intBits_le_iff.mp h
  have := kbt_cast k
  omega
theorem fdivP (a : Int) (k : Nat) : a.fdiv (2 ^ k) = a / 2 ^ k := Int.fdiv_eq_ediv_of_nonneg _ (Int.le_of_lt (kbt_pos k))
theorem and_all (x : Int) : Builtin.bitAnd x (-1) = x := by
  have hn : ¬ (0 : Int) ≤ -1 := by decide
  have e : (Builtin.bitNot (-1)).toNat = 0 := by decide
  by_cases hx : 0 ≤ x
  · rw [bitAnd_pn hx hn, e, Nat.and_zero]; simp
  · rw [bitAnd_nn hx hn, e, Nat.or_zero]
    unfold Builtin.bitNot
    omega
/-- the bits of the one and of the other -/
theorem or_add {x y : Int} {k : Nat} (y0 : 0 ≤ y) (y1 : y < 2 ^ k) : Builtin.bitOr (x * 2 ^ k) y = x * 2 ^ k + y := by
  have hp := kbt_pos k
  have key : ∀ k : Nat, ∀ x y : Int, 0 ≤ y → y < 2 ^ k → Builtin.bitAnd (Builtin.bitNot (x * 2 ^ k)) (Builtin.bitNot y) = Builtin.bitNot (x * 2 ^ k + y) := by
    intro k
    induction k with
    | zero =>
      intro x y h0 h1
      have : y = 0 := by rw [Int.pow_zero] at h1; omega
      subst this
      rw [Int.add_zero]
      have e : Builtin.bitNot 0 = -1 := rfl
      rw [e, and_all]
    | succ k ih =>
      intro x y h0 h1
      rw [Int.pow_succ] at h1
      rw [kbt_halves]
      have e1 : Builtin.bitNot (x * 2 ^ (k + 1)) / 2 = Builtin.bitNot (x * 2 ^ k) := by
        unfold Builtin.bitNot
        rw [Int.pow_succ, ← Int.mul_assoc]; omega
      have e2 : Builtin.bitNot y / 2 = Builtin.bitNot (y / 2) := by unfold Builtin.bitNot; omega
      rw [e1, e2, ih x (y / 2) (by omega) (by omega)]
      unfold Builtin.bitNot
      rw [Int.pow_succ, ← Int.mul_assoc]
      generalize x * 2 ^ k = z
      split <;> omega
  unfold Builtin.bitOr
  rw [key k x y y0 y1]
  unfold Builtin.bitNot; omega
end Mine
namespace Mine
open PySem.Builtin.Int (intBits)
structure Pre2 (a b n q r : Int) : Prop where
  n1 : 1 ≤ n
  e : a = q * b + r
  q0 : 0 ≤ q
  q1 : q < 2 ^ n.toNat
  r0 : 0 ≤ r
  r1 : r < b
  b1 : 2 ^ (n.toNat - 1) ≤ b
  b2 : b < 2 ^ n.toNat
structure Pre3 (a12 a3 b b1 b2 n q r : Int) : Prop where
  n1 : 1 ≤ n
  ea : a12 * 2 ^ n.toNat + a3 = q * b + r
  q0 : 0 ≤ q
  q1 : q < 2 ^ n.toNat
  r0 : 0 ≤ r
  r1 : r < b
  e : b = b1 * 2 ^ n.toNat + b2
  b10 : 2 ^ (n.toNat - 1) ≤ b1
  b11 : b1 < 2 ^ n.toNat
  b20 : 0 ≤ b2
  b21 : b2 < 2 ^ n.toNat
  a30 : 0 ≤ a3
  a31 : a3 < 2 ^ n.toNat
section
variable {a12 a3 b b1 b2 n q r : Int}
theorem Pre3.a12b (H : Pre3 a12 a3 b b1 b2 n q r) : 0 ≤ a12 ∧ a12 < b := by
  obtain ⟨n1, ea, q0, q1, r0, r1, e, b10, b11, b20, b21, a30, a31⟩ := H
  have hP := ppos n.toNat
  have hB := ppos (n.toNat - 1)
  generalize (2 : Int) ^ n.toNat = P at *
  have hb1 : 0 ≤ b1 * P := Int.mul_nonneg (by omega) (by omega)
  have hb : 0 < b := by omega
  constructor
  · have h0 : 0 ≤ q * b := Int.mul_nonneg q0 (by omega)
    have : (-1) * P < a12 * P := by omega
    have := lt_of_mul hP this
    omega
  · refine lt_of_mul hP ?_
    have h1 : (q + 1) * b ≤ P * b := mul_le_of (by omega) (by omega)
    rw [Int.add_mul, Int.one_mul, Int.mul_comm P b] at h1
    omega
theorem Pre3.eqCase (H : Pre3 a12 a3 b b1 b2 n q r) (h : a12 / 2 ^ n.toNat = b1) :
    (2 ^ n.toNat - 1) * b + ((a12 - b1 * 2 ^ n.toNat + b1) * 2 ^ n.toNat + a3 - (2 ^ n.toNat - 1) * b2) = q * b + r ∧
      (a12 - b1 * 2 ^ n.toNat + b1) * 2 ^ n.toNat + a3 - (2 ^ n.toNat - 1) * b2 < b ∧ 0 ≤ a12 - b1 * 2 ^ n.toNat + b1 ∧ a12 - b1 * 2 ^ n.toNat + b1 < 2 ^ (n.toNat + 1) := by
  have h2 := H.a12b
  obtain ⟨n1, ea, q0, q1, r0, r1, e, b10, b11, b20, b21, a30, a31⟩ := H
  have hP := ppos n.toNat
  have hB := ppos (n.toNat - 1)
  have hs : (2 : Int) ^ (n.toNat + 1) = 2 ^ n.toNat * 2 := Int.pow_succ ..
  rw [hs]
  generalize (2 : Int) ^ n.toNat = P at *
  have hm := Int.emod_nonneg a12 (show P ≠ 0 by omega)
  have hm2 := Int.emod_lt_of_pos a12 hP
  have hd := Int.emod_def a12 P
  rw [h, Int.mul_comm P b1] at hd
  generalize hx : a12 - b1 * P = x at *
  have h3 : x * P ≤ (b2 - 1) * P := mul_le_of (by omega) (by omega)
  have e1 : (x + b1) * P = x * P + b1 * P := Int.add_mul ..
  have e2 : (b2 - 1) * P = b2 * P - P := by rw [Int.sub_mul, Int.one_mul]
  have e3 : (P - 1) * b2 = b2 * P - b2 := by rw [Int.sub_mul, Int.one_mul, Int.mul_comm]
  have e4 : (P - 1) * b = b * P - b := by rw [Int.sub_mul, Int.one_mul, Int.mul_comm]
  have e5 : b * P = b1 * P * P + b2 * P := by rw [e, Int.add_mul]
  have e6 : a12 * P = b1 * P * P + x * P := by rw [← hx, Int.sub_mul]; omega
  refine ⟨by omega, by omega, by omega, by omega⟩
theorem Pre3.neCase (H : Pre3 a12 a3 b b1 b2 n q r) (h : a12 / 2 ^ n.toNat ≠ b1) : ∃ q' r', Pre2 a12 b1 n q' r' := by
  have h2 := H.a12b
  obtain ⟨n1, ea, q0, q1, r0, r1, e, b10, b11, b20, b21, a30, a31⟩ := H
  have hP := ppos n.toNat
  have hB := ppos (n.toNat - 1)
  have hb1 : 0 < b1 := by omega
  have h3 : a12 < b1 * 2 ^ n.toNat := by
    generalize (2 : Int) ^ n.toNat = P at *
    have h4 : a12 / P < b1 + 1 := Int.ediv_lt_of_lt_mul hP (by rw [Int.add_mul]; omega)
    exact Int.lt_mul_of_ediv_lt hP (by omega)
  refine ⟨a12 / b1, a12 % b1, n1, ?_, Int.ediv_nonneg h2.1 (by omega), Int.ediv_lt_of_lt_mul hb1 (by rw [Int.mul_comm]; exact h3), Int.emod_nonneg _ (by omega), Int.emod_lt_of_pos _ hb1, b10, b11⟩
  rw [Int.mul_comm]; exact (Int.mul_ediv_add_emod a12 b1).symm
theorem Pre3.ne2 (H : Pre3 a12 a3 b b1 b2 n q r) {q' r' : Int} (h : Pre2 a12 b1 n q' r') :
    q' * b + (r' * 2 ^ n.toNat + a3 - q' * b2) = q * b + r ∧ r' * 2 ^ n.toNat + a3 - q' * b2 < b := by
  obtain ⟨n1, ea, q0, q1, r0, r1, e, b10, b11, b20, b21, a30, a31⟩ := H
  obtain ⟨_, e', q0', q1', r0', r1', _, _⟩ := h
  have hP := ppos n.toNat
  generalize (2 : Int) ^ n.toNat = P at *
  have h1 : 0 ≤ q' * b2 := Int.mul_nonneg q0' b20
  have h2 : r' * P ≤ (b1 - 1) * P := mul_le_of (by omega) (by omega)
  have e2 : (b1 - 1) * P = b1 * P - P := by rw [Int.sub_mul, Int.one_mul]
  refine ⟨?_, by omega⟩
  rw [← ea, e', e, Int.mul_add, Int.add_mul, ← Int.mul_assoc]
  omega
end
section
variable {a b n q r : Int}
theorem Pre2.pad (H : Pre2 a b n q r) : Pre2 (a * 2) (b * 2) (n + 1) q (r * 2) := by
  obtain ⟨n1, e, q0, q1, r0, r1, b1, b2⟩ := H
  have e1 : (n + 1).toNat = n.toNat + 1 := by omega
  have e2 : (n + 1).toNat - 1 = (n.toNat - 1) + 1 := by omega
  have hs : (2 : Int) ^ (n.toNat + 1) = 2 ^ n.toNat * 2 := Int.pow_succ ..
  have hs' : (2 : Int) ^ (n.toNat - 1 + 1) = 2 ^ (n.toNat - 1) * 2 := Int.pow_succ ..
  have hP := ppos n.toNat
  refine ⟨by omega, ?_, q0, ?_, by omega, by omega, ?_, ?_⟩
  · rw [e, Int.add_mul, Int.mul_assoc]
  · rw [e1, hs]; omega
  · rw [e2, hs']; omega
  · rw [e1, hs]; omega
/-- the first half's division and the second's -/
theorem Pre2.halves (H : Pre2 a b n q r) {h : Int} (hn : n = h * 2) : ∃ q1 r1 q2, Pre3 (a / 2 ^ n.toNat) ((a / 2 ^ h.toNat) % 2 ^ h.toNat) b (b / 2 ^ h.toNat) (b % 2 ^ h.toNat) h q1 r1 ∧
    Pre3 r1 (a % 2 ^ h.toNat) b (b / 2 ^ h.toNat) (b % 2 ^ h.toNat) h q2 r ∧ q = q1 * 2 ^ h.toNat + q2 := by
  obtain ⟨n1, e, q0, q1, r0, r1, b1, b2⟩ := H
  have hb : 0 < b := by omega
  have hk : n.toNat = h.toNat + h.toNat := by omega
  have hk' : n.toNat - 1 = (h.toNat - 1) + h.toNat := by omega
  have hP := ppos h.toNat
  have hP' := ppos (h.toNat - 1)
  have ep : (2 : Int) ^ n.toNat = 2 ^ h.toNat * 2 ^ h.toNat := by rw [hk, Int.pow_add]
  have ep' : (2 : Int) ^ (n.toNat - 1) = 2 ^ (h.toNat - 1) * 2 ^ h.toNat := by rw [hk', Int.pow_add]
  have h1 : 1 ≤ h := by omega
  rw [ep] at b2 q1 ⊢
  rw [ep'] at b1
  have a0 : 0 ≤ a := by
    have : 0 ≤ q * b := Int.mul_nonneg q0 (by omega)
    omega
  have k1 : 2 ^ (h.toNat - 1) ≤ b / 2 ^ h.toNat := Int.le_ediv_of_mul_le hP b1
  have k2 : b / 2 ^ h.toNat < 2 ^ h.toNat := Int.ediv_lt_of_lt_mul hP b2
  have k3 := Int.emod_nonneg b (show (2 : Int) ^ h.toNat ≠ 0 by omega)
  have k4 := Int.emod_lt_of_pos b hP
  have k5 : b = b / 2 ^ h.toNat * 2 ^ h.toNat + b % 2 ^ h.toNat := by rw [Int.mul_comm]; exact (Int.mul_ediv_add_emod b _).symm
  have c3 := Int.emod_nonneg (a / 2 ^ h.toNat) (show (2 : Int) ^ h.toNat ≠ 0 by omega)
  have c4 := Int.emod_lt_of_pos (a / 2 ^ h.toNat) hP
  have d3 := Int.emod_nonneg a (show (2 : Int) ^ h.toNat ≠ 0 by omega)
  have d4 := Int.emod_lt_of_pos a hP
  have f1 : a / (2 ^ h.toNat * 2 ^ h.toNat) = a / 2 ^ h.toNat / 2 ^ h.toNat := (Int.ediv_ediv_of_nonneg (by omega)).symm
  rw [f1]
  have f2 : a / 2 ^ h.toNat / 2 ^ h.toNat * 2 ^ h.toNat + (a / 2 ^ h.toNat) % 2 ^ h.toNat = a / 2 ^ h.toNat := by rw [Int.mul_comm]; exact Int.mul_ediv_add_emod _ _
  have f3 : a / 2 ^ h.toNat * 2 ^ h.toNat + a % 2 ^ h.toNat = a := by rw [Int.mul_comm]; exact Int.mul_ediv_add_emod _ _
  have g0 : 0 ≤ a / 2 ^ h.toNat := Int.ediv_nonneg a0 (by omega)
  have g1 : a / 2 ^ h.toNat < 2 ^ h.toNat * b := by
    refine Int.ediv_lt_of_lt_mul hP ?_
    have h3 : (q + 1) * b ≤ 2 ^ h.toNat * 2 ^ h.toNat * b := mul_le_of (by omega) (by omega)
    rw [Int.add_mul, Int.one_mul] at h3
    rw [Int.mul_right_comm]
    omega
  generalize hx : a / 2 ^ h.toNat = x at *
  have m1 := Int.emod_nonneg x (show b ≠ 0 by omega)
  have m2 := Int.emod_lt_of_pos x hb
  have m3 : x = x / b * b + x % b := by rw [Int.mul_comm]; exact (Int.mul_ediv_add_emod x b).symm
  have m4 : x / b < 2 ^ h.toNat := Int.ediv_lt_of_lt_mul hb g1
  have m5 : 0 ≤ x / b := Int.ediv_nonneg g0 (by omega)
  generalize x / b = y at *
  generalize x % b = z at *
  have w0 : 0 ≤ z * 2 ^ h.toNat := Int.mul_nonneg m1 (by omega)
  have w1 : z * 2 ^ h.toNat ≤ (b - 1) * 2 ^ h.toNat := mul_le_of (by omega) (by omega)
  have w2 : (b - 1) * 2 ^ h.toNat = 2 ^ h.toNat * b - 2 ^ h.toNat := by rw [Int.sub_mul, Int.one_mul, Int.mul_comm]
  have v1 := Int.emod_nonneg (z * 2 ^ h.toNat + a % 2 ^ h.toNat) (show b ≠ 0 by omega)
  have v2 := Int.emod_lt_of_pos (z * 2 ^ h.toNat + a % 2 ^ h.toNat) hb
  have v3 : z * 2 ^ h.toNat + a % 2 ^ h.toNat = (z * 2 ^ h.toNat + a % 2 ^ h.toNat) / b * b + (z * 2 ^ h.toNat + a % 2 ^ h.toNat) % b := by
    generalize z * 2 ^ h.toNat + a % 2 ^ h.toNat = y'
    rw [Int.mul_comm]; exact (Int.mul_ediv_add_emod _ b).symm
  have v4 : (z * 2 ^ h.toNat + a % 2 ^ h.toNat) / b < 2 ^ h.toNat := Int.ediv_lt_of_lt_mul hb (by omega)
  have v5 : 0 ≤ (z * 2 ^ h.toNat + a % 2 ^ h.toNat) / b := Int.ediv_nonneg (by omega) (by omega)
  generalize hu : (z * 2 ^ h.toNat + a % 2 ^ h.toNat) / b = u at *
  generalize hv : (z * 2 ^ h.toNat + a % 2 ^ h.toNat) % b = v at *
  have U : q = y * 2 ^ h.toNat + u ∧ r = v := by
    refine uniqNN (b := b) ?_ r0 r1 v1 v2
    rw [← e, ← f3, m3, Int.add_mul, Int.add_mul, Int.mul_right_comm y b]
    omega
  obtain ⟨U1, rfl⟩ := U
  exact ⟨y, z, u, ⟨h1, by rw [f2]; exact m3, m5, m4, m1, m2, k5, k1, k2, k3, k4, c3, c4⟩, ⟨h1, v3, v5, v4, v1, v2, k5, k1, k2, k3, k4, d3, d4⟩, U1⟩
end
end Mine
namespace Mine
section
variable {a12 a3 b b1 b2 n q r : Int}
theorem Pre3.start1 (H : Pre3 a12 a3 b b1 b2 n q r) (h : a12.fdiv (2 ^ n.toNat) = b1) :
    (1 * 2 ^ n.toNat - 1) * b + (Builtin.bitOr ((a12 - b1 * 2 ^ n.toNat + b1) * 2 ^ n.toNat) a3 - (1 * 2 ^ n.toNat - 1) * b2) = q * b + r ∧ Builtin.bitOr ((a12 - b1 * 2 ^ n.toNat + b1) * 2 ^ n.toNat) a3 - (1 * 2 ^ n.toNat - 1) * b2 < b := by
  rw [or_add H.a30 H.a31, Int.one_mul]
  have h' := H.eqCase (by rw [← fdivP]; exact h)
  exact ⟨h'.1, h'.2.1⟩
theorem Pre3.start2 (H : Pre3 a12 a3 b b1 b2 n q r) {q' r' : Int} (h : Pre2 a12 b1 n q' r') :
    q' * b + (Builtin.bitOr (r' * 2 ^ n.toNat) a3 - q' * b2) = q * b + r ∧ Builtin.bitOr (r' * 2 ^ n.toNat) a3 - q' * b2 < b := by
  rw [or_add H.a30 H.a31]
  exact H.ne2 h
theorem d3_turn {x y b c : Int} (h : y * b + x = c ∧ x < b) (h0 : x < 0) : (y - 1) * b + (x + b) = c ∧ x + b < b := by
  rw [Int.sub_mul, Int.one_mul]; omega
end
end Mine
namespace Mine
theorem Pre3.fin {a12 a3 b b1 b2 n q r x y : Int} (H : Pre3 a12 a3 b b1 b2 n q r) (h : y * b + x = q * b + r) (h0 : ¬ x < 0) (h1 : x < b) : y = q ∧ x = r :=
  uniqNN h (by omega) h1 H.r0 H.r1
theorem news_sub {h₀ h : Heap} {L : Addr} {news news' : List (Addr × Obj)} (N : News h₀ L h news') (hs : ∀ p ∈ news, p ∈ news') : News h₀ L h news := fun p hp => N p (hs p hp)
theorem sub0 {p : Addr × Obj} {l l' : List (Addr × Obj)} (h : ∀ q ∈ l, q ∈ l') : ∀ q ∈ p :: l, q ∈ p :: l' := fun q hq => (List.mem_cons.mp hq).elim (fun e => e ▸ .head _) fun m => .tail _ (h q m)
theorem sub1 {p : Addr × Obj} {l l' : List (Addr × Obj)} (h : ∀ q ∈ l, q ∈ l') : ∀ q ∈ l, q ∈ p :: l' := fun q hq => .tail _ (h q hq)
theorem subr {l : List (Addr × Obj)} : ∀ q ∈ l, q ∈ l := fun _ h => h
end Mine
namespace Mine
open PySem.Builtin.Int (intBits)
section
variable {a b n q r : Int}
theorem Pre2.a0 (H : Pre2 a b n q r) : 0 ≤ a := by
  have h1 := H.r0; have h2 := H.r1
  have : 0 ≤ q * b := Int.mul_nonneg H.q0 (by omega)
  have := H.e
  omega
theorem Pre2.alt (H : Pre2 a b n q r) : a < 2 ^ (n.toNat + n.toNat) := by
  have h1 := H.r0; have h2 := H.r1
  have h3 : (q + 1) * b ≤ 2 ^ n.toNat * b := mul_le_of (by omega) (by have := H.q1; omega)
  have h4 : b * 2 ^ n.toNat ≤ 2 ^ n.toNat * 2 ^ n.toNat := mul_le_of (Int.le_of_lt (ppos _)) (Int.le_of_lt H.b2)
  rw [Int.pow_add]
  have := H.e
  rw [Int.add_mul, Int.one_mul] at h3
  rw [Int.mul_comm b] at h4
  omega
theorem Pre2.big (H : Pre2 a b n q r) (h : ¬ (intBits a : Int) - n ≤ 4000) : 4000 < n := by
  have h1 := bits_of_lt H.a0 H.alt
  have := H.n1
  omega
theorem and_mask (x : Int) (k : Nat) : Builtin.bitAnd x (1 * 2 ^ k - 1) = x % 2 ^ k := by rw [Int.one_mul, kbt_mask]
theorem Pre2.halvesT (H : Pre2 a b n q r) {h : Int} (hn : n = h * 2) : ∃ q1 r1 q2, Pre3 (a.fdiv (2 ^ n.toNat)) (Builtin.bitAnd (a.fdiv (2 ^ h.toNat)) (1 * 2 ^ h.toNat - 1)) b (b.fdiv (2 ^ h.toNat)) (Builtin.bitAnd b (1 * 2 ^ h.toNat - 1)) h q1 r1 ∧
    Pre3 r1 (Builtin.bitAnd a (1 * 2 ^ h.toNat - 1)) b (b.fdiv (2 ^ h.toNat)) (Builtin.bitAnd b (1 * 2 ^ h.toNat - 1)) h q2 r ∧ Builtin.bitOr (q1 * 2 ^ h.toNat) q2 = q := by
  simp only [fdivP, and_mask]
  obtain ⟨q1, r1, q2, h1, h2, h3⟩ := H.halves hn
  exact ⟨q1, r1, q2, h1, h2, by rw [or_add h2.q0 h2.q1]; exact h3.symm⟩
theorem halves0 (hp : Builtin.bitAnd n 1 = 0) : n = n.fdiv (2 ^ (1 : Int).toNat) * 2 := by
  rw [bitAnd_m1] at hp
  have e : (2 : Int) ^ (1 : Int).toNat = 2 := by decide
  rw [e, Int.fdiv_eq_ediv_of_nonneg _ (by decide)]
  omega
theorem halves1 (hp : Builtin.bitAnd n 1 ≠ 0) : n + 1 = (n + 1).fdiv (2 ^ (1 : Int).toNat) * 2 := by
  rw [bitAnd_m1] at hp
  have e : (2 : Int) ^ (1 : Int).toNat = 2 := by decide
  rw [e, Int.fdiv_eq_ediv_of_nonneg _ (by decide)]
  omega
theorem Pre2.padT (H : Pre2 a b n q r) : Pre2 (a * 2 ^ (1 : Int).toNat) (b * 2 ^ (1 : Int).toNat) (n + 1) q (r * 2) := H.pad
theorem halfLe {n h : Int} {j : Nat} (hn : n = h * 2) (hk : n ≤ 2 ^ (j + 1) + 1) : h ≤ 2 ^ j := by
  rw [Int.pow_succ] at hk; omega
theorem Pre2.fdm (H : Pre2 a b n q r) : a.fdiv b = q ∧ a.fmod b = r := by
  have h1 := H.r0; have h2 := H.r1
  rw [Int.fdiv_eq_ediv_of_nonneg _ (by omega), Int.fmod_eq_emod_of_nonneg _ (by omega)]
  exact kbt_unique (by omega) (by rw [H.e, Int.mul_comm]; omega) h1 h2
end
theorem half_z {prog : Program} {w : World} {A : Around} {E : Value → Shared → Prop} {s : Shared} {Q : Value → Shared → Prop} {n : Int} {t u : Tok} (he : n = n.fdiv (2 ^ (1 : Int).toNat) * 2) (h : ∀ z, n = z * 2 → Q (.int z s.toks) { s with toks := s.toks + 1 }) :
    wpAny (model prog w) A (binaryOp .RShift (.int n t) (.int 1 u)) Q E s := rshift_int (by decide) (h _ he)
theorem ihalf_z {prog : Program} {w : World} {A : Around} {E : Value → Shared → Prop} {s : Shared} {Q : Value → Shared → Prop} {r : Int} {t u : Tok} (h : Q (.int r s.toks) { s with toks := s.toks + 1 }) :
    wpAny (model prog w) A (inplaceOp .RShift (.int (r * 2) t) (.int 1 u)) Q E s := irshift_int (by decide) (by
  have e : (r * 2).fdiv (2 ^ (1 : Int).toNat) = r := by
    have e : (2 : Int) ^ (1 : Int).toNat = 2 := by decide
    rw [e, Int.fdiv_eq_ediv_of_nonneg _ (by decide)]
    omega
  rw [e]; exact h)
abbrev pairO (q r : Int) (t1 t2 : Tok) (c : Nat) : Obj := { cls := .type "tuple", data := .seq #[.int q t1, .int r t2] c }
theorem divmod_D {prog : Program} {w : World} {A : Around} {E : Value → Shared → Prop} {s : Shared} {a b q r : Int} {t u : Tok} {Q : Value → Shared → Prop} {h₀ : Heap} {L : Addr} {m : Str → Option Value} {news : List (Addr × Obj)} (F : Fr h₀ L s.heap m) (N : News h₀ L s.heap news) (hb : b ≠ 0) (hq : a.fdiv b = q ∧ a.fmod b = r)
    (hp : PySem.PylongRoom (model prog w) A s)
    (h : ∀ D t1 t2 h' tk, Fr h₀ L h' m → News h₀ L h' ((D, pairO q r t1 t2 0) :: news) → AllLt D news → Q (.ref D) { s with toks := tk, heap := h' }) :
    wpAny (model prog w) A (call (.builtin "divmod") [.int a t, .int b u]) Q E s := by
  refine divmod_N F N hb (fun h' F' N' => ?_) (Or.inr hp)
  rw [hq.1, hq.2] at N'
  exact h _ _ _ h' _ F' N' (allLt_of fun p hp => Heap.lt_size (N p hp).1)
end Mine
namespace Mine
open PySem.Builtin.Int (intBits)
theorem abs2 (k : Nat) : ((2 : Int) ^ k).natAbs = 2 ^ k := by rw [← kbt_cast, Int.natAbs_natCast]
inductive Abs (z : Int) : Prop where | mk
theorem abs_skip {M : Model} {A : Around} {env : Env} {x : Str} {z : Int} {t : Tok} {Q : Unit → Shared → Prop} {E : Value → Shared → Prop} {s : Shared} (_ : Abs z) (h : wpAny M A (storeName env x (.int z t)) Q E s) : wpAny M A (storeName env x (.int z t)) Q E s := h
theorem abs_store {M : Model} {A : Around} {env : Env} {x : Str} {e : Int} {t : Tok} {Q : Unit → Shared → Prop} {E : Value → Shared → Prop} {s : Shared} {N : Nat} (hb : intBits e ≤ N)
    (h : ∀ z, Abs z → z = e → intBits z ≤ N → wpAny M A (storeName env x (.int z t)) Q E s) : wpAny M A (storeName env x (.int e t)) Q E s := h e .mk rfl hb
section
variable {prog : Program} {w : World} {A : Around} {E : Value → Shared → Prop} {s : Shared} {a b : Int} {t u : Tok} {Q : Value → Shared → Prop}
theorem pow3_z {l : Int} {N : Nat} (hb : intBits l ≤ N) (hN : 2 * N ≤ 100000000) (h : ∀ z, Abs z → z = 3 ^ intBits l → intBits z ≤ 2 * N + 1 → Q (.int z s.toks) { s with toks := s.toks + 1 }) :
    wpAny (model prog w) A (binaryOp .Pow (.int 3 t) (.int (intBits l : Int) u)) Q E s := by
  refine pow_int (by omega) ?_ ?_
  · have e : intBits (3 : Int) = 2 := by decide
    rw [e]
    have : (2 : Int) ^ 27 = 134217728 := by decide
    omega
  · have e : ((intBits l : Int)).toNat = intBits l := by omega
    rw [e]
    refine h _ .mk rfl ?_
    refine Nat.le_trans (intBits_pow_le (m := 2) (by decide) _) ?_
    omega
theorem mod_p {N : Nat} (hc : 0 < b) (hb : intBits b ≤ N) (h : ∀ z, Abs z → z = a.fmod b → 0 ≤ z → z < b → intBits z ≤ N → Q (.int z s.toks) { s with toks := s.toks + 1 }) : wpAny (model prog w) A (binaryOp .Mod (.int a t) (.int b u)) Q E s := by
  have e : a.fmod b = a % b := Int.fmod_eq_emod_of_nonneg _ (Int.le_of_lt hc)
  have h0 := Int.emod_nonneg a (show b ≠ 0 by omega)
  have h1 := Int.emod_lt_of_pos a hc
  rw [← e] at h0 h1
  exact mod_int' (by omega) (h _ .mk rfl h0 h1 (bits_fmod_by (by omega) hb))
theorem pow2_p {e : Int} {N : Nat} (h0 : 0 ≤ e) (h1 : e ≤ N) (hN : N ≤ 10000000) (h : ∀ z, Abs z → z = 2 ^ e.toNat → 0 < z → intBits z ≤ N + 1 → Q (.int z s.toks) { s with toks := s.toks + 1 }) :
    wpAny (model prog w) A (binaryOp .Pow (.int 2 t) (.int e u)) Q E s := by
  refine pow_int h0 ?_ (h _ .mk rfl (kbt_pos _) ?_)
  · have e : intBits (2 : Int) = 2 := by decide
    rw [e]
    have : (2 : Int) ^ 27 = 134217728 := by decide
    omega
  · refine intBits_le_iff.mpr ?_
    have e1 := abs2 e.toNat
    rw [e1]
    exact Nat.pow_lt_pow_right (by decide) (by omega)
theorem shl_p {e x : Int} {N m : Nat} (h0 : 0 ≤ e) (hx : intBits x ≤ m) (h1 : e ≤ N) (hN : m + N ≤ 100000000) (h : ∀ z, Abs z → z = x * 2 ^ e.toNat → intBits z ≤ m + N → Q (.int z s.toks) { s with toks := s.toks + 1 }) :
    wpAny (model prog w) A (binaryOp .LShift (.int x t) (.int e u)) Q E s := by
  refine lshift_int h0 ?_ (h _ .mk rfl ?_)
  · have : (2 : Int) ^ 27 = 134217728 := by decide
    omega
  · by_cases hx0 : x = 0
    · subst hx0
      rw [Int.zero_mul]
      exact Nat.zero_le _
    refine intBits_le_iff.mpr ?_
    have e1 := abs2 e.toNat
    rw [Int.natAbs_mul, e1]
    have h2 := intBits_le_iff.mp hx
    have h3 : x.natAbs * 2 ^ e.toNat < 2 ^ m * 2 ^ e.toNat := Nat.mul_lt_mul_of_pos_right h2 (Nat.two_pow_pos _)
    rw [← Nat.pow_add] at h3
    exact Nat.lt_of_lt_of_le h3 (Nat.pow_le_pow_right (by decide) (by omega))
theorem shr_p {e x : Int} {m : Nat} (h0 : 0 ≤ e) (hx : intBits x ≤ m) (h : ∀ z, Abs z → z = x / 2 ^ e.toNat → intBits z ≤ m → Q (.int z s.toks) { s with toks := s.toks + 1 }) :
    wpAny (model prog w) A (binaryOp .RShift (.int x t) (.int e u)) Q E s := by
  have e1 := fdivP x e.toNat
  exact rshift_int h0 (by rw [e1]; exact h _ .mk rfl (by rw [← e1]; exact bits_fdiv hx))
theorem fdv_p {m : Nat} (hc : 0 < b) (hx : intBits a ≤ m) (hp : PySem.PylongRoom (model prog w) A s) (h : ∀ z, Abs z → z = a / b → intBits z ≤ m → Q (.int z s.toks) { s with toks := s.toks + 1 }) :
    wpAny (model prog w) A (binaryOp .FloorDiv (.int a t) (.int b u)) Q E s := by
  have e1 : a.fdiv b = a / b := Int.fdiv_eq_ediv_of_nonneg _ (Int.le_of_lt hc)
  exact floordiv_int (by omega) (by rw [e1]; exact h _ .mk rfl (by rw [← e1]; exact bits_fdiv hx)) (Or.inr hp)
end
theorem fmodB (a : Int) {b : Int} (h : 0 < b) : 0 ≤ a.fmod b ∧ a.fmod b < b := by
  rw [Int.fmod_eq_emod_of_nonneg _ (Int.le_of_lt h)]
  exact ⟨Int.emod_nonneg _ (by omega), Int.emod_lt_of_pos _ h⟩
theorem fdivE (a : Int) {b : Int} (h : 0 < b) : a.fdiv b = a / b := Int.fdiv_eq_ediv_of_nonneg _ (Int.le_of_lt h)
theorem fmodE (a : Int) {b : Int} (h : 0 < b) : a.fmod b = a % b := Int.fmod_eq_emod_of_nonneg _ (Int.le_of_lt h)
theorem Pre2.bq {a b n q r : Int} (H : Pre2 a b n q r) {N : Nat} (hn : n ≤ N) : intBits q ≤ N := Nat.le_trans (bits_of_lt H.q0 H.q1) (by have := H.n1; omega)
theorem Pre2.br {a b n q r : Int} (H : Pre2 a b n q r) {N : Nat} (hn : n ≤ N) : intBits r ≤ N := Nat.le_trans (bits_of_lt H.r0 (Int.lt_trans H.r1 H.b2)) (by have := H.n1; omega)
theorem eq_t {prog : Program} {w : World} {A : Around} {E : Value → Shared → Prop} {s : Shared} {a b : Int} {t u : Tok} {Q : Value → Shared → Prop} (e : a = b) (h : Q (.bool true) s) : wpAny (model prog w) A (compareOp .Eq (.int a t) (.int b u)) Q E s :=
  eq_int (by rw [e, beq_self_eq_true]; exact h)
theorem gen_toks {α : Type} {M : Model} {A : Around} {m : Sem α} {Q : α → Shared → Prop} {E : Value → Shared → Prop} {h : Heap} {g : Array GenState} {d : Drawn} {X : Nat} {o : OsState}
    (H : ∀ tk, wpAny M A m Q E { heap := h, gens := g, drawn := d, toks := tk, os := o }) : wpAny M A m Q E { heap := h, gens := g, drawn := d, toks := X, os := o } := H X
theorem mul_p {prog : Program} {w : World} {A : Around} {E : Value → Shared → Prop} {s : Shared} {a b : Int} {t u : Tok} {Q : Value → Shared → Prop} {m n : Nat} (ha : intBits a ≤ m) (hb : intBits b ≤ n) (h : m + n ≤ 134217728) (hq : Q (.int (a * b) s.toks) { s with toks := s.toks + 1 }) :
    wpAny (model prog w) A (binaryOp .Mult (.int a t) (.int b u)) Q E s := mul_int hq (mulOk_of_bits ha hb h)
end Mine
namespace Mine
set_option maxRecDepth 100000
set_option maxHeartbeats 8000000
open_top hd for PySem.Challenge.rw_dn0134_06
end Mine
namespace Mine
theorem room_of {p : Program} {loose : List Str} {mean : ExcName → Option Value} {mg mb : Str → Option Value} {g h : Heap} {L : Addr} {m : Str → Option Value} (T : Top p loose mean mg mb g) (F : Fr g L h m) : h.NoLimit := T.nolimit.keeps F.keep
def PairCall (prog : Program) (w : World) (K : Frag) (p : Program) (loose : List Str) (mean : ExcName → Option Value) (mg mb : Str → Option Value) (f : Addr) (vs : List Value) (q r : Int) (k : Nat) : Prop :=
  ∀ (dp un : Nat) (gd : Option (List Code)) (cn : Str) (cs : Scope) (a : Addr) (ccd : Value) (cl : List (Str × Addr)) (outer : List Env) (A₀ : Around) (base h₀ : Heap) (L : Addr) (m : Str → Option Value) (news : List (Addr × Obj)) (s : Shared)
    (Q E : Value → Shared → Prop),
    Below A₀ base outer h₀ → Fr h₀ L s.heap m → K.In h₀ → News h₀ L s.heap news → Top p loose mean mg mb h₀ → cs.kind = .function → dp + k + 104 < recursionLimit → un + 8 * k + 100 < cLine →
    (∀ D t1 t2 c h' tk', Fr h₀ L h' m → News h₀ L h' ((D, pairO q r t1 t2 c) :: news) → AllLt D news → Q (.ref D) { s with heap := h', toks := tk' }) →
    wpAny (model prog w) (ktrTop dp un gd cn cs L a ccd cl outer) (call (.ref f) vs) Q E s

theorem pair_use {prog : Program} {w : World} {K : Frag} {p : Program} {loose : List Str} {mean : ExcName → Option Value} {mg mb : Str → Option Value} {f : Addr} {vs : List Value} {q r : Int} {k : Nat}
   {dp un : Nat} {gd : Option (List Code)} {cn : Str} {cs : Scope} {a : Addr} {ccd : Value} {cl : List (Str × Addr)} {outer : List Env} {A₀ : Around} {base h₀ : Heap} {L : Addr} {m : Str → Option Value} {news : List (Addr × Obj)} {s : Shared} {Q E : Value → Shared → Prop}
   (B : Below A₀ base outer h₀) (F : Fr h₀ L s.heap m) (X : K.In h₀) (N : News h₀ L s.heap news) (T : Top p loose mean mg mb h₀) (hk : cs.kind = .function) (C : PairCall prog w K p loose mean mg mb f vs q r k)
   (hd : dp + k + 104 < recursionLimit) (hu : un + 8 * k + 100 < cLine)
   (ret : ∀ D t1 t2 c h' tk', Fr h₀ L h' m → News h₀ L h' ((D, pairO q r t1 t2 c) :: news) → AllLt D news → Q (.ref D) { s with heap := h', toks := tk' }) :
    wpAny (model prog w) (ktrTop dp un gd cn cs L a ccd cl outer) (call (.ref f) vs) Q E s := C _ _ _ _ _ _ _ _ _ _ _ _ _ _ _ _ _ _ B F X N T hk hd hu ret

section
variable (w : World) (mean : ExcName → Option Value) (mg mb : Str → Option Value)
abbrev PC := PairCall PySem.Challenge.rw_dn0134_06.row.prog w (hd.heap_39 w.params) hd.view_39 (looseW hd.view_39 []) mean mg mb
def Div2 (k : Nat) : Prop := ∀ (a b n q r : Int) (t u v : Tok), Pre2 a b n q r → n ≤ 2 ^ k → k ≤ 19 → PC w mean mg mb 21 [.int a t, .int b u, .int n v] q r (2 * k + 2)
def Div3 (k : Nat) : Prop := ∀ (a12 a3 b b1 b2 n q r : Int) (t1 t2 t3 t4 t5 t6 : Tok), Pre3 a12 a3 b b1 b2 n q r → n ≤ 2 ^ k → k ≤ 19 → PC w mean mg mb 28 [.int a12 t1, .int a3 t2, .int b t3, .int b1 t4, .int b2 t5, .int n t6] q r (2 * k + 3)
end
end Mine
namespace Mine
open PySem.Builtin.Int (intBits)
local macro_rules | `(tactic| bits_by_make) => `(tactic| with_reducible assumption)
local macro_rules | `(tactic| walk_at "exec While Compare cons cons") => `(tactic| k_extra "mywhile")
local macro_rules | `(tactic| walk_at "exec While Compare cons nil") => `(tactic| k_extra "mywhile")
set_option maxRecDepth 100000 in
set_option maxHeartbeats 8000000 in
theorem div3_step (w : World) (mean : ExcName → Option Value) (mg mb : Str → Option Value) (k : Nat) (H : Div2 w mean mg mb k) : Div3 w mean mg mb k := by
  (have hh : PySem.Challenge.rw_dn0134_06 = PySem.Challenge.rw_dn0134_06 ∧ hd.heap_39 = hd.heap_39 := by (k_fill; exact ⟨rfl, rfl⟩))
  clear hh
  k_with_none
  intro a12 a3 b b1 b2 n q r t1 t2 t3 t4 t5 t6 P hn hk19
  have hn19 : n ≤ 524288 := Int.le_trans hn (pmono hk19)
  have hn1 := P.n1
  have hbp : intBits ((2 : Int) ^ n.toNat) ≤ 600000 := Nat.le_trans (bits_of_lt (k := n.toNat + 1) (Int.le_of_lt (ppos _)) (by rw [Int.pow_succ]; have := ppos n.toNat; omega)) (by omega)
  have hbb1 : intBits b1 ≤ 600000 := Nat.le_trans (bits_of_lt (by have := ppos (n.toNat - 1); have := P.b10; omega) P.b11) (by omega)
  have hbb2 : intBits b2 ≤ 600000 := Nat.le_trans (bits_of_lt P.b20 P.b21) (by omega)
  have hba : intBits a12 ≤ 5000000 := bits_of_natAbs_le (b := b) (by have := P.a12b; omega) (by rw [P.e]; exact Nat.le_trans (bits_add (bits_mul hbb1 hbp) hbb2) (by decide))
  unfold PC PairCall
  intro dp un gd cn cs a ccd cl outer A₀ base h₀ L m news s Q E B F X N T hk hd hu hret
  k_with "call ref" => (
    obtain ⟨q', r', hP'⟩ := P.neCase (by rw [← fdivP]; assumption)
    have hbr : intBits r' ≤ 600000 := Nat.le_trans (bits_of_lt hP'.r0 (Int.lt_trans hP'.r1 hP'.b2)) (by omega)
    have hbq : intBits q' ≤ 600000 := Nat.le_trans (bits_of_lt hP'.q0 hP'.q1) (by omega)
    (refine' pair_use ?k1 ?k2 ?k3 ?k4 ?k5 ?kK (H _ _ _ q' r' _ _ _ hP' hn hk19) ?kd ?ku ?_)
    (case k1 => k_asm)
    (case k2 => k_asm)
    (case k3 => k_asm)
    (case k4 => k_asm)
    (case k5 => k_asm)
    (case kK => exact rfl)
    (case kd => ktr_room)
    (case ku => ktr_units)
    intro D' x1 x2 c' h' tk' F' N' l'
    (try dsimp only)
    (try k_fold))
  k_with "mywhile" => (k_while (fun _ x y => y * b + x = q * b + r ∧ x < b) (fun _ x y => (- x).toNat) "r" "q")
  k_with "state" => (first | exact P.start1 (by assumption) | exact P.start2 (by assumption) | exact d3_turn ⟨by assumption, by assumption⟩ (by assumption))
  have hb0 : 0 < b := by have := P.r0; have := P.r1; omega
  refine wpAny_call ?_
  k_dflt ktr_enter
  k_steps
  all_goals (
    obtain ⟨e1, e2⟩ := P.fin (by assumption) (by assumption) (by assumption)
    subst e1
    subst e2
    refine hret _ _ _ _ _ _ (by k_asm) (news_sub (by k_asm) (sub0 (sub1 subr))) ?_
    first | assumption | exact And.right (by assumption))
end Mine
namespace Mine
open PySem.Builtin.Int (intBits)
local macro_rules | `(tactic| bits_by_make) => `(tactic| with_reducible assumption)
local macro_rules | `(tactic| walk_at "binaryOp RShift int int") => `(tactic| k_extra "half")
local macro_rules | `(tactic| walk_at "inplaceOp RShift int int") => `(tactic| with_reducible refine ihalf_z ?_)
local macro_rules | `(tactic| walk_at "inplaceOp LShift int int") => `(tactic| (with_reducible refine ilshift_int ?kbn ?kbs ?_; (case kbn => decide); (case kbs => refine kbm_shl (m := 2000000) (Nat.le_trans (by with_reducible assumption) ?_) ?_ ?_ <;> decide)))
local macro_rules | `(tactic| walk_at "call builtin:divmod") => `(tactic| k_extra "mydiv")
set_option maxRecDepth 100000 in
set_option maxHeartbeats 8000000 in
theorem div2_step (w : World) (mean : ExcName → Option Value) (mg mb : Str → Option Value) (k : Nat) (H : ∀ j, k = j + 1 → Div3 w mean mg mb j) : Div2 w mean mg mb k := by
  (have hh : PySem.Challenge.rw_dn0134_06 = PySem.Challenge.rw_dn0134_06 ∧ hd.heap_39 = hd.heap_39 := by (k_fill; exact ⟨rfl, rfl⟩))
  clear hh
  k_with_none
  intro a b n q r t1 t2 t3 P hn hk19
  have hn19 : n ≤ 524288 := Int.le_trans hn (pmono hk19)
  have hn1 := P.n1
  have hba : intBits a ≤ 1200000 := Nat.le_trans (bits_of_lt P.a0 P.alt) (by omega)
  have hbb : intBits b ≤ 600000 := Nat.le_trans (bits_of_lt (by have := P.r0; have := P.r1; omega) P.b2) (by omega)
  have hb0 : b ≠ 0 := by have := P.r0; have := P.r1; omega
  unfold PC PairCall
  intro dp un gd cn cs aa ccd cl outer A₀ base h₀ L m news s Q E B F X N T hk hd hu hret
  k_with "half" => (first
    | (with_reducible refine half_z (halves0 (by assumption)) ?_; intro hz ez)
    | (with_reducible refine half_z (halves1 (by assumption)) ?_; intro hz ez))
  k_with "mydiv" => (
    (refine' divmod_D ?k1 ?k2 hb0 P.fdm (PySem.PylongRoom.of (room_of (by assumption) (by assumption)) ?kd) ?_)
    (case k1 => k_asm)
    (case k2 => k_asm)
    (case kd => (simp only [Builtin.pylongFrames]; ktr_room))
    intro D' x1 x2 h' tk' F' N' l'
    (try dsimp only)
    (try k_fold))
  k_with "call ref" => (first
    | (
      (refine' pair_use ?k1 ?k2 ?k3 ?k4 ?k5 ?kK (hJ _ _ _ _ _ _ q2 _ _ _ _ _ _ _ h2 hjz hj19) ?kd ?ku ?_)
      (case k1 => k_asm)
      (case k2 => k_asm)
      (case k3 => k_asm)
      (case k4 => k_asm)
      (case k5 => k_asm)
      (case kK => exact rfl)
      (case kd => ktr_room)
      (case ku => ktr_units)
      intro D' x1 x2 c' h' tk' F' N' l'
      (try dsimp only)
      (try k_fold))
    | (
      obtain ⟨j, hj⟩ : ∃ j, k = j + 1 := ⟨k - 1, by have := P.big (by assumption); have : k ≠ 0 := (by intro e; subst e; simp at hn; omega); omega⟩
      have hJ := H j hj
      have hj19 : j ≤ 19 := by omega
      have hjz : hz ≤ 2 ^ j := halfLe ez (by rw [← hj]; omega)
      obtain ⟨q1, r1, q2, h1, h2, h3⟩ := (by first | exact P.halvesT ez | exact P.padT.halvesT ez : ∃ q1 r1 q2, _ ∧ _ ∧ _)
      have hbq1 : intBits q1 ≤ 600000 := Nat.le_trans (bits_of_lt h1.q0 h1.q1) (by omega)
      (refine' pair_use ?k1 ?k2 ?k3 ?k4 ?k5 ?kK (hJ _ _ _ _ _ _ q1 r1 _ _ _ _ _ _ h1 hjz hj19) ?kd ?ku ?_)
      (case k1 => k_asm)
      (case k2 => k_asm)
      (case k3 => k_asm)
      (case k4 => k_asm)
      (case k5 => k_asm)
      (case kK => exact rfl)
      (case kd => ktr_room)
      (case ku => ktr_units)
      intro D' x1 x2 c' h' tk' F' N' l'
      (try dsimp only)
      (try k_fold)))
  refine wpAny_call ?_
  k_dflt ktr_enter
  k_steps
  all_goals (first
    | exact absurd ‹Builtin.bitAnd n 1 = 0› ‹Builtin.bitAnd n 1 ≠ 0›
    | exact hret _ _ _ _ _ _ (by k_asm) (by k_asm) (by assumption)
    | (subst h3; refine hret _ _ _ _ _ _ (by k_asm) (news_sub (by k_asm) (sub0 (sub1 (sub1 (sub1 subr))))) ?_; exact (And.right (And.right (And.right (by assumption))))))
theorem div_all (w : World) (mean : ExcName → Option Value) (mg mb : Str → Option Value) : ∀ k, Div2 w mean mg mb k ∧ Div3 w mean mg mb k
  | 0 => have h := div2_step w mean mg mb 0 (fun j e => by omega); ⟨h, div3_step w mean mg mb 0 h⟩
  | k + 1 => have h := div2_step w mean mg mb (k + 1) (fun j e => by obtain rfl : k = j := by omega
                                                                     exact (div_all w mean mg mb k).2); ⟨h, div3_step w mean mg mb (k + 1) h⟩
theorem use2 {w : World} {mean : ExcName → Option Value} {mg mb : Str → Option Value} {a b n q r : Int} {t u v : Tok} (h : Pre2 a b n q r) (hn : n ≤ 262144) : PC w mean mg mb 21 [.int a t, .int b u, .int n v] q r 38 := (div_all w mean mg mb 18).1 a b n q r t u v h hn (by decide)
theorem use3 {w : World} {mean : ExcName → Option Value} {mg mb : Str → Option Value} {a12 a3 b b1 b2 n q r : Int} {t1 t2 t3 t4 t5 t6 : Tok} (h : Pre3 a12 a3 b b1 b2 n q r) (hn : n ≤ 262144) : PC w mean mg mb 28 [.int a12 t1, .int a3 t2, .int b t3, .int b1 t4, .int b2 t5, .int n t6] q r 39 := (div_all w mean mg mb 18).2 a12 a3 b b1 b2 n q r t1 t2 t3 t4 t5 t6 h hn (by decide)
end Mine
namespace Mine
section
variable {prog : Program} {w : World} {A : Around} {E : Value → Shared → Prop} {s : Shared} {h₀ : Heap} {L l : Addr} {m : Str → Option Value} {news : List (Addr × Obj)} {value slice : PySem.Expr} {vs : List Value} {ns : List Int} {x y : Int} {t u : Tok} {Q : Value → Shared → Prop}
theorem cutL_from (F : Fr h₀ L s.heap m) (N : News h₀ L s.heap news) (hl : s.heap.IsList l vs.toArray) (hi : IntsAre vs ns) (x0 : 0 ≤ x) (hz : ns.length ≤ 1000000)
    (h : ∀ D ws h', Fr h₀ L h' m → News h₀ L h' ((D, listOf (List.toArray ws) 0) :: news) → (∀ p ∈ news, p.1 < D) → IntsAre ws (ns.drop x.toNat) → Q (.ref D) { s with heap := h' })
    (hs : subscripted slice false (.ref l) (.ref s.heap.objs.size) = operate [.ref s.heap.objs.size, .ref l] (getItem (.ref l) (.ref s.heap.objs.size)) := by with_unfolding_all rfl) :
    wpAny (model prog w) A (subscriptTail value slice (.ref l) (.ref s.heap.objs.size)) Q E { s with heap := s.heap.push { cls := .type "slice", data := .fields #[.int x t, .none, .none] } } :=
  kba_turn (value' := PySem.Expr.Name (PySem.Str.ofString "_") ⟨0, 0, 0, 0⟩) (fun _ => rfl) (kmk_slice_ints F N hl (.int _ _) .none hi (kmk_from hi x0) rfl (fun D ws h' F' N' l' I' _ _ => h D ws h' F' N' l' I') hs (fun _ => rfl) (by rw [List.size_toArray, hi.length]; exact Nat.le_trans hz (by decide)))
theorem cutL_upto (F : Fr h₀ L s.heap m) (N : News h₀ L s.heap news) (hl : s.heap.IsList l vs.toArray) (hi : IntsAre vs ns) (x0 : 0 ≤ x) (hz : ns.length ≤ 1000000)
    (h : ∀ D ws h', Fr h₀ L h' m → News h₀ L h' ((D, listOf (List.toArray ws) 0) :: news) → (∀ p ∈ news, p.1 < D) → IntsAre ws (ns.take x.toNat) → Q (.ref D) { s with heap := h' })
    (hs : subscripted slice false (.ref l) (.ref s.heap.objs.size) = operate [.ref s.heap.objs.size, .ref l] (getItem (.ref l) (.ref s.heap.objs.size)) := by with_unfolding_all rfl) :
    wpAny (model prog w) A (subscriptTail value slice (.ref l) (.ref s.heap.objs.size)) Q E { s with heap := s.heap.push { cls := .type "slice", data := .fields #[.none, .int x t, .none] } } :=
  kba_turn (value' := PySem.Expr.Name (PySem.Str.ofString "_") ⟨0, 0, 0, 0⟩) (fun _ => rfl) (kmk_slice_ints F N hl .none (.int _ _) hi (kmk_upto hi x0) rfl (fun D ws h' F' N' l' I' _ _ => h D ws h' F' N' l' I') hs (fun _ => rfl) (by rw [List.size_toArray, hi.length]; exact Nat.le_trans hz (by decide)))
theorem cutL_run (F : Fr h₀ L s.heap m) (N : News h₀ L s.heap news) (hl : s.heap.IsList l vs.toArray) (hi : IntsAre vs ns) (x0 : 0 ≤ x) (y0 : 0 ≤ y) (hz : ns.length ≤ 1000000)
    (h : ∀ D ws h', Fr h₀ L h' m → News h₀ L h' ((D, listOf (List.toArray ws) 0) :: news) → (∀ p ∈ news, p.1 < D) → IntsAre ws ((ns.drop x.toNat).take (min y.toNat ns.length - x.toNat)) → Q (.ref D) { s with heap := h' })
    (hs : subscripted slice false (.ref l) (.ref s.heap.objs.size) = operate [.ref s.heap.objs.size, .ref l] (getItem (.ref l) (.ref s.heap.objs.size)) := by with_unfolding_all rfl) :
    wpAny (model prog w) A (subscriptTail value slice (.ref l) (.ref s.heap.objs.size)) Q E { s with heap := s.heap.push { cls := .type "slice", data := .fields #[.int x t, .int y u, .none] } } :=
  kba_turn (value' := PySem.Expr.Name (PySem.Str.ofString "_") ⟨0, 0, 0, 0⟩) (fun _ => rfl) (kmk_slice_ints F N hl (.int _ _) (.int _ _) hi (kmk_run hi x0 y0) rfl (fun D ws h' F' N' l' I' _ _ => h D ws h' F' N' l' I') hs (fun _ => rfl) (by rw [List.size_toArray, hi.length]; exact Nat.le_trans hz (by decide)))
end
/-- a script's first numbers, the written ones where it has none -/
theorem len3 {l : List Int} (h : l.length = 3) : ∃ a b c, l = [a, b, c] := by
  match l, h with
  | [a, b, c], _ => exact ⟨a, b, c, rfl⟩
theorem len2 {l : List Int} (h : l.length = 2) : ∃ a b, l = [a, b] := by
  match l, h with
  | [a, b], _ => exact ⟨a, b, rfl⟩
theorem head3 (s : List Int) (a b c : Int) : ∃ x y z, List.take (3 : Int).toNat (s ++ List.drop ((s.length : Int)).toNat [a, b, c]) = [x, y, z] := by
  refine len3 ?_
  rw [Int.toNat_natCast, List.length_take, List.length_append, List.length_drop]
  show min 3 (s.length + (3 - s.length)) = 3
  omega
theorem head2 (s : List Int) (a b : Int) : ∃ x y, List.take (2 : Int).toNat (s ++ List.drop ((s.length : Int)).toNat [a, b]) = [x, y] := by
  refine len2 ?_
  rw [Int.toNat_natCast, List.length_take, List.length_append, List.length_drop]
  show min 2 (s.length + (2 - s.length)) = 2
  omega
theorem head_bits {s l ys : List Int} {k j : Nat} (h : PyData.layable0 (.list (s.map .int)) = true) (hl : ∀ x ∈ l, PySem.Builtin.Int.intBits x ≤ 1048576) (e : List.take k (s ++ List.drop j l) = ys) : ∀ x ∈ ys, PySem.Builtin.Int.intBits x ≤ 1048576 := by
  subst e
  intro x hx
  rcases List.mem_append.mp (List.mem_of_mem_take hx) with hx | hx
  · exact intBits_le_of_item hx h
  · exact hl x (List.mem_of_mem_drop hx)
theorem ints3 {vs : List Value} {a b c : Int} (h : IntsAre vs [a, b, c]) : ∃ t u v, vs = [.int a t, .int b u, .int c v] := by
  obtain ⟨t, v1, e1, h1⟩ := h.cons_inv
  obtain ⟨u, v2, e2, h2⟩ := h1.cons_inv
  obtain ⟨v, v3, e3, h3⟩ := h2.cons_inv
  exact ⟨t, u, v, by rw [e1, e2, e3, h3.nil_inv]⟩
theorem ints2 {vs : List Value} {a b : Int} (h : IntsAre vs [a, b]) : ∃ t u, vs = [.int a t, .int b u] := by
  obtain ⟨t, v1, e1, h1⟩ := h.cons_inv
  obtain ⟨u, v2, e2, h2⟩ := h1.cons_inv
  exact ⟨t, u, by rw [e1, e2, h2.nil_inv]⟩
end Mine
namespace Mine
open PySem.Builtin.Int (intBits)
section
variable {prog : Program} {w : World} {A : Around} {E : Value → Shared → Prop} {s : Shared} {h₀ : Heap} {L : Addr} {news : List (Addr × Obj)} {value slice : Expr} {l : Addr} {vs : List Value} {ns : List Int} {c : Nat} {k : Int} {u : Tok} {Q : Value → Shared → Prop}
theorem itemD (N : News h₀ L s.heap news) (hm : (l, listOf vs.toArray c) ∈ news) (hi : IntsAre vs ns) (h0 : 0 ≤ k) (h1 : k < (ns.length : Int)) (h2 : (ns.length : Int) ≤ 1000000) (h : ∀ t, Q (.int (ns.getD k.toNat 0) t) s)
    (hs : subscripted slice false (.ref l) (.int k u) = operate [.ref l, .int k u] (getItem (.ref l) (.int k u)) := by with_unfolding_all rfl) (hg : ∀ r, letTemporaryGo value (.ref l) r = pure () := by intro _; with_unfolding_all rfl) :
    wpAny (model prog w) A (subscriptTail value slice (.ref l) (.int k u)) Q E s :=
  item_list_ints ⟨_, (N _ hm).1, rfl, c, rfl⟩ hi h0 h1 (by omega) h hs hg
end
def stp (one two : Int) (s : Int × Int) (x : Int) : Int × Int := (s.2 + one * s.1, x + two * s.1)
def sts (one two : Int) : Int × Int → List Int → List (Int × Int)
  | s, [] => [s]
  | s, x :: r => s :: sts one two (stp one two s x) r
def pd (p : Int × Int) : W.Dat := .tuple [.int p.1, .int p.2]
theorem sts_snoc (one two : Int) : ∀ (l : List Int) (s : Int × Int) (x : Int) (es : List (Int × Int)) (e : Int × Int), sts one two s l = es ++ [e] → sts one two s (l ++ [x]) = es ++ [e] ++ [stp one two e x]
  | [], s, x, es, e, h => by
    have h' : [s] = es ++ [e] := h
    cases es with
    | nil =>
      simp only [List.nil_append, List.cons.injEq, and_true] at h'
      subst h'
      rfl
    | cons a r => simp at h'
  | y :: l, s, x, es, e, h => by
    have h' : s :: sts one two (stp one two s y) l = es ++ [e] := h
    cases es with
    | nil =>
      simp only [List.nil_append, List.cons.injEq] at h'
      have : sts one two (stp one two s y) l ≠ [] := by cases l <;> simp [sts]
      exact absurd h'.2 this
    | cons a r =>
      simp only [List.cons_append, List.cons.injEq] at h'
      obtain ⟨rfl, h2⟩ := h'
      show s :: sts one two (stp one two s y) (l ++ [x]) = _
      rw [sts_snoc one two l _ x r e h2]
      rfl
theorem sts_len (one two : Int) : ∀ (l : List Int) (s : Int × Int), (sts one two s l).length = l.length + 1
  | [], _ => rfl
  | _ :: l, s => by rw [sts, List.length_cons, sts_len one two l, List.length_cons]
structure St06 (one two a b : Int) (pre : List Int) (out : List W.Dat) : Prop where
  ex : ∃ es e, sts one two (a, b) pre = es ++ [e] ∧ out = es.map pd ++ [pd e] ∧ 0 ≤ e.1 ∧ 0 ≤ e.2 ∧ intBits e.1 ≤ 4600 + 70 * pre.length ∧ intBits e.2 ≤ 4600 + 70 * pre.length
theorem St06.start {one two a b : Int} (a0 : 0 ≤ a) (b0 : 0 ≤ b) (ha : intBits a ≤ 4600) (hb : intBits b ≤ 4600) : St06 one two a b [] [.tuple [.int a, .int b]] :=
  ⟨[], (a, b), rfl, rfl, a0, b0, ha, hb⟩
theorem St06.turn {one two a b x u l z1 z2 : Int} {pre : List Int} {es : List (Int × Int)} (h1 : sts one two (a, b) pre = es ++ [(u, l)]) (u0 : 0 ≤ u) (l0 : 0 ≤ l) (bu : intBits u ≤ 4600 + 70 * pre.length) (bl : intBits l ≤ 4600 + 70 * pre.length)
    (o0 : 0 ≤ one) (t0 : 0 ≤ two) (bo : intBits one ≤ 64) (bt : intBits two ≤ 64) (x0 : 0 ≤ x) (bx : intBits x ≤ 4600) (e1 : z1 = l + one * u) (e2 : z2 = x + two * u) :
    St06 one two a b (pre ++ [x]) ((es.map pd ++ [pd (u, l)]) ++ [.tuple [.int z1, .int z2]]) := by
  subst e1 e2
  have hl : (pre ++ [x]).length = pre.length + 1 := by simp
  have m1 := bits_mul bo bu
  have m2 := bits_mul bt bu
  have a1 := bits_add bl m1
  have a2 := bits_add bx m2
  refine ⟨es ++ [(u, l)], stp one two (u, l) x, sts_snoc one two pre (a, b) x es (u, l) h1, ?_, ?_, ?_, ?_, ?_⟩
  · rw [List.map_append]; rfl
  · exact Int.add_nonneg l0 (Int.mul_nonneg o0 u0)
  · exact Int.add_nonneg x0 (Int.mul_nonneg t0 u0)
  · rw [hl]; refine Nat.le_trans a1 ?_; omega
  · rw [hl]; refine Nat.le_trans a2 ?_; omega
theorem St06.done {one two a b : Int} {ns : List Int} {out : List W.Dat} (h : St06 one two a b ns out) : out = (sts one two (a, b) ns).map pd := by
  obtain ⟨es, e, h1, h2, _⟩ := h.ex
  rw [h1, h2, List.map_append]; rfl
theorem St06.len {one two a b : Int} {ns : List Int} {out : List W.Dat} (h : St06 one two a b ns out) : out.length = ns.length + 1 := by
  rw [h.done, List.length_map, sts_len]
section
variable {prog : Program} {w : World} {A : Around} {E : Value → Shared → Prop} {s : Shared} {h₀ : Heap} {L l : Addr}
theorem getD_all {ns : List Int} {p : Int → Prop} (h : ∀ x ∈ ns, p x) {k : Nat} (hk : k < ns.length) : p (ns.getD k 0) := by
  rw [List.getD_eq_getElem?_getD, List.getElem?_eq_getElem hk]; exact h _ (List.getElem_mem hk)
theorem dat_le30 {L9 : List (Addr × Obj)} {us : List Value} {ds : List W.Dat} {k : Nat} (h : W.DatAll L9 us ds) (e : ds.length = k + 1) (hk : k ≤ 12) : us.length ≤ 30 := by
  rw [h.length, e]; omega
theorem st06_end {news kTl : List (Addr × Obj)} {l Dc D1 : Addr} {o1 o2 : Obj} (k : OwnOff kTl (l :: Dc :: D1 :: news.map (·.1))) (h1 : AllLt l news) (h2 : AllLt Dc news) (h3 : AllLt D1 news) (h4 : @LT.lt Nat _ D1 l) (h5 : @LT.lt Nat _ l Dc) : OwnOff ((Dc, o1) :: (D1, o2) :: kTl) (l :: news.map (·.1)) := by
  have key : ∀ D : Addr, AllLt D news → @Ne Nat D l → ∀ b ∈ l :: news.map (·.1), D ≠ b := by
    intro D hD hl b hb
    rcases List.mem_cons.mp hb with rfl | hb
    · exact hl
    · obtain ⟨p, hp, rfl⟩ := List.mem_map.mp hb
      exact fun e => Nat.lt_irrefl _ (e ▸ kst_ltOf hD p hp : @LT.lt Nat _ p.1 p.1)
  intro p hp b hb
  rcases List.mem_cons.mp hp with rfl | hp
  · exact key Dc h2 (by omega) b hb
  rcases List.mem_cons.mp hp with rfl | hp
  · exact key D1 h3 (by omega) b hb
  refine k p hp b ?_
  rcases List.mem_cons.mp hb with rfl | hb
  · exact .head _
  · exact .tail _ (.tail _ (.tail _ hb))
theorem sub_mid1 {a b : Addr × Obj} {news tl : List (Addr × Obj)} : ∀ p ∈ a :: b :: (news ++ tl), p ∈ news ++ (a :: b :: tl) := by
  intro p hp
  rcases List.mem_cons.mp hp with rfl | hp
  · exact List.mem_append_right _ (.head _)
  rcases List.mem_cons.mp hp with rfl | hp
  · exact List.mem_append_right _ (.tail _ (.head _))
  rcases List.mem_append.mp hp with hp | hp
  · exact List.mem_append_left _ hp
  · exact List.mem_append_right _ (.tail _ (.tail _ hp))
theorem sub_mid2 {a b : Addr × Obj} {news tl : List (Addr × Obj)} : ∀ p ∈ news ++ (a :: b :: tl), p ∈ a :: b :: (news ++ tl) := by
  intro p hp
  rcases List.mem_append.mp hp with hp | hp
  · exact .tail _ (.tail _ (List.mem_append_left _ hp))
  rcases List.mem_cons.mp hp with rfl | hp
  · exact .head _
  rcases List.mem_cons.mp hp with rfl | hp
  · exact .tail _ (.head _)
  · exact .tail _ (.tail _ (List.mem_append_right _ hp))
theorem dat_snocR {L9 : List (Addr × Obj)} : ∀ {us : List Value} {ds : List W.Dat} {d : W.Dat}, W.DatAll L9 us (ds ++ [d]) → ∃ ws v, us = ws ++ [v] ∧ W.DatIn L9 v d
  | _, [], _, h => by
    cases h with
    | cons hv hr => cases hr; exact ⟨[], _, rfl, hv⟩
  | _, _ :: ds, _, h => by
    cases h with
    | cons hv hr =>
      obtain ⟨ws, v, e, h2⟩ := dat_snocR hr
      exact ⟨_ :: ws, v, by rw [e]; rfl, h2⟩
theorem pd_open {L9 : List (Addr × Obj)} {v : Value} {x y : Int} (h : W.DatIn L9 v (.tuple [.int x, .int y])) : ∃ a n t1 t2, v = .ref a ∧ (a, ({ cls := .type "tuple", data := .seq #[.int x t1, .int y t2] n } : Obj)) ∈ L9 := by
  cases h with
  | tuple hm hr =>
    cases hr with
    | cons h1 hr =>
      cases hr with
      | cons h2 hr =>
        cases hr
        cases h1
        cases h2
        exact ⟨_, _, _, _, rfl, hm⟩
theorem list_of {h : Heap} {news : List (Addr × Obj)} {vs : List Value} {c : Nat} (N : News h₀ L h news) (hs : (l, listOf vs.toArray c) ∈ news) : h.IsList l vs.toArray := ⟨_, (N _ hs).1, rfl, c, rfl⟩
theorem dat_last {value slice : PySem.Expr} {news L9 : List (Addr × Obj)} {us : List Value} {es : List (Int × Int)} {x y : Int} {n : Nat} {u : Tok} {Q : Value → Shared → Prop} (N : News h₀ L s.heap news) (hm : (l, listOf us.toArray n) ∈ news) (hd : W.DatAll L9 us (es.map pd ++ [pd (x, y)]))
    (h : ∀ a c t1 t2, (a, ({ cls := .type "tuple", data := .seq #[.int x t1, .int y t2] c } : Obj)) ∈ L9 → Q (.ref a) s)
    (hs : subscripted slice false (.ref l) (.int (-1) u) = operate [.ref l, .int (-1) u] (getItem (.ref l) (.int (-1) u)) := by with_unfolding_all rfl) :
    wpAny (model prog w) A (subscriptTail value slice (.ref l) (.int (-1) u)) Q E s := by
  obtain ⟨ws, v, e, hv⟩ := dat_snocR hd
  obtain ⟨a, c, t1, t2, rfl, hm2⟩ := pd_open hv
  have hl : s.heap.IsList l us.toArray := ⟨_, (N _ hm).1, rfl, n, rfl⟩
  have hz : us.toArray.size = ws.length + 1 := by rw [List.size_toArray, e, List.length_append, List.length_singleton]
  refine tail_any hl.typeIs slot_list_getitem.lookup (wpAny_getItem_list_neg hl (by decide) (by rw [hz]; omega) (by decide) ?_ (h a c t1 t2 hm2)) hs
  rw [hz]
  have e2 : ((-1 : Int) + ((ws.length + 1 : Nat) : Int)).toNat = ws.length := by omega
  rw [e2, e]
  simp
end
end Mine
namespace Mine
open PySem.Builtin.Int (intBits)
local macro_rules | `(tactic| bits_by_make) => `(tactic| with_reducible assumption)
local macro_rules | `(tactic| walk_at "subscriptTail Name UnaryOp ref int") => `(tactic| k_extra "last")
local macro_rules | `(tactic| walk_at "subscriptTail Name Slice ref ref") => `(tactic| k_extra "cut")
local macro_rules | `(tactic| walk_at "InvEndG") => `(tactic| k_extra "endG")
local macro_rules | `(tactic| walk_at "call builtin:list.append") => `(tactic| k_extra "append")
local macro_rules | `(tactic| walk_at "subscriptTail Name Constant ref int") => `(tactic| k_extra "item")
local macro_rules | `(tactic| walk_at "binaryOp Mult int int") => `(tactic| ((with_reducible refine' mul_p ?kb1 ?kb2 ?kb3 ?_); (case kb1 => bits_by_make); (case kb2 => bits_by_make); (case kb3 => decide)))
set_option maxRecDepth 100000 in
set_option maxHeartbeats 8000000 in
theorem states_c (w : World) (mean : ExcName → Option Value) (mg mb : Str → Option Value) {vs : List Value} {ns : List Int} {c : Nat} {lst : Addr} {one two : Int} {t1 t2 : Tok} (hI : IntsAre vs ns) (hlen : ns.length ≤ 14) (hlen2 : 2 ≤ ns.length) (hns : ∀ x ∈ ns, 0 ≤ x ∧ intBits x ≤ 4600) (o0 : 0 ≤ one) (t0 : 0 ≤ two) (bo : intBits one ≤ 64) (bt : intBits two ≤ 64)
    {dp un : Nat} {gd : Option (List Code)} {cn : Str} {cs : Scope} {a : Addr} {ccd : Value} {cl : List (Str × Addr)} {outer : List Env} {A₀ : Around} {base h₀ : Heap} {L : Addr} {m : Str → Option Value} {news : List (Addr × Obj)} {s : Shared}
    {Q E : Value → Shared → Prop} (B : Below A₀ base outer h₀) (F : Fr h₀ L s.heap m) (X : (hd.heap_39 w.params).In h₀) (N : News h₀ L s.heap news) (hm : (lst, listOf vs.toArray c) ∈ news) (T : Top hd.view_39 (looseW hd.view_39 []) mean mg mb h₀) (hk : cs.kind = .function) (hdp : dp + 2 + 104 < recursionLimit) (hu : un + 8 * 2 + 100 < cLine)
    (hret : ∀ D us cu tl h' tk', W.DatAll (news ++ tl) us ((sts one two (ns.getD 0 0, ns.getD 1 0) (ns.drop 2)).map pd) → Fr h₀ L h' m → News h₀ L h' ((D, listOf (List.toArray us) cu) :: (news ++ tl)) → (∀ p ∈ news, p.1 < D) → OwnOff tl (D :: news.map (·.1)) → Q (.ref D) { s with heap := h', toks := tk' }) :
    wpAny (model PySem.Challenge.rw_dn0134_06.row.prog w) (ktrTop dp un gd cn cs L a ccd cl outer) (call (.ref 35) [.ref lst, .int one t1, .int two t2]) Q E s := by
  (have hh : PySem.Challenge.rw_dn0134_06 = PySem.Challenge.rw_dn0134_06 ∧ hd.heap_39 = hd.heap_39 := by (k_fill; exact ⟨rfl, rfl⟩))
  clear hh
  k_with_none
  k_with "item" => (k_dflt (refine' itemD ?zN ?zm hI ?za ?zb ?zc ?_; (case zN => k_asm); (case zm => exact hm); (case za => omega); (case zb => omega); (case zc => omega)); intro ti)
  k_with "cut" => (k_dflt (refine' cutL_from (s := ⟨_, _, _, _, _⟩) ?qF ?qN ?ql ?qi ?qx ?qz ?_ ?qs; (case qF => k_asm); (case qN => k_asm); (case ql => (rename News _ _ _ _ => lN9; exact list_of lN9 (List.Mem.tail _ (List.Mem.tail _ hm)))); (case qi => exact hI); (case qs => with_unfolding_all rfl); (case qx => omega); (case qz => omega)); intro Dc wsc h' F' N' lc hIc; (try k_lt lc))
  k_with "pyIter ref" => (
    have hA := getD_all hns (show 0 < ns.length by omega)
    have hB := getD_all hns (show 1 < ns.length by omega)
    (k_dat (fun pre out => St06 one two (ns.getD 0 0) (ns.getD 1 0) pre out) "states*"))
  k_with "state" => (first
    | exact St06.start hA.1 hB.1 hA.2 hB.2
    | exact St06.turn hs1 u0 l0 bu bl o0 t0 bo bt hx.1 hx.2 rfl rfl)
  k_with "endG" => (
    kd_ends 0
    (case kdS => assumption)
    (case kdF => (first | assumption | k_dflt k_asm))
    (case kdN => exact kEndNews)
    (case kdn => kd_inAll)
    (case kdo => (intro p hp; kst_mem))
    (case kda => kd_rfl)
    (case kdb => kd_addB)
    (case kdw => kd_addW)
    (case kdk => kst_all)
    (case kdr => kst_same)
    (case kdf => kd_facts)
    (case kdp => with_unfolding_all (rw [hs2]; exact St06.turn hs1 u0 l0 bu bl o0 t0 bo bt hx.1 hx.2 rfl rfl)))
  k_with "append" => (
    (first | (with_reducible show wpAny _ _ (call (Value.builtin "list.append") [Value.ref _, _]) _ _ _) | (k_dflt (show wpAny _ _ (call (Value.builtin "list.append") [Value.ref _, _]) _ _ _)))
    k_dflt (refine' append_K ?k1 ?k2 ?k3 ?_ ?z; (case k1 => k_asm); (case k2 => k_asm); (case k3 => k_upd); (case z => (rw [List.size_toArray]; exact Nat.le_trans hlz (by decide))))
    intro h' F' N')
  k_with "last" => (
    obtain ⟨es, ⟨u, l⟩, hs1, hs2, u0, l0, bu, bl⟩ := kInv.ex
    dsimp only at u0 l0 bu bl
    have hol := kInv.len
    have hdl : (List.drop (Int.toNat 2) ns).length = ns.length - 2 := List.length_drop ..
    have hpl : kPre.length ≤ 12 := (by omega)
    have hlz := dat_le30 kFacts hol hpl
    have bu6 : intBits u ≤ 5500 := Nat.le_trans bu (by omega)
    have bl6 : intBits l ≤ 5500 := Nat.le_trans bl (by omega)
    have hx := hns _ (List.mem_of_mem_drop kMem)
    have au : Abs u := .mk
    have al : Abs l := .mk
    (k_dflt (refine' dat_last ?zN ?zm ?zd ?_; (case zN => k_asm); (case zm => k_mem); (case zd => (rw [← hs2]; assumption)))))
  refine wpAny_call ?_
  k_dflt ktr_enter
  k_steps
  (rename (_ ∧ AllLt _ news) => lF9)
  (rename News h₀ L _ _ => N9)
  refine hret _ _ _ _ _ _ (W.DatAll.mono sub_mid1 (by with_unfolding_all (exact kInv.done ▸ kFacts))) (by assumption) (news_sub N9 (sub0 sub_mid2)) (kst_ltOf lF9.2) (st06_end kO3 lF9.2 lc.2.2 (allLt_of (by assumption)) lF9.1 lc.1)
end Mine
namespace Mine
open PyProof.Rows.LCg
abbrev tupO (its : Array Value) (k : Nat) : Obj := { cls := .type "tuple", data := .seq its k }
section
variable {prog : Program} {w : World} {A : Around} {E : Value → Shared → Prop} {s : Shared} {h₀ : Heap} {L : Addr} {m : Str → Option Value} {env : Env}
/-- the source of a comprehension is a tuple -/
def TupSrc (prog : Program) (w : World) (A : Around) (h₀ : Heap) (L : Addr) (m : Str → Option Value) (env : Env) (elt : Expr) (x : Str) (scope : Scope) (cl : List (Str × Addr)) (Fin : Shared → List Value → List (Addr × Obj) → Prop) (xv : Value) (s₁ : Shared) : Prop :=
  ∃ ax its k news, xv = .ref ax ∧ A.handled = none ∧ Fr h₀ L s₁.heap m ∧ News h₀ L s₁.heap news ∧ (ax, tupO its k) ∈ news ∧ its.size ≤ sizeLine ∧
    ∀ s₂ : Shared, (∃ h, s₂ = { s₁ with heap := h }) → CompRest prog w A h₀ L m env elt x scope cl s₂ (fun nw => (ax, tupO its k) ∈ nw) (fun i v => its[i]? = some v) (Fin s₂) its.size 0 [] news
theorem ListComp_Tup {elt iter : Expr} {x : Str} {px : Pos} {scope : Scope} {cl : List (Str × Addr)} {pos : Pos} {Q : Value → Shared → Prop} (F₀ : Fr h₀ L s.heap m)
    (hclos : closureFor scope env = pure cl) (hcell : ∀ y ∈ scope.names, y.2 ≠ .cell) (hkind : scope.kind = .function)
    (hnames : ∀ y ∈ scope.names, y.2 = .local → scope.names.lookup y.1 = some .local) (hx : scope.names.lookup x = some .local)
    (h : wpAny (model prog w) A (eval iter env) (TupSrc prog w A h₀ L m env elt x scope cl (fun s₂ => FinE h₀ L m s₂ Q)) E s)
    (hs : ∀ x, foldedSetIterable iter env x = pure x := by intro _; rfl) :
    wpAny (model prog w) A (eval (.ListComp elt [⟨.Name x px, iter, [], 0⟩] scope pos) env) Q E s := by
  rw [eval_ListComp]
  refine wpAny_comprehension_free (use := none) rfl hs hclos hkind hnames (wpAny_mono h (fun xv s₁ h₁ => ?_) fun _ _ e => e)
  obtain ⟨ax, its, k, news, rfl, hh, F, N, hm, hsz, R⟩ := h₁
  have hl : s₁.heap.IsTuple ax its := ⟨_, (N _ hm).1, rfl, _, rfl⟩
  have hlt : ax < s₁.heap.objs.size := Heap.lt_size (N _ hm).1
  refine wpAny_pyIter_tuple hl ?_
  have up : ∀ b o, s₁.heap.get? b = some o → (s₁.heap.push { cls := .type "tuple_iterator", data := .fields #[.ref ax, .int 0 0] }).get? b = some o := fun b o e => Heap.get?_push_of_some _ e
  refine block_U (S := fun nw => (ax, tupO its k) ∈ nw) (Walks.tuple hh s₁.heap.objs.size ax (Nat.ne_of_lt hlt) its) hsz (fun i h st => by obtain ⟨o, e, _⟩ := st.1; exact ⟨o, e⟩) ?_ hcell hkind hx ⟨⟨_, Heap.get?_push_size _ rfl, rfl, rfl⟩, hl.at fun o e => Heap.get?_push_of_some _ e⟩ (fun b hb => ?_)
    (F.keeps up) (N.grown up) (Nat.ne_of_lt F.ns.lt) (next_is_new F) (fun p hp => Nat.ne_of_lt (Heap.lt_size (N p hp).1)) hm (R _ ⟨_, rfl⟩) ?_
  · exact fun i h h' o nw st e e' kk Nw Sw => ⟨by obtain ⟨o', q, r⟩ := st.1; rw [e] at q; cases q; exact ⟨o, e', r⟩, ⟨_, (Nw _ Sw).1, rfl, _, rfl⟩⟩
  · show b < (s₁.heap.push _).objs.size
    rw [Heap.size_push]
    rcases List.mem_cons.mp hb with rfl | hb
    · exact Nat.lt_succ_self _
    · rw [List.mem_singleton.mp hb]; exact Nat.lt_succ_of_lt hlt
  · intro D C h tk m' ys news' F' N' o1 hn hC₀ hD₀ hCL hDL hCD offC fin
    refine ⟨m', hn, fun h'' hs'' => fin D h'' tk (F'.change hs'' hCL hC₀) (fun p hp => ?_) o1⟩
    refine ⟨hs''.extBut _ _ ?_ (N' p hp).1, (N' p hp).2⟩
    rcases List.mem_cons.mp hp with rfl | hp
    · exact Ne.symm hCD
    · exact offC p hp
/-- a comprehension of ints over a tuple of ints -/
theorem srcTup_map {elt : Expr} {x : Str} {scope : Scope} {cl : List (Str × Addr)} {Fin : Shared → List Value → List (Addr × Obj) → Prop} {ax : Addr} {vs : List Value} {ns : List Int} {k : Nat} {news : List (Addr × Obj)} {s₁ : Shared} (f : Int → Int)
    (hh : A.handled = none) (F : Fr h₀ L s₁.heap m) (N : News h₀ L s₁.heap news) (hm : (ax, tupO vs.toArray k) ∈ news) (hi : IntsAre vs ns) (hz : ns.length ≤ 1000000)
    (turn : ∀ n t I oI C oC D m₂ h tk ys (E' Q' : Value → Shared → Prop), n ∈ ns → NsObj oC m₂ → m₂ x = some (.int n t) → Fr h₀ L h m → News h₀ L h ((I, oI) :: (C, oC) :: (D, lst ys) :: news) → Off3 I C D news → ((@Ne Nat I C) ∧ (@Ne Nat I D) ∧ (@Ne Nat C D)) →
      (∀ t' h' tk', Fr h₀ L h' m → News h₀ L h' ((I, oI) :: (C, oC) :: (D, lst ys) :: news) → Q' (.int (f n) t') { s₁ with heap := h', toks := tk' }) →
      wpAny (model prog w) A (eval elt (compEnvC scope cl C env)) Q' E' { s₁ with heap := h, toks := tk })
    (fin : ∀ g ys, IntsAre ys (ns.map f) → Fin { s₁ with heap := g } ys news) : TupSrc prog w A h₀ L m env elt x scope cl Fin (.ref ax) s₁ := by
  have hzs : vs.toArray.size = ns.length := by rw [List.size_toArray, hi.length]
  refine ⟨ax, vs.toArray, k, news, rfl, hh, F, N, hm, by rw [hzs]; exact Nat.le_trans hz (by decide), ?_⟩
  rintro s₂ ⟨g, rfl⟩
  have key : ∀ j i ys, i + j = ns.length → IntsAre ys ((ns.take i).map f) → CompRest prog w A h₀ L m env elt x scope cl { s₁ with heap := g } (fun nw => (ax, tupO vs.toArray k) ∈ nw) (fun i v => vs.toArray[i]? = some v) (Fin { s₁ with heap := g }) j i ys news := by
    intro j
    induction j with
    | zero =>
      intro i ys e hy
      rw [List.take_of_length_le (by omega)] at hy
      exact CompRest.zero (fin g ys hy)
    | succ j ih =>
      intro i ys e hy
      refine CompRest.succ fun v I oI C oC D m₂ h tk E' hv hC hx F' N' off ne => ?_
      have hil : i < ns.length := by omega
      obtain ⟨t, e2⟩ := hi.get i (ns[i]'hil) (List.getElem?_eq_getElem hil)
      have hv2 : vs[i]? = some v := by simpa using hv
      have ev : v = .int (ns[i]'hil) t := by rw [e2] at hv2; exact (Option.some.inj hv2).symm
      subst ev
      refine turn _ t I oI C oC D m₂ h tk ys E' _ (List.getElem_mem hil) hC hx F' N' off ne fun t' h' tk' F'' N'' => ?_
      refine ⟨h', tk', news, rfl, F'', N'', off, hm, ih (i + 1) _ (by omega) ?_⟩
      have hs : ns.take (i + 1) = ns.take i ++ [ns[i]'hil] := by rw [List.take_add_one, List.getElem?_eq_getElem hil]; rfl
      rw [hs, List.map_append]
      exact hy.append (.cons _ _ .nil)
  rw [hzs]
  exact key _ _ _ (by omega) .nil
end
/-- a way's end is an int, whatever the way -/
theorem join_exp {prog : Program} {w : World} {A : Around} {e : Sem Value} {Q E : Value → Shared → Prop} {s : Shared} {h₀ : Heap} {L : Addr} {m : Str → Option Value} {news : List (Addr × Obj)} (R : Int → Prop) (F : Fr h₀ L s.heap m) (N : News h₀ L s.heap news)
    (h1 : ∀ Q' : Value → Shared → Prop, (∀ z t h' tk, R z → Fr h₀ L h' m → News h₀ L h' news → Q' (.int z t) { s with heap := h', toks := tk }) → wpAny (model prog w) A e Q' E s)
    (h2 : ∀ z t h' tk, Abs z → R z → Fr h₀ L h' m → News h₀ L h' news → Q (.int z t) { s with heap := h', toks := tk }) : wpAny (model prog w) A e Q E s := h1 Q fun z t h' tk => h2 z t h' tk .mk
/-- the same for a statement that stores one name's int -/
theorem join_stm {prog : Program} {w : World} {A : Around} {e : Sem Flow} {Q : Flow → Shared → Prop} {E : Value → Shared → Prop} {s : Shared} {h₀ : Heap} {L : Addr} {m : Str → Option Value} {news : List (Addr × Obj)} (name : Str) (R : Int → Prop) (F : Fr h₀ L s.heap m) (N : News h₀ L s.heap news)
    (h1 : ∀ Q' : Flow → Shared → Prop, (∀ z t h' tk, R z → Fr h₀ L h' (fun y => if y = name then some (.int z t) else m y) → News h₀ L h' news → Q' .next { s with heap := h', toks := tk }) → wpAny (model prog w) A e Q' E s)
    (h2 : ∀ z t h' tk, Abs z → R z → Fr h₀ L h' (fun y => if y = name then some (.int z t) else m y) → News h₀ L h' news → Q .next { s with heap := h', toks := tk }) : wpAny (model prog w) A e Q E s := h1 Q fun z t h' tk => h2 z t h' tk .mk
theorem fr_sameV {h₀ h : Heap} {L : Addr} {m : Str → Option Value} {name : Str} {v : Value} (F : Fr h₀ L h m) (e : m name = some v) : Fr h₀ L h (fun y => if y = name then some v else m y) := by
  have e2 : (fun y => if y = name then some v else m y) = m := by
    funext y
    by_cases hy : y = name
    · rw [if_pos hy, hy, e]
    · rw [if_neg hy]
  rw [e2]; exact F
end Mine
namespace Mine
open PyProof.Rows.LCg
section
variable {prog : Program} {w : World} {A : Around} {E : Value → Shared → Prop} {s : Shared} {h₀ : Heap} {L : Addr} {m : Str → Option Value} {news : List (Addr × Obj)}
/-- the greater one of a pair -/
theorem max_pairT {a : Addr} {x y : Int} {t1 t2 : Tok} {c : Nat} {Q : Value → Shared → Prop} (hh : A.handled = none) (F : Fr h₀ L s.heap m) (N : News h₀ L s.heap news) (hm : (a, tupO #[.int x t1, .int y t2] c) ∈ news)
    (h : ∀ h' t tk, Fr h₀ L h' m → News h₀ L h' news → Q (.int (max x y) t) { s with heap := h', toks := tk }) :
    wpAny (model prog w) A (call (.builtin "max") [.ref a]) Q E s := by
  have hl : s.heap.IsTuple a (intItems #[(x, t1), (y, t2)]) := ⟨_, (N _ hm).1, rfl, c, by simp [intItems]⟩
  have hlt : a < s.heap.objs.size := Heap.lt_size (N _ hm).1
  have hne : a ≠ s.heap.objs.size := Nat.ne_of_lt hlt
  refine call_max_walk (wpAny_pyIter_tuple hl ?_)
  refine ⟨_, _, _, _, _, _, _, rfl, Walks.tuple (A := A.in1) hh s.heap.objs.size a hne (intItems #[(x, t1), (y, t2)]), ⟨⟨_, Heap.get?_push_size _ rfl, rfl, rfl⟩, hl.at fun o e => Heap.get?_push_of_some _ e⟩, ?_, by simp [intItems], CmpOf.ints_gt (numAt #[(x, t1), (y, t2)]) (fun _ _ => intItems_at), fun v h' tk hP hk => ?_⟩
  · intro b hb
    show b < (s.heap.push _).objs.size
    rw [Heap.size_push]
    rcases List.mem_cons.mp hb with rfl | hb
    · exact Nat.lt_succ_self _
    · rw [List.mem_singleton.mp hb]; exact Nat.lt_succ_of_lt hlt
  · have up : ∀ b o, s.heap.get? b = some o → h'.get? b = some o := fun b o e => hk b o (fun hm9 => by
      have e9 := List.mem_singleton.mp hm9
      exact absurd (e9 ▸ Heap.lt_size e) (Nat.lt_irrefl _)) (Heap.get?_push_of_some _ e)
    obtain ⟨t, rfl⟩ := intItems_at hP
    obtain ⟨h1, h2⟩ := argBest_gt (numAt #[(x, t1), (y, t2)]) ((intItems #[(x, t1), (y, t2)]).size - 1)
    have e0 := h2 0 (by simp [intItems])
    have e1 := h2 1 (by simp [intItems])
    have hn0 : numAt #[(x, t1), (y, t2)] 0 = x := rfl
    have hn1 : numAt #[(x, t1), (y, t2)] 1 = y := rfl
    rw [hn0] at e0
    rw [hn1] at e1
    have hz : (intItems #[(x, t1), (y, t2)]).size - 1 = 1 := by simp [intItems]
    have h3 := h1
    rw [hz] at h3
    have e2 : numAt #[(x, t1), (y, t2)] (argBest (fun i j => decide (numAt #[(x, t1), (y, t2)] i > numAt #[(x, t1), (y, t2)] j)) ((intItems #[(x, t1), (y, t2)]).size - 1)) = max x y := by
      rw [hz] at e0 e1 ⊢
      rcases (show argBest (fun i j => decide (numAt #[(x, t1), (y, t2)] i > numAt #[(x, t1), (y, t2)] j)) 1 = 0 ∨ argBest (fun i j => decide (numAt #[(x, t1), (y, t2)] i > numAt #[(x, t1), (y, t2)] j)) 1 = 1 by omega) with e | e <;> rw [e] at e0 e1 ⊢
      · rw [hn0] at e1 ⊢; omega
      · rw [hn1] at e0 ⊢; omega
    rw [e2]
    exact h _ _ _ (F.grownK up) (N.grown up)
theorem dat_at {L9 : List (Addr × Obj)} {us : List Value} {S : List (Int × Int)} (hd : W.DatAll L9 us (S.map pd)) {i : Nat} (hi : i < S.length) : ∃ a n t1 t2, us[i]? = some (.ref a) ∧ (a, tupO #[.int (S[i]'hi).1 t1, .int (S[i]'hi).2 t2] n) ∈ L9 := by
  have hk : i < (S.map pd).length := by rw [List.length_map]; exact hi
  obtain ⟨v, hv, hD⟩ := hd.get hk
  rw [List.getElem_map] at hD
  obtain ⟨a, n, t1, t2, rfl, hm⟩ := pd_open hD
  exact ⟨a, n, t1, t2, hv, hm⟩
/-- a comprehension of ints over a list of pairs -/
theorem srcD_map {env : Env} {elt : Expr} {x : Str} {scope : Scope} {cl : List (Str × Addr)} {Fin : Shared → List Value → List (Addr × Obj) → Prop} {ax : Addr} {us : List Value} {S : List (Int × Int)} {k : Nat} {L9 : List (Addr × Obj)} {s₁ : Shared} (f : Int × Int → Int)
    (hh : A.handled = none) (F : Fr h₀ L s₁.heap m) (N : News h₀ L s₁.heap news) (hm : (ax, listOf us.toArray k) ∈ news) (hd : W.DatAll L9 us (S.map pd)) (hL : ∀ p ∈ L9, p ∈ news) (hz : S.length ≤ 1000000)
    (turn : ∀ p a n t1 t2 I oI C oC D m₂ h tk ys (E' Q' : Value → Shared → Prop), p ∈ S → (a, tupO #[.int p.1 t1, .int p.2 t2] n) ∈ (I, oI) :: (C, oC) :: (D, lst ys) :: news → NsObj oC m₂ → m₂ x = some (.ref a) → Fr h₀ L h m → News h₀ L h ((I, oI) :: (C, oC) :: (D, lst ys) :: news) → Off3 I C D news → ((@Ne Nat I C) ∧ (@Ne Nat I D) ∧ (@Ne Nat C D)) →
      (∀ t' h' tk', Fr h₀ L h' m → News h₀ L h' ((I, oI) :: (C, oC) :: (D, lst ys) :: news) → Q' (.int (f p) t') { s₁ with heap := h', toks := tk' }) →
      wpAny (model prog w) A (eval elt (compEnvC scope cl C env)) Q' E' { s₁ with heap := h, toks := tk })
    (fin : ∀ g ys, IntsAre ys (S.map f) → Fin { s₁ with heap := g } ys news) : CompSrc prog w A h₀ L m env elt x scope cl Fin (.ref ax) s₁ := by
  have hS : SrcAt h₀ ax us.toArray news := .inr ⟨_, hm, rfl, _, rfl⟩
  have hul : us.length = S.length := by rw [hd.length, List.length_map]
  have hzs : us.toArray.size = S.length := by rw [List.size_toArray, hul]
  refine CompSrc.ledger hh F N hm (by rw [hzs]; exact Nat.le_trans hz (by decide)) fun g => ?_
  have key : ∀ j i ys, i + j = S.length → IntsAre ys ((S.take i).map f) → CompRest prog w A h₀ L m env elt x scope cl { s₁ with heap := g } (SrcAt h₀ ax us.toArray) (fun i v => us.toArray[i]? = some v) (Fin { s₁ with heap := g }) j i ys news := by
    intro j
    induction j with
    | zero =>
      intro i ys e hy
      rw [List.take_of_length_le (by omega)] at hy
      exact CompRest.zero (fin g ys hy)
    | succ j ih =>
      intro i ys e hy
      refine CompRest.succ fun v I oI C oC D m₂ h tk E' hv hC hx F' N' off ne => ?_
      have hil : i < S.length := by omega
      obtain ⟨a, n, t1, t2, e2, hm2⟩ := dat_at hd hil
      have hv2 : us[i]? = some v := by simpa using hv
      have ev : v = .ref a := by rw [e2] at hv2; exact (Option.some.inj hv2).symm
      subst ev
      refine turn _ a n t1 t2 I oI C oC D m₂ h tk ys E' _ (List.getElem_mem hil) (.tail _ (.tail _ (.tail _ (hL _ hm2)))) hC hx F' N' off ne fun t' h' tk' F'' N'' => ?_
      refine ⟨h', tk', news, rfl, F'', N'', off, hS, ih (i + 1) _ (by omega) ?_⟩
      have hs : S.take (i + 1) = S.take i ++ [S[i]'hil] := by rw [List.take_add_one, List.getElem?_eq_getElem hil]; rfl
      rw [hs, List.map_append]
      exact hy.append (.cons _ _ .nil)
  rw [hzs]
  exact key _ _ _ (by omega) .nil
end
end Mine
namespace Mine
open PySem.Builtin.Int (intBits)
structure Ok6 (B : Nat) (p : Int × Int) : Prop where
  a0 : 0 ≤ p.1
  b0 : 0 ≤ p.2
  ba : intBits p.1 ≤ B
  bb : intBits p.2 ≤ B
theorem sts_ok {one two : Int} (o0 : 0 ≤ one) (t0 : 0 ≤ two) (bo : intBits one ≤ 64) (bt : intBits two ≤ 64) : ∀ (l : List Int) (s : Int × Int) (B : Nat), (∀ x ∈ l, 0 ≤ x ∧ intBits x ≤ 4600) → 4600 ≤ B → Ok6 B s → ∀ p ∈ sts one two s l, Ok6 (B + 70 * l.length) p
  | [], s, B, _, _, hs, p, hp => by
    rw [List.mem_singleton.mp hp]
    exact ⟨hs.a0, hs.b0, Nat.le_trans hs.ba (by omega), Nat.le_trans hs.bb (by omega)⟩
  | x :: r, s, B, hx, hB, hs, p, hp => by
    have h1 := hx x (.head _)
    have hz : (x :: r).length = r.length + 1 := rfl
    rcases List.mem_cons.mp hp with rfl | hp
    · exact ⟨hs.a0, hs.b0, Nat.le_trans hs.ba (by omega), Nat.le_trans hs.bb (by omega)⟩
    · have m1 := bits_add hs.bb (bits_mul bo hs.ba)
      have m2 := bits_add h1.2 (bits_mul bt hs.ba)
      have h2 : Ok6 (B + 70) (stp one two s x) := ⟨Int.add_nonneg hs.b0 (Int.mul_nonneg o0 hs.a0), Int.add_nonneg h1.1 (Int.mul_nonneg t0 hs.a0), Nat.le_trans m1 (by omega), Nat.le_trans m2 (by omega)⟩
      have h3 := sts_ok o0 t0 bo bt r (stp one two s x) (B + 70) (fun y hy => hx y (.tail _ hy)) (by omega) h2 p hp
      exact ⟨h3.a0, h3.b0, Nat.le_trans h3.ba (by omega), Nat.le_trans h3.bb (by omega)⟩
theorem sts_at {one two : Int} {d : Int × Int} : ∀ (l : List Int) (s : Int × Int) (j : Nat), j < l.length → (sts one two s l).getD (j + 1) d = stp one two ((sts one two s l).getD j d) (l.getD j 0)
  | x :: r, s, 0, _ => by
    cases r <;> rfl
  | x :: r, s, j + 1, h => by
    have := sts_at (one := one) (two := two) (d := d) r (stp one two s x) j (by simp at h; omega)
    show (sts one two (stp one two s x) r).getD (j + 1) d = _
    rw [this]
    rfl
theorem sts_zero {one two : Int} {d : Int × Int} (l : List Int) (s : Int × Int) : (sts one two s l).getD 0 d = s := by cases l <;> rfl
structure Set6 (S : List (Int × Int)) (rs : List Int) (one two g width D upper lower : Int) : Prop where
  eS : S = sts one two (rs.getD 0 0, rs.getD 1 0) (rs.drop 2)
  ok : ∀ p ∈ S, Ok6 6000 p
  g1 : ∀ p ∈ S, p.1 ≤ g ∧ p.2 ≤ g
  tg : two ≤ g
  o0 : 0 ≤ one
  t0 : 0 ≤ two
  ot : 1 ≤ one + two
  w1 : 1 ≤ width
  w2 : width ≤ 7000
  gB : g + 2 * one + 2 < 2 ^ width.toNat
  eD : D = 2 ^ width.toNat * 2 ^ width.toNat - one * 2 ^ width.toNat - two
  up : upper = D / 2 ^ width.toNat
  lo : lower = D % 2 ^ width.toNat
theorem Set6.pre {S : List (Int × Int)} {rs : List Int} {one two g width D upper lower : Int} (H : Set6 S rs one two g width D upper lower) {j : Nat} (hj : j + 2 < rs.length) (hr : ∀ x ∈ rs, 0 ≤ x) :
    Pre3 ((S.getD j (0, 0)).1 * 2 ^ width.toNat + (S.getD j (0, 0)).2) (rs.getD (j + 2) 0) D upper lower width (S.getD j (0, 0)).1 ((S.getD (j + 1) (0, 0)).1 * 2 ^ width.toNat + (S.getD (j + 1) (0, 0)).2) := by
  obtain ⟨eS, ok, g1, tg, o0, t0, ot, w1, w2, gB, eD, up, lo⟩ := H
  have hdl : (rs.drop 2).length = rs.length - 2 := List.length_drop ..
  have hSl : S.length = rs.length - 2 + 1 := by rw [eS, sts_len, hdl]
  have hmem : ∀ i, i < S.length → S.getD i (0, 0) ∈ S := fun i hi => by
    rw [List.getD_eq_getElem?_getD, List.getElem?_eq_getElem hi]; exact List.getElem_mem hi
  have m1 := hmem j (by omega)
  have m2 := hmem (j + 1) (by omega)
  have hat := sts_at (one := one) (two := two) (d := (0, 0)) (rs.drop 2) (rs.getD 0 0, rs.getD 1 0) j (by omega)
  rw [← eS] at hat
  have ex : (rs.drop 2).getD j 0 = rs.getD (j + 2) 0 := by
    rw [List.getD_eq_getElem?_getD, List.getD_eq_getElem?_getD, List.getElem?_drop, Nat.add_comm]
  rw [ex] at hat
  have x0 : 0 ≤ rs.getD (j + 2) 0 := by
    rw [List.getD_eq_getElem?_getD, List.getElem?_eq_getElem hj]; exact hr _ (List.getElem_mem hj)
  have k1 := ok _ m1
  have k2 := ok _ m2
  have l1 := g1 _ m1
  have l2 := g1 _ m2
  generalize rs.getD (j + 2) 0 = x at *
  obtain ⟨k1a, k1b, _, _⟩ := k1
  obtain ⟨k2a, k2b, _, _⟩ := k2
  have e1 : (S.getD (j + 1) (0, 0)).1 = (S.getD j (0, 0)).2 + one * (S.getD j (0, 0)).1 := by rw [hat]; rfl
  have e2 : (S.getD (j + 1) (0, 0)).2 = x + two * (S.getD j (0, 0)).1 := by rw [hat]; rfl
  generalize (S.getD (j + 1) (0, 0)).1 = u' at *
  generalize (S.getD (j + 1) (0, 0)).2 = l' at *
  generalize (S.getD j (0, 0)).1 = u at *
  generalize (S.getD j (0, 0)).2 = l at *
  have hP := ppos width.toNat
  have hP' := ppos (width.toNat - 1)
  have eP : (2 : Int) ^ width.toNat = 2 ^ (width.toNat - 1) * 2 := by rw [← Int.pow_succ]; congr 1; omega
  generalize hB : (2 : Int) ^ width.toNat = B at *
  generalize hC : (2 : Int) ^ (width.toNat - 1) = C at *
  have tu : 0 ≤ two * u := Int.mul_nonneg t0 k1a
  have gB1 : g < B := by omega
  have hD1 : C * B ≤ D := by
    have h1 : (C + 1 + one) * B ≤ B * B := mul_le_of (by omega) (by omega)
    rw [Int.add_mul, Int.add_mul, Int.one_mul] at h1
    omega
  have hD2 : D < B * B := by
    have h1 : 0 ≤ one * B := Int.mul_nonneg o0 (by omega)
    rcases (show one = 0 ∨ 1 ≤ one by omega) with h | h
    · subst h; omega
    · have : 1 * B ≤ one * B := mul_le_of (by omega) h
      omega
  have hr1 : u' * B + l' < D := by
    have h1 : (u' + one + 3) * B ≤ B * B := mul_le_of (by omega) (by omega)
    rw [Int.add_mul, Int.add_mul] at h1
    omega
  have d3 := Int.emod_nonneg D (show B ≠ 0 by omega)
  have d4 := Int.emod_lt_of_pos D hP
  have d5 : D = D / B * B + D % B := by rw [Int.mul_comm]; exact (Int.mul_ediv_add_emod _ _).symm
  have d6 : C ≤ D / B := Int.le_ediv_of_mul_le hP hD1
  have d7 : D / B < B := Int.ediv_lt_of_lt_mul hP hD2
  rw [← up] at d5 d6 d7
  rw [← lo] at d3 d4 d5
  refine ⟨w1, ?_, k1a, by rw [hB]; omega, Int.add_nonneg (Int.mul_nonneg k2a (by omega)) k2b, hr1, by rw [hB]; exact d5, by rw [hC]; exact d6, by rw [hB]; exact d7, d3, by rw [hB]; exact d4, x0, by rw [hB]; omega⟩
  rw [hB, eD, e1, e2]
  grind
theorem great6 {S : List (Int × Int)} {two M : Int} (hm : M ∈ S.map (fun p => max p.1 p.2) ++ [two]) (ok : ∀ p ∈ S, Ok6 6000 p) (bt : intBits two ≤ 64) : intBits M ≤ 6000 := by
  rcases List.mem_append.mp hm with h | h
  · obtain ⟨p, hp, rfl⟩ := List.mem_map.mp h
    have := ok p hp
    rcases (show max p.1 p.2 = p.1 ∨ max p.1 p.2 = p.2 by omega) with e | e
    · rw [e]; exact this.ba
    · rw [e]; exact this.bb
  · rw [List.mem_singleton.mp h]; exact Nat.le_trans bt (by decide)
theorem great6_all {S : List (Int × Int)} {two M : Int} (h : ∀ a, a ∈ S.map (fun p => max p.1 p.2) ++ [two] → a ≤ M) : (∀ p ∈ S, p.1 ≤ M ∧ p.2 ≤ M) ∧ two ≤ M := by
  refine ⟨fun p hp => ?_, h _ (List.mem_append_right _ (.head _))⟩
  have := h _ (List.mem_append_left _ (List.mem_map.mpr ⟨p, hp, rfl⟩))
  omega
structure RowOk6 (P : Int) (rs : List Int) : Prop where
  r : ∀ d ∈ rs, 0 ≤ d ∧ d < P
  l1 : 3 ≤ rs.length
  l2 : rs.length ≤ 14
theorem RowOk6.bits {P : Int} {rs : List Int} (h : RowOk6 P rs) (hP : intBits P ≤ 4600) : ∀ x ∈ rs, 0 ≤ x ∧ intBits x ≤ 4600 := fun x hx => ⟨(h.r x hx).1, bits_of_natAbs_le (b := P) (by have := h.r x hx; omega) hP⟩
end Mine
-- PARTS: math.txt div.txt slice.txt law06a.txt comp2.txt comp3.txt law06b.txt
namespace Mine
open PySem.Builtin.Int (intBits)
theorem shl1_pos {z : Int} {k : Nat} (h : z = 1 * 2 ^ k) : 0 < z := by rw [h, Int.one_mul]; exact ppos k
theorem join_row6 {prog : Program} {w : World} {A : Around} {e : Sem Flow} {Q : Flow → Shared → Prop} {E : Value → Shared → Prop} {s : Shared} {h₀ : Heap} {L : Addr} {m : Str → Option Value} {news : List (Addr × Obj)} {P : Int} (name : Str) (F : Fr h₀ L s.heap m) (N : News h₀ L s.heap news)
    (h1 : ∀ Q' : Flow → Shared → Prop, (∀ D vs rs c h' tk, RowOk6 P rs → IntsAre vs rs → Fr h₀ L h' (fun y => if y = name then some (.ref D) else m y) → News h₀ L h' ((D, listOf (List.toArray vs) c) :: news) → (∀ p ∈ news, p.1 ≠ D) → Q' .next { s with heap := h', toks := tk }) → wpAny (model prog w) A e Q' E s)
    (h2 : ∀ D vs rs c h' tk, RowOk6 P rs → IntsAre vs rs → Fr h₀ L h' (fun y => if y = name then some (.ref D) else m y) → News h₀ L h' ((D, listOf (List.toArray vs) c) :: news) → (∀ p ∈ news, p.1 ≠ D) → Q .next { s with heap := h', toks := tk }) : wpAny (model prog w) A e Q E s := h1 Q h2
theorem fr_same6 {h₀ h : Heap} {L : Addr} {m : Str → Option Value} {name : Str} {D : Addr} (F : Fr h₀ L h m) (e : m name = some (.ref D)) : Fr h₀ L h (fun y => if y = name then some (.ref D) else m y) := fr_sameV F e
theorem rowA6 {P : Int} {l : List Int} {j k : Nat} (hP : 0 < P) (hj : j ≤ 14) (h : ¬ ((List.map (fun k' => k'.fmod P) (List.take j (List.drop k l))).length : Int) < 3) : RowOk6 P (List.map (fun k' => k'.fmod P) (List.take j (List.drop k l))) := by
  refine ⟨?_, by omega, ?_⟩
  · intro d hd
    obtain ⟨x, _, rfl⟩ := List.mem_map.mp hd
    exact fmodB x hP
  · rw [List.length_map, List.length_take]; omega
theorem rowB6 {P : Int} {l ks : List Int} (hP : 0 < P) (h : ((List.map (fun k' => k'.fmod P) l).length : Int) < 3) (hk : ks.length = 10) : RowOk6 P (List.map (fun k' => k'.fmod P) l ++ List.map (fun k' => k'.fmod P) ks) := by
  rw [List.length_map] at h
  refine ⟨?_, ?_, ?_⟩
  · intro d hd
    rcases List.mem_append.mp hd with hd | hd
    · obtain ⟨x, _, rfl⟩ := List.mem_map.mp hd
      exact fmodB x hP
    · obtain ⟨x, _, rfl⟩ := List.mem_map.mp hd
      exact fmodB x hP
  · rw [List.length_append, List.length_map, List.length_map]; omega
  · rw [List.length_append, List.length_map, List.length_map]; omega
theorem ints10 (x1 x2 x3 x4 x5 x6 x7 x8 x9 x10 : Int) (t1 t2 t3 t4 t5 t6 t7 t8 t9 t10 : Tok) : IntsAre [.int x1 t1, .int x2 t2, .int x3 t3, .int x4 t4, .int x5 t5, .int x6 t6, .int x7 t7, .int x8 t8, .int x9 t9, .int x10 t10] [x1, x2, x3, x4, x5, x6, x7, x8, x9, x10] := .cons _ _ (.cons _ _ (.cons _ _ (.cons _ _ (.cons _ _ (.cons _ _ (.cons _ _ (.cons _ _ (.cons _ _ (.cons _ _ .nil)))))))))
theorem pow6_bits {z e : Int} (h : z = 1 * 2 ^ e.toNat) (e1 : 1 ≤ e) (e2 : e ≤ 4500) : intBits z ≤ 4600 := by
  rw [Int.one_mul] at h
  refine Nat.le_trans (bits_of_lt (k := e.toNat + 1) (by rw [h]; exact Int.le_of_lt (ppos _)) (by rw [h, Int.pow_succ]; have := ppos e.toNat; omega)) (by omega)
theorem sts_ok6 {P : Int} {rs : List Int} {one two : Int} (H : RowOk6 P rs) (hP : intBits P ≤ 4600) (o0 : 0 ≤ one) (t0 : 0 ≤ two) (bo : intBits one ≤ 64) (bt : intBits two ≤ 64) : ∀ p ∈ sts one two (rs.getD 0 0, rs.getD 1 0) (rs.drop 2), Ok6 6000 p := by
  intro p hp
  have hb := H.bits hP
  have h1 := H.l1
  have h2 := H.l2
  have a := getD_all hb (k := 0) (by omega)
  have b := getD_all hb (k := 1) (by omega)
  have h := sts_ok o0 t0 bo bt (rs.drop 2) (rs.getD 0 0, rs.getD 1 0) 4600 (fun x hx => hb x (List.mem_of_mem_drop hx)) (Nat.le_refl _) ⟨a.1, b.1, a.2, b.2⟩ p hp
  have hz : (rs.drop 2).length = rs.length - 2 := List.length_drop ..
  exact ⟨h.a0, h.b0, Nat.le_trans h.ba (by omega), Nat.le_trans h.bb (by omega)⟩
theorem w6_bound {g one w : Int} (hg : intBits g ≤ 6000) (ho : intBits one ≤ 64) (g0 : 0 ≤ g) (o0 : 0 ≤ one) (h : w = (intBits (g + 2 * one + 2) : Int)) : 1 ≤ w ∧ w ≤ 6900 ∧ g + 2 * one + 2 < 2 ^ w.toNat := by
  have h2 : intBits (2 : Int) ≤ 2 := by decide
  have b := bits_add (bits_add hg (bits_mul h2 ho)) h2
  have b2 : intBits (g + 2 * one + 2) ≤ 6900 := Nat.le_trans b (by decide)
  have hp : g + 2 * one + 2 < 2 ^ intBits (g + 2 * one + 2) := lt_of_bits (Nat.le_refl _)
  have e : w.toNat = intBits (g + 2 * one + 2) := by omega
  refine ⟨?_, by omega, by rw [e]; exact hp⟩
  rcases Nat.eq_zero_or_pos (intBits (g + 2 * one + 2)) with h0 | h0
  · rw [h0, Int.pow_zero] at hp; omega
  · omega
theorem w6_bits {g one : Int} (hg : intBits g ≤ 6000) (ho : intBits one ≤ 64) : intBits ((intBits (g + 2 * one + 2) : Nat) : Int) ≤ 13 := by
  have h2 : intBits (2 : Int) ≤ 2 := by decide
  have b2 : intBits (g + 2 * one + 2) ≤ 6900 := Nat.le_trans (bits_add (bits_add hg (bits_mul h2 ho)) h2) (by decide)
  refine bits_of_lt (by omega) ?_
  have e : (2 : Int) ^ 13 = 8192 := by decide
  omega
theorem w6_more {X w0 w : Int} (h : X < 2 ^ w0.toNat) (hw : w0 ≤ w) : X < 2 ^ w.toNat := Int.lt_of_lt_of_le h (pmono (by omega))
theorem set6_mk {S : List (Int × Int)} {rs : List Int} {one two g width w0 D upper lower zD zO zW : Int} (eS : S = sts one two (rs.getD 0 0, rs.getD 1 0) (rs.drop 2)) (ok : ∀ p ∈ S, Ok6 6000 p) (hg : ∀ a, a ∈ S.map (fun p => max p.1 p.2) ++ [two] → a ≤ g)
    (o0 : 0 ≤ one) (t0 : 0 ≤ two) (ot : 1 ≤ one + two) (w1 : 1 ≤ width) (w2 : width ≤ 7000) (hX : g + 2 * one + 2 < 2 ^ w0.toNat) (hw : w0 ≤ width) (hD : D = zD - zO - two) (h1 : zD = 1 * 2 ^ (2 * width).toNat) (h2 : zO = one * 2 ^ width.toNat) (h3 : zW = 1 * 2 ^ width.toNat) (hu : upper = D / 2 ^ width.toNat) (hl : lower = D.fmod zW) :
    Set6 S rs one two g width D upper lower := by
  have e2 : (2 : Int) ^ (2 * width).toNat = 2 ^ width.toNat * 2 ^ width.toNat := by rw [← Int.pow_add]; congr 1; omega
  have hga := great6_all hg
  rw [Int.one_mul] at h1 h3
  exact ⟨eS, ok, hga.1, hga.2, o0, t0, ot, w1, w2, w6_more hX hw, by rw [hD, h1, h2, e2], hu, by rw [hl, h3, fmodE _ (ppos _)]⟩
structure Rest6 (S : List (Int × Int)) (width : Int) (j : Nat) (rest : Int) : Prop where
  e : rest = (S.getD j (0, 0)).1 * 2 ^ width.toNat + (S.getD j (0, 0)).2
theorem rest6_start {S : List (Int × Int)} {rs : List Int} {one two width rest z r0 r1 : Int} (eS : S = sts one two (rs.getD 0 0, rs.getD 1 0) (rs.drop 2)) (h : rest = z + r1) (hz : z = r0 * 2 ^ width.toNat) (h0 : rs.getD 0 0 = r0) (h1 : rs.getD 1 0 = r1) : Rest6 S width 0 rest := by
  refine ⟨?_⟩
  rw [eS, sts_zero, h, hz, h0, h1]
theorem rest6_turn {S : List (Int × Int)} {width : Int} {pre : List Int} {k u l due : Int} (hu : (S.getD (pre.length + 1) (0, 0)).1 = u) (hl : (S.getD (pre.length + 1) (0, 0)).2 = l) (h : u * 2 ^ width.toNat + l = due) : Rest6 S width (pre ++ [k]).length due := by
  have e : (pre ++ [k]).length = pre.length + 1 := by simp
  refine ⟨?_⟩
  rw [e, hu, hl, h]
theorem getD_ok {S : List (Int × Int)} {B : Nat} (h : ∀ p ∈ S, Ok6 B p) {j : Nat} (hj : j < S.length) : Ok6 B (S.getD j (0, 0)) := by
  rw [List.getD_eq_getElem?_getD, List.getElem?_eq_getElem hj]; exact h _ (List.getElem_mem hj)
theorem dat_item {prog : Program} {w : World} {A : Around} {E : Value → Shared → Prop} {s : Shared} {h₀ : Heap} {L l : Addr} {value slice : PySem.Expr} {news L9 : List (Addr × Obj)} {us : List Value} {S : List (Int × Int)} {n : Nat} {k x y : Int} {u : Tok} {Q : Value → Shared → Prop} (j : Nat) (N : News h₀ L s.heap news) (hm : (l, listOf us.toArray n) ∈ news) (hd : W.DatAll L9 us (S.map pd)) (hj : k = (j : Int)) (hl : j < S.length) (hz : S.length ≤ 1000000)
    (hx : (S.getD j (0, 0)).1 = x) (hy : (S.getD j (0, 0)).2 = y) (h : ∀ a c t1 t2, (a, tupO #[.int x t1, .int y t2] c) ∈ L9 → Q (.ref a) s)
    (hs : subscripted slice false (.ref l) (.int k u) = operate [.ref l, .int k u] (getItem (.ref l) (.int k u)) := by with_unfolding_all rfl) :
    wpAny (model prog w) A (subscriptTail value slice (.ref l) (.int k u)) Q E s := by
  obtain ⟨a, c, t1, t2, e2, hm2⟩ := dat_at hd hl
  have e3 : S.getD j (0, 0) = S[j]'hl := by rw [List.getD_eq_getElem?_getD, List.getElem?_eq_getElem hl]; rfl
  rw [← e3, hx, hy] at hm2
  have hls : s.heap.IsList l us.toArray := ⟨_, (N _ hm).1, rfl, n, rfl⟩
  subst hj
  exact tail_any hls.typeIs slot_list_getitem.lookup (wpAny_getItem_list hls (by omega) (by omega) (by simpa using e2) (h a c t1 t2 hm2)) hs
theorem itemE {prog : Program} {w : World} {A : Around} {E : Value → Shared → Prop} {s : Shared} {h₀ : Heap} {L : Addr} {news : List (Addr × Obj)} {value slice : Expr} {l : Addr} {vs : List Value} {ns : List Int} {c : Nat} {k x : Int} {u : Tok} {Q : Value → Shared → Prop}
    (N : News h₀ L s.heap news) (hm : (l, listOf vs.toArray c) ∈ news) (hi : IntsAre vs ns) (h0 : 0 ≤ k) (h1 : k < (ns.length : Int)) (h2 : (ns.length : Int) ≤ 1000000) (hx : ns.getD k.toNat 0 = x) (h : ∀ t, Q (.int x t) s)
    (hs : subscripted slice false (.ref l) (.int k u) = operate [.ref l, .int k u] (getItem (.ref l) (.int k u)) := by with_unfolding_all rfl) (hg : ∀ r, letTemporaryGo value (.ref l) r = pure () := by intro _; with_unfolding_all rfl) :
    wpAny (model prog w) A (subscriptTail value slice (.ref l) (.int k u)) Q E s := itemD N hm hi h0 h1 h2 (fun t => by rw [hx]; exact h t) hs hg
theorem led_in {A own X : List (Addr × Obj)} (h : ∀ q ∈ A ++ own, q ∈ X) : ∀ p ∈ A, p ∈ X := fun p hp => h p (List.mem_append_left _ hp)
theorem own_in {A own X : List (Addr × Obj)} (h : ∀ q ∈ A ++ own, q ∈ X) : ∀ p ∈ own, p ∈ X := fun p hp => h p (List.mem_append_right _ hp)
theorem len_pos6 {l : List Int} (h : decide (l = []) = false) : 0 < l.length := List.length_pos_iff.mpr (of_decide_eq_false h)
theorem bits64 {z zs : Int} (h0 : 0 ≤ z) (h1 : z < zs) (h : zs = 1 * 2 ^ (64 : Int).toNat) : intBits z ≤ 64 := by
  refine bits_of_lt h0 ?_
  rw [h] at h1
  have e : (1 : Int) * 2 ^ (64 : Int).toNat = 2 ^ 64 := by decide
  rw [e] at h1
  exact h1
local macro_rules | `(tactic| bits_by_make) => `(tactic| with_reducible assumption)
local macro_rules | `(tactic| walk_at "storeName") => `(tactic| ((fail_if_success (with_reducible rename KPfMark => zMk)); (fail_if_success ((with_reducible refine abs_skip ?ka ?kb); (case ka => with_reducible assumption))); k_extra "abs"))
local macro_rules | `(tactic| walk_at "binaryOp Pow int int") => `(tactic| ((fail_if_success (with_reducible rename KPfMark => zMk)); (with_reducible refine' pow3_z ?ka ?kb ?_); (case ka => bits_by_make); (case kb => decide); k_extra "intro3"))
local macro_rules | `(tactic| walk_at "binaryOp Pow int int") => `(tactic| ((fail_if_success (with_reducible rename KPfMark => zMk)); (with_reducible refine pow2_p (N := 20000) ?kb1 ?kb2 ?kb3 ?_); (case kb1 => omega); (case kb2 => omega); (case kb3 => decide); k_extra "introP"))
local macro_rules | `(tactic| walk_at "binaryOp Mod int int") => `(tactic| ((fail_if_success (with_reducible rename KPfMark => zMk)); (with_reducible refine' mod_p ?ka ?kb ?_); (case ka => first | decide | assumption | k_extra "pos"); (case kb => bits_by_make); k_extra "introM"))
local macro_rules | `(tactic| walk_at "call ref") => `(tactic| k_extra "mycall")
local macro_rules | `(tactic| walk_at "binaryOp LShift int int") => `(tactic| ((fail_if_success (with_reducible rename KPfMark => zMk)); (with_reducible refine' shl_p (N := 40000) ?kb1 ?kb2 ?kb3 ?kb4 ?_); (case kb1 => omega); (case kb2 => bits_by_make); (case kb3 => omega); (case kb4 => decide); k_extra "introS"))
local macro_rules | `(tactic| walk_at "binaryOp RShift int int") => `(tactic| ((fail_if_success (with_reducible rename KPfMark => zMk)); (with_reducible refine' shr_p ?kb1 ?kb2 ?_); (case kb1 => omega); (case kb2 => bits_by_make); k_extra "introS"))
local macro_rules | `(tactic| walk_at "execs cons") => `(tactic| ((with_reducible refine gen_toks ?_); intro tk; (with_reducible refine wpAny_execs_cons ?_); try dsimp only))
local macro_rules | `(tactic| walk_at "execs nil") => `(tactic| ((with_reducible refine gen_toks ?_); intro tk; (with_reducible refine wpAny_execs_nil ?_)))
local macro_rules | `(tactic| walk_at "binaryOp Mult int int") => `(tactic| ((with_reducible refine' mul_p ?kb1 ?kb2 ?kb3 ?_); (case kb1 => bits_by_make); (case kb2 => bits_by_make); (case kb3 => decide)))
local macro_rules | `(tactic| walk_at "subscriptTail Name Constant ref int") => `(tactic| k_extra "item0")
local macro_rules | `(tactic| walk_at "eval IfExp") => `(tactic| k_extra "joinE")
local macro_rules | `(tactic| walk_at "exec If Compare cons nil") => `(tactic| k_extra "joinif")
local macro_rules | `(tactic| walk_at "call builtin:len") => `(tactic| k_extra "len")
local macro_rules | `(tactic| kc_close) => `(tactic| k_extra "good")
local macro_rules | `(tactic| walk_at "pyIter ref") => `(tactic| k_extra "myiter")
local macro_rules | `(tactic| walk_at "subscriptTail Name BinOp ref int") => `(tactic| k_extra "itemS")
local macro_rules | `(tactic| walk_at "subscriptTail Name Name ref int") => `(tactic| k_extra "itemR")
local macro_rules | `(tactic| walk_at "TupSrc") => `(tactic| k_extra "tupsrc")
local macro_rules | `(tactic| walk_at "CompSrc Call") => `(tactic| k_extra "srcD")
local macro_rules | `(tactic| walk_at "call builtin:max") => `(tactic| k_extra "max")
local macro_rules | `(tactic| walk_at "subscriptTail Name Slice ref ref") => `(tactic| k_extra "cut")
local macro_rules | `(tactic| walk_at "eval ListComp BinOp cons") => `(tactic| (k_here; (with_reducible show wpAny _ _ (eval (Expr.ListComp _ [⟨_, Expr.Tuple _ _ _, _, _⟩] _ _) _) _ _ _); k_dflt (refine ListComp_Tup (F₀ := by k_asm) (by rfl) (by decide) (by rfl) (by decide) (by rfl) ?_)))
set_option maxRecDepth 100000 in
set_option maxHeartbeats 8000000 in
theorem X : PySem.Challenge.rw_dn0134_06.Holds := hd (by
  k_with_none
  k_with "abs" => (first
    | ((with_reducible show wpAny _ _ (storeName _ (Str.ofString "power") _) _ _ _); (with_reducible refine' abs_store ?ka ?_); (case ka => bits_by_make); intro power apower hpower bpower)
    | ((with_reducible show wpAny _ _ (storeName _ (Str.ofString "width") _) _ _ _); (fail_if_success (have := hw0)); (with_reducible refine' abs_store ?ka ?_); (case ka => exact w6_bits bgr hone2); intro width0 awidth0 hwidth0 bwidth0; (have hw0 := w6_bound bgr hone2 gr0 hone1 hwidth0); obtain ⟨hw01, hw02, hw03⟩ := hw0; have hw0 := True.intro)
    | ((with_reducible show wpAny _ _ (storeName _ (Str.ofString "width") _) _ _ _); (with_reducible refine' abs_store ?ka ?_); (case ka => bits_by_make); intro width awidth hwidth bwidth; (have hw1 : 1 ≤ width := (by omega)); (have hw2 : width ≤ 7000 := (by omega)); (have hw3 : width0 ≤ width := (by omega)))
    | ((with_reducible show wpAny _ _ (storeName _ (Str.ofString "divisor") _) _ _ _); (with_reducible refine' abs_store ?ka ?_); (case ka => bits_by_make); intro divisor adivisor hdivisor bdivisor)
    | ((with_reducible show wpAny _ _ (storeName _ (Str.ofString "due") _) _ _ _); (with_reducible refine' abs_store ?ka ?_); (case ka => bits_by_make); intro du adu hdu bdu; have e9 : du = due := (by rw [hdu, hzu, hdue]); subst e9)
    | ((with_reducible show wpAny _ _ (storeName _ (Str.ofString "rest") _) _ _ _); (fail_if_success (have := hSet)); (with_reducible refine' abs_store ?ka ?_); (case ka => bits_by_make); intro rest0 arest0 hrest0 brest0)
    | ((with_reducible refine' abs_store ?ka ?_); (case ka => bits_by_make); intro z az hz bz))
  k_with "item0" => (first
    | (
    (with_reducible show wpAny _ _ (subscriptTail _ _ (Value.ref _) (Value.int 0 _)) _ _ _)
    (have := hw3)
    obtain ⟨r0, hr0⟩ : ∃ z, rs.getD 0 0 = z := ⟨_, rfl⟩
    have ar0 : Abs r0 := .mk
    have br0 := (getD_all hrb (show 0 < rs.length by omega)).2
    rw [hr0] at br0
    (k_dflt (refine' itemE (x := r0) ?zN ?zm hIr ?za ?zb ?zc hr0 ?_; (case zN => k_asm); (case zm => k_mem); (case za => decide); (case zb => omega); (case zc => omega)))
    intro ti)
    | (
    (with_reducible show wpAny _ _ (subscriptTail _ _ (Value.ref _) (Value.int 1 _)) _ _ _)
    (have := hw3)
    obtain ⟨r1, hr1⟩ : ∃ z, rs.getD 1 0 = z := ⟨_, rfl⟩
    have ar1 : Abs r1 := .mk
    have br1 := (getD_all hrb (show 1 < rs.length by omega)).2
    rw [hr1] at br1
    (k_dflt (refine' itemE (x := r1) ?zN ?zm hIr ?za ?zb ?zc hr1 ?_; (case zN => k_asm); (case zm => k_mem); (case za => decide); (case zb => omega); (case zc => omega)))
    intro ti)
    | (
    (with_reducible show wpAny _ _ (subscriptTail _ _ (Value.ref _) (Value.int 0 _)) _ _ _)
    (have hln := len_pos6 (by assumption))
    k_dflt (refine' item_list_ints ?k1 ?k2 ?k3 ?k4 ?k5 (fun ti => ?_))
    (case k1 => with_unfolding_all is_list)
    (case k2 => with_unfolding_all l_ints)
    (case k3 => decide)
    (case k4 => omega)
    (case k5 => decide)))
  k_with "itemS" => (first
    | (k_dflt (refine' dat_item (kPre.length + 1) ?zN ?zm hd0 ?za ?zb ?zc hu1 hl1 ?_; (case zN => k_asm); (case zm => k_mem); (case za => omega); (case zb => omega); (case zc => omega)); intro at1 ct1 tt1 tt2 hat1)
    | (k_dflt (refine' dat_item (kPre.length) ?zN ?zm hd0 ?za ?zb ?zc hu0 hl0 ?_; (case zN => k_asm); (case zm => k_mem); (case za => omega); (case zb => omega); (case zc => omega)); intro at2 ct2 tt3 tt4 hat2))
  k_with "itemR" => (
    (k_dflt (refine' itemE (x := xk) ?zN ?zm hIr ?za ?zb ?zc hxk ?_; (case zN => k_asm); (case zm => k_mem); (case za => omega); (case zb => omega); (case zc => omega)))
    intro ti)
  k_with "good" => (
    (with_reducible show InvEndN _ _ _ _ _ _ _)
    (rename News _ _ _ _ => nE')
    (rename Fr _ _ _ _ => fE')
    (apply kst_end ⟨_, _⟩)
    (case F => k_dflt (exact fE'))
    (case N => k_dflt (exact nE'))
    (case hn => with_unfolding_all (refine led_in (own := kOwn) ?_; (repeat' (first | exact subr | (refine sub1 ?_)))))
    (case ho => (repeat' (first | exact (fun q hq => List.mem_append_right tl hq) | (refine sub1 ?_))))
    (case ha => rfl)
    (case hf => kst_facts)
    (case hk => kst_all)
    (case hr => kst_same)
    (case hp => (exact rest6_turn hu1 hl1 hdue)))
  k_with "myiter" => (
    (rename Fr _ _ _ _ => lF')
    (rename News _ _ _ _ => lN')
    (rename IsRange _ _ _ _ _ _ _ _ => rgX)
    have hSet := set6_mk hS hok hga hone1 htwo1 htwo3 hw1 hw2 hw03 hw3 hdivisor hzD hzO hzW hzU hlow
    have hkp := rest6_start hS hrest0 hzR hr0 hr1
    (with_unfolding_all refine' kst_range (σ := Int × Nat) (fun _ => _) (fun c => [(Str.ofString "rest", Value.int c.1 c.2)]) (fun _ => True) [Str.ofString "told", Str.ofString "due"] (fun pre c => Rest6 S width pre.length c.1) (rest0, _) (by rfl) rgX ?ksm ?ksn lF' lN' True.intro ?kk hkp ?_ ?_)
    (case ksm => (exact small_one (by omega) (by omega) (by omega) (by omega)))
    (case ksn => (first | exact rangeSize_nat _ _ | rfl))
    (case kk => kst_all)
    (all_goals (try clear lF' lN'))
    rotate_left
    (
      rintro ⟨rest, tr0⟩ kU kH kTk kFacts kInv kFr kNews
      have kMark := kstMark
      have kMark := kdMark
      dsimp only [kstB] at kFr
      dsimp only at kNews kInv)
    rotate_left
    (
      rintro ⟨rest, tr0⟩ kPre kN kT kU kH kTk kOwn kEq kLt kOff kFacts kInv kFr kNews
      have kMark := kstMark
      have kMark := kdMark
      dsimp only [kstB] at kFr
      dsimp only at kNews kInv
      simp only [List.nil_append, List.cons_append, List.append_assoc] at kNews
      have arest : Abs rest := .mk
      have akN : Abs kN := .mk
      have hkl : kPre.length + 2 < rs.length := (by omega)
      have hP3 := hSet.pre (j := kPre.length) hkl (fun x hx => (hrb x hx).1)
      rw [← kInv.e] at hP3
      have hk0 := getD_ok hok (j := kPre.length) (by omega)
      have hk1 := getD_ok hok (j := kPre.length + 1) (by omega)
      obtain ⟨u0, hu0⟩ : ∃ z, (S.getD kPre.length (0, 0)).1 = z := ⟨_, rfl⟩
      obtain ⟨l0, hl0⟩ : ∃ z, (S.getD kPre.length (0, 0)).2 = z := ⟨_, rfl⟩
      obtain ⟨u1, hu1⟩ : ∃ z, (S.getD (kPre.length + 1) (0, 0)).1 = z := ⟨_, rfl⟩
      obtain ⟨l1, hl1⟩ : ∃ z, (S.getD (kPre.length + 1) (0, 0)).2 = z := ⟨_, rfl⟩
      obtain ⟨xk, hx0⟩ : ∃ z, rs.getD (kPre.length + 2) 0 = z := ⟨_, rfl⟩
      have hxk : rs.getD kN.toNat 0 = xk := (by rw [show kN.toNat = kPre.length + 2 by omega]; exact hx0)
      rw [hu0, hu1, hl1, hx0] at hP3
      obtain ⟨due, hdue⟩ : ∃ z, u1 * 2 ^ width.toNat + l1 = z := ⟨_, rfl⟩
      rw [hdue] at hP3
      have bu0 : intBits u0 ≤ 6000 := (by rw [← hu0]; exact hk0.ba)
      have bl0 : intBits l0 ≤ 6000 := (by rw [← hl0]; exact hk0.bb)
      have bu1 : intBits u1 ≤ 6000 := (by rw [← hu1]; exact hk1.ba)
      have bl1 : intBits l1 ≤ 6000 := (by rw [← hl1]; exact hk1.bb)
      have au0 : Abs u0 := .mk
      have au1 : Abs u1 := .mk
      have al1 : Abs l1 := .mk
      have axk : Abs xk := .mk)
    (all_goals (try dsimp only))
    (all_goals (try k_fold)))
  k_with "cut" => (
    (with_reducible show wpAny _ _ (subscriptTail _ (PySem.Expr.Slice _ _ none _) (Value.ref _) (Value.ref _)) _ _ _)
    (k_dflt (refine' cutL_run (s := ⟨_, _, _, _, _⟩) ?qF ?qN ?ql ?qi ?qx ?qy ?qz ?_ ?qs; (case qF => k_asm); (case qN => k_asm); (case ql => kmk_list); (case qi => l_ints); (case qs => with_unfolding_all rfl); (case qx => omega); (case qy => omega); (case qz => omega)); intro Dc wsc h' F' N' lc hIc; (try k_lt lc)))
  k_with "joinif" => (
    (fail_if_success (have := hjn))
    first
    | (
      (with_reducible show wpAny _ _ (exec (Stmt.If (Expr.Compare (Expr.BinOp _ _ _ _) _ _ _) _ _ _) _) _ _ _)
      (rename Fr _ _ _ _ => lF')
      (rename News _ _ _ _ => lN')
      (with_unfolding_all refine' join_stm (Str.ofString "two") (fun z => 0 ≤ z ∧ intBits z ≤ 64 ∧ 1 ≤ one + z) lF' lN' ?kh1 ?_)
      (case kh1 => (
        intro Q' hQ'
        have hjn : True := True.intro
        k_dflt (k_steps)
        all_goals (first
          | ((rename News _ _ _ _ => lN9); refine' hQ' _ _ _ _ ?kR ?kfr ?kn; (case kfr => exact fr_sameV (name := Str.ofString "two") (v := Value.int two9 _) (by k_asm) (by with_unfolding_all rfl)); (case kn => with_unfolding_all exact news_sub lN9 (by (repeat' (first | exact subr | (refine sub1 ?_))))); (case kR => exact ⟨by omega, by assumption, by omega⟩))
          | ((rename News _ _ _ _ => lN9); refine' hQ' _ _ _ _ ?kR ?kfr ?kn; (case kfr => k_asm); (case kn => with_unfolding_all exact news_sub lN9 (by (repeat' (first | exact subr | (refine sub1 ?_))))); (case kR => exact ⟨by omega, by assumption, by omega⟩)))))
      intro two twot h' tk' twoa htwo F' N'
      obtain ⟨htwo1, htwo2, htwo3⟩ := htwo
      (try dsimp only)
      (try k_fold))
    | (
      (with_reducible show wpAny _ _ (exec (Stmt.If (Expr.Compare (Expr.Call _ _ _ _) _ _ _) _ _ _) _) _ _ _)
      (rename Fr _ _ _ _ => lF')
      (rename News _ _ _ _ => lN')
      (with_unfolding_all refine' join_row6 (P := power) (Str.ofString "row") lF' (news_sub lN' (sub1 (sub1 subr))) ?kh1 ?_)
      (case kh1 => (
        intro Q' hQ'
        have hjn : True := True.intro
        k_dflt (k_steps)
        all_goals (first
          | ((rename IntsAre _ (List.map _ _) => hI9); (rename News _ _ _ _ => lN9); refine hQ' _ _ _ _ _ _ (rowA6 power0 (by omega) (by assumption)) hI9 (fr_sameV (by k_asm) (by with_unfolding_all rfl)) (by with_unfolding_all exact news_sub lN9 (List.forall_mem_cons.mpr ⟨by k_mem, by (repeat' (first | exact subr | (refine sub1 ?_)))⟩)) (by k_all))
          | ((rename News _ _ _ _ => lN9); refine' hQ' _ _ _ _ _ _ ?kok ?kints ?kfr ?knews ?kne; (case kfr => k_asm); (case knews => with_unfolding_all exact news_sub lN9 (List.forall_mem_cons.mpr ⟨by k_mem, by (repeat' (first | exact subr | (refine sub1 ?_)))⟩)); (case kints => l_ints); (case kok => exact rowB6 power0 (by assumption) rfl); (case kne => k_all)))))
      intro Drow rvs rs crow h' tk' hRow hIr F' N' hneR
      simp only [List.forall_mem_cons] at hneR
      have hrl1 := hRow.l1
      have hrl2 := hRow.l2
      (try dsimp only)
      (try k_fold)))
  k_with "tupsrc" => (
    k_dflt (refine' srcTup_map (fun k' => k'.fmod power) ?ch ?cF ?cN ?cm (ints10 _ _ _ _ _ _ _ _ _ _ _ _ _ _ _ _ _ _ _ _) ?cz ?ct ?_)
    (case ch => (with_unfolding_all exact rfl))
    (case cF => k_asm)
    (case cN => k_asm)
    (case cm => k_dflt k_mem)
    (case cz => decide)
    (case ct => (
      intro x9 t9 I9 oI9 C9 oC9 D9 m9 h9 tk9 ys9 E9 Q9 hx8 hC9 hx9 F9 N9 off9 ne9 hQ9
      simp only [PyProof.Rows.LCg.Off3, and_true] at off9
      k_dflt (k_steps)
      all_goals (subst hzm; exact hQ9 _ _ _ (by k_asm) (by k_asm))))
    (intro g' yst hIt)
    (unfold PyProof.Rows.LCg.FinE)
    (intro D' h' tk' F' N' o1')
    (simp only [PyProof.Rows.LCg.Off1, and_true] at o1')
    (try dsimp only))
  k_with "len" => (
    (rename IntsAre _ _ => hI9)
    k_dflt (refine' kst_len ?zN ?zm ?ze ?zf ?_; (case zN => k_asm); (case zm => k_mem); (case ze => exact hI9.length); (case zf => (simp only [List.length_map, List.length_take]; omega))))
  k_with "mycall" => (first
    | (
    (with_reducible show wpAny _ _ (call (Value.ref 28) _ _) _ _ _)
    have hb15 : intBits due ≤ 60000 := Nat.le_trans (bits_of_lt hP3.r0 (Int.lt_trans hP3.r1 (lt_of_bits bdivisor))) (by decide)
    have adue : Abs due := .mk
    k_dflt (refine' pair_use ?k1 ?k2 ?k3 ?k4 ?k5 ?kK (use3 hP3 ?kn) ?kd ?ku ?_)
    (case k1 => k_asm)
    (case k2 => k_dflt k_asm)
    (case k3 => k_asm)
    (case k4 => k_dflt k_asm)
    (case k5 => k_asm)
    (case kK => exact rfl)
    (case kd => ktr_room)
    (case ku => ktr_units)
    (case kn => omega)
    intro D' x1 x2 c' h' tk' F' N' l'
    (try k_lt l')
    (try dsimp only)
    (try k_fold))
    | (
    (with_reducible show wpAny _ _ (call (Value.ref 35) _ _) _ _ _)
    have hrb := hRow.bits hpbits
    k_dflt (refine' states_c _ _ _ _ hIr hrl2 (Nat.le_trans (by decide) hrl1) hrb hone1 htwo1 hone2 htwo2 ?k1 ?k2 ?k3 ?k4 ?km ?k5 ?kK ?kd ?ku ?_)
    (case k1 => k_asm)
    (case k2 => k_dflt k_asm)
    (case k3 => k_asm)
    (case k4 => k_dflt k_asm)
    (case km => k_dflt k_mem)
    (case k5 => k_asm)
    (case kK => exact rfl)
    (case kd => ktr_room)
    (case ku => ktr_units)
    intro Dst us cu tl h' tk' hd0 F' N' lst off
    simp only [List.cons_append, List.nil_append] at N' hd0
    (try k_lt lst)
    have kMark := kstMark
    have kMark := kdMark
    have hok := sts_ok6 hRow hpbits hone1 htwo1 hone2 htwo2
    obtain ⟨S, hS⟩ : ∃ S, S = sts one two (rs.getD 0 0, rs.getD 1 0) (rs.drop 2) := ⟨_, rfl⟩
    rw [← hS] at hd0 hok
    have hSl : S.length = rs.length - 2 + 1 := (by rw [hS, sts_len, List.length_drop])
    (try dsimp only)
    (try k_fold)))
  k_with "srcD" => (
    k_dflt (refine' srcD_map (fun p => max p.1 p.2) ?ch ?cF ?cN ?cm hd0 ?cL ?cz ?ct ?_)
    (case ch => (with_unfolding_all exact rfl))
    (case cF => k_asm)
    (case cN => k_asm)
    (case cm => k_dflt k_mem)
    (case cL => (repeat' (first | exact subr | (refine sub1 ?_))))
    (case cz => omega)
    (case ct => (
      intro x9 a9 n9 u1 u2 I9 oI9 C9 oC9 D9 m9 h9 tk9 ys9 E9 Q9 hx8 hm8 hC9 hx9 F9 N9 off9 ne9 hQ9
      simp only [PyProof.Rows.LCg.Off3] at off9
      k_dflt (k_steps)
      all_goals (exact hQ9 _ _ _ (by k_asm) (by k_asm))))
    (intro g' yst hIt)
    (unfold PyProof.Rows.LCg.FinE)
    (intro D' h' tk' F' N' o1')
    (simp only [PyProof.Rows.LCg.Off1] at o1')
    (try dsimp only))
  k_with "max" => (first
    | k_dflt (refine' max_pairT ?zh ?zF ?zN hm8 ?_; (case zh => with_unfolding_all exact rfl); (case zF => k_asm); (case zN => k_asm); intro h' t' tk' F' N')
    | (k_dflt (refine' kso_max ?k1 ?k2 ?k3 ?k4 ?k5 ?k6 ?_; (case k1 => k_asm); (case k2 => k_asm); (case k3 => kso_list); (case k4 => l_ints); (case k5 => (simp only [List.length_append, List.length_map, List.length_singleton]; omega)); (case k6 => with_unfolding_all rfl)); intro h' great tM k' F' N' hgm hga; have agr : Abs great := .mk; have bgr := great6 hgm hok htwo2; have gr0 : 0 ≤ great := Int.le_trans htwo1 (great6_all hga).2))
  k_with "joinE" => (
    (fail_if_success (have := hjn))
    first
    | (
      (with_reducible show wpAny _ _ (eval (Expr.IfExp _ _ (Expr.Constant (Const.int 4301) _ _) _) _) _ _ _)
      (rename Fr _ _ _ _ => lF')
      (rename News _ _ _ _ => lN')
      (with_unfolding_all refine' join_exp (fun z => 1 ≤ z ∧ z ≤ 4500) lF' lN' ?kh1 ?_)
      (case kh1 => (
        intro Q' hQ'
        have hjn : True := True.intro
        k_dflt (k_steps)
        all_goals ((rename News _ _ _ _ => lN9); exact hQ' _ _ _ _ ⟨by omega, by omega⟩ (by k_asm) (by with_unfolding_all exact news_sub lN9 (by (repeat' (first | exact subr | (refine sub1 ?_))))))))
      intro ex ext h' tk' exa hex F' N'
      obtain ⟨hex1, hex2⟩ := hex
      (try dsimp only)
      (try k_fold))
    | (
      (with_reducible show wpAny _ _ (eval (Expr.IfExp _ _ (Expr.Constant (Const.int 3) _ _) _) _) _ _ _)
      (rename Fr _ _ _ _ => lF')
      (rename News _ _ _ _ => lN')
      (with_unfolding_all refine' join_exp (fun z => 0 ≤ z ∧ intBits z ≤ 64) lF' lN' ?kh1 ?_)
      (case kh1 => (
        intro Q' hQ'
        have hjn : True := True.intro
        k_dflt (k_steps)
        all_goals ((rename News _ _ _ _ => lN9); exact hQ' _ _ _ _ (by first | exact ⟨by decide, by decide⟩ | exact ⟨by assumption, bits64 (by assumption) (by assumption) (by assumption)⟩) (by k_asm) (by with_unfolding_all exact news_sub lN9 (by (repeat' (first | exact subr | (refine sub1 ?_))))))))
      intro one onet h' tk' onea hone F' N'
      obtain ⟨hone1, hone2⟩ := hone
      (try dsimp only)
      (try k_fold))
    | (
      (with_reducible show wpAny _ _ (eval (Expr.IfExp _ _ (Expr.Constant (Const.int 2) _ _) _) _) _ _ _)
      (rename Fr _ _ _ _ => lF')
      (rename News _ _ _ _ => lN')
      (with_unfolding_all refine' join_exp (fun z => 0 ≤ z ∧ intBits z ≤ 64) lF' lN' ?kh1 ?_)
      (case kh1 => (
        intro Q' hQ'
        have hjn : True := True.intro
        k_dflt (k_steps)
        all_goals ((rename News _ _ _ _ => lN9); exact hQ' _ _ _ _ (by first | exact ⟨by decide, by decide⟩ | exact ⟨by assumption, bits64 (by assumption) (by assumption) (by assumption)⟩) (by k_asm) (by with_unfolding_all exact news_sub lN9 (by (repeat' (first | exact subr | (refine sub1 ?_))))))))
      intro two9 two9t h' tk' two9a htwo9 F' N'
      obtain ⟨htwo91, htwo92⟩ := htwo9
      (try dsimp only)
      (try k_fold))
    | (
      (with_reducible show wpAny _ _ (eval (Expr.IfExp _ _ (Expr.Constant (Const.int 0) _ _) _) _) _ _ _)
      (rename Fr _ _ _ _ => lF')
      (rename News _ _ _ _ => lN')
      (with_unfolding_all refine' join_exp (fun z => 0 ≤ z ∧ z ≤ 99) lF' lN' ?kh1 ?_)
      (case kh1 => (
        intro Q' hQ'
        have hjn : True := True.intro
        k_dflt (k_steps)
        all_goals ((rename News _ _ _ _ => lN9); exact hQ' _ _ _ _ ⟨by omega, by omega⟩ (by k_asm) (by with_unfolding_all exact news_sub lN9 (by (repeat' (first | exact subr | (refine sub1 ?_))))))))
      intro more moret h' tk' morea hmore F' N'
      obtain ⟨hmore1, hmore2⟩ := hmore; have bmore : intBits more ≤ 7 := bits_of_lt hmore1 (show more < 2 ^ 7 by (have e7 : (2 : Int) ^ 7 = 128 := by decide); omega)
      (try dsimp only)
      (try k_fold)))
  k_with "introM" => (first
    | ((with_reducible show ∀ z, Abs z → z = Int.fmod divisor _ → _ → _ → _ → _); intro lower alower hlow lower0 lower1 blower)
    | (intro zm am hzm lom him bzm))
  k_with "introS" => (first
    | ((with_reducible show ∀ z, Abs z → z = 1 * 2 ^ Int.toNat ex → _ → _); intro power apower hpower bpower; have hpbits := pow6_bits hpower hex1 hex2; have power0 := shl1_pos hpower)
    | ((with_reducible show ∀ z, Abs z → z = 1 * 2 ^ Int.toNat (2 * width) → _ → _); intro zD azD hzD bzD)
    | ((with_reducible show ∀ z, Abs z → z = one * 2 ^ Int.toNat width → _ → _); intro zO azO hzO bzO)
    | ((with_reducible show ∀ z, Abs z → z = 1 * 2 ^ Int.toNat width → _ → _); intro zW azW hzW bzW; have pzW := shl1_pos hzW)
    | ((with_reducible show ∀ z, Abs z → z = divisor / 2 ^ Int.toNat width → _ → _); intro upper aupper hzU bupper)
    | ((with_reducible show ∀ z, Abs z → z = r0 * 2 ^ Int.toNat width → _ → _); intro zR azR hzR bzR)
    | ((with_reducible show ∀ z, Abs z → z = u1 * 2 ^ Int.toNat width → _ → _); intro zu azu hzu bzu)
    | (intro zs as hzs bzs; (try (have pzs := shl1_pos hzs))))
  k_with "pos" => (first | omega)
  k_go0
  (all_goals try k_fold)
  k_steps)
end Mine
theorem PySem.Challenge.cw_dn0134_06_holds : PySem.Challenge.rw_dn0134_06.Holds :=
  Mine.X
