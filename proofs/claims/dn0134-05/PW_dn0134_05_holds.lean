import PyProof.Rows.All
import Wide.All
import OpenK.AllK
import Wide.FinOn
import PySem.Challenge.RW_dn0134_05
open PySem PySem.W PyProof.Rows
set_option Elab.async false
namespace Mine
open PySem.Builtin.Int (intBits)

theorem ppos (k : Nat) : (0 : Int) < 2 ^ k := kbt_pos k
theorem pmono {i j : Nat} (h : i ≤ j) : (2 : Int) ^ i ≤ 2 ^ j := by
  have := Nat.pow_le_pow_right (n := 2) (by decide) h
  rw [← kbt_cast, ← kbt_cast]; omega
theorem uniqNN {q b r q' r' : Int} (h : q * b + r = q' * b + r') (r0 : 0 ≤ r) (r1 : r < b) (r0' : 0 ≤ r') (r1' : r' < b) : q = q' ∧ r = r' := by
  have hb : 0 < b := by omega
  have h1 := kbt_unique (a := q * b + r) (b := b) (q := q) (r := r) hb (by rw [Int.mul_comm b q]; omega) r0 r1
  have h2 := kbt_unique (a := q * b + r) (b := b) (q := q') (r := r') hb (by rw [Int.mul_comm b q']; omega) r0' r1'
  exact ⟨h1.1.symm.trans h2.1, h1.2.symm.trans h2.2⟩
theorem mul_le_of {a b c : Int} (hc : 0 ≤ c) (h : a ≤ b) : a * c ≤ b * c := Int.mul_le_mul_of_nonneg_right h hc
theorem mul_lt_of {a b c : Int} (hc : 0 < c) (h : a < b) : a * c < b * c := Int.mul_lt_mul_of_pos_right h hc
theorem lt_of_mul {a b c : Int} (hc : 0 < c) (h : a * c < b * c) : a < b := Int.lt_of_mul_lt_mul_right h (Int.le_of_lt hc)
theorem bits_of_lt {x : Int} {k : Nat} (h0 : 0 ≤ x) (h : x < 2 ^ k) : intBits x ≤ k := by
  refine intBits_le_iff.mpr ?_
  have := kbt_cast k
  omega
theorem lt_of_bits {x : Int} {k : Nat} (h : intBits x ≤ k) : x < 2 ^ k := by
  have h1 := intBits_le_iff.mp h
  have := kbt_cast k
  omega
theorem fdivP (a : Int) (k : Nat) : a.fdiv (2 ^ k) = a / 2 ^ k := Int.fdiv_eq_ediv_of_nonneg _ (Int.le_of_lt (kbt_pos k))
theorem and_all (x : Int) : Builtin.bitAnd x (-1) = x := by
  have hn : ¬ (0 : Int) ≤ -1 := by decide
  have e : (Builtin.bitNot (-1)).toNat = 0 := by decide
  by_cases hx : 0 ≤ x
  · rw [bitAnd_pn hx hn, e, Nat.and_zero]; simp
  · rw [bitAnd_nn hx hn, e, Nat.or_zero]
    unfold Builtin.bitNot
    omega
/-- the bits of the one and of the other -/
theorem or_add {x y : Int} {k : Nat} (y0 : 0 ≤ y) (y1 : y < 2 ^ k) : Builtin.bitOr (x * 2 ^ k) y = x * 2 ^ k + y := by
  have hp := kbt_pos k
  have key : ∀ k : Nat, ∀ x y : Int, 0 ≤ y → y < 2 ^ k → Builtin.bitAnd (Builtin.bitNot (x * 2 ^ k)) (Builtin.bitNot y) = Builtin.bitNot (x * 2 ^ k + y) := by
    intro k
    induction k with
    | zero =>
      intro x y h0 h1
      have : y = 0 := by rw [Int.pow_zero] at h1; omega
      subst this
      rw [Int.add_zero]
      have e : Builtin.bitNot 0 = -1 := rfl
      rw [e, and_all]
    | succ k ih =>
      intro x y h0 h1
      rw [Int.pow_succ] at h1
      rw [kbt_halves]
      have e1 : Builtin.bitNot (x * 2 ^ (k + 1)) / 2 = Builtin.bitNot (x * 2 ^ k) := by
        unfold Builtin.bitNot
        rw [Int.pow_succ, ← Int.mul_assoc]; omega
      have e2 : Builtin.bitNot y / 2 = Builtin.bitNot (y / 2) := by unfold Builtin.bitNot; omega
      rw [e1, e2, ih x (y / 2) (by omega) (by omega)]
      unfold Builtin.bitNot
      rw [Int.pow_succ, ← Int.mul_assoc]
      generalize x * 2 ^ k = z
      split <;> omega
  unfold Builtin.bitOr
  rw [key k x y y0 y1]
  unfold Builtin.bitNot; omega
end Mine
namespace Mine
open PySem.Builtin.Int (intBits)
structure Pre2 (a b n q r : Int) : Prop where
  n1 : 1 ≤ n
  e : a = q * b + r
  q0 : 0 ≤ q
  q1 : q < 2 ^ n.toNat
  r0 : 0 ≤ r
  r1 : r < b
  b1 : 2 ^ (n.toNat - 1) ≤ b
  b2 : b < 2 ^ n.toNat
structure Pre3 (a12 a3 b b1 b2 n q r : Int) : Prop where
  n1 : 1 ≤ n
  ea : a12 * 2 ^ n.toNat + a3 = q * b + r
  q0 : 0 ≤ q
  q1 : q < 2 ^ n.toNat
  r0 : 0 ≤ r
  r1 : r < b
  e : b = b1 * 2 ^ n.toNat + b2
  b10 : 2 ^ (n.toNat - 1) ≤ b1
  b11 : b1 < 2 ^ n.toNat
  b20 : 0 ≤ b2
  b21 : b2 < 2 ^ n.toNat
  a30 : 0 ≤ a3
  a31 : a3 < 2 ^ n.toNat
section
variable {a12 a3 b b1 b2 n q r : Int}
theorem Pre3.a12b (H : Pre3 a12 a3 b b1 b2 n q r) : 0 ≤ a12 ∧ a12 < b := by
  obtain ⟨n1, ea, q0, q1, r0, r1, e, b10, b11, b20, b21, a30, a31⟩ := H
  have hP := ppos n.toNat
  have hB := ppos (n.toNat - 1)
  generalize (2 : Int) ^ n.toNat = P at *
  have hb1 : 0 ≤ b1 * P := Int.mul_nonneg (by omega) (by omega)
  have hb : 0 < b := by omega
  constructor
  · have h0 : 0 ≤ q * b := Int.mul_nonneg q0 (by omega)
    have : (-1) * P < a12 * P := by omega
    have := lt_of_mul hP this
    omega
  · refine lt_of_mul hP ?_
    have h1 : (q + 1) * b ≤ P * b := mul_le_of (by omega) (by omega)
    rw [Int.add_mul, Int.one_mul, Int.mul_comm P b] at h1
    omega
theorem Pre3.eqCase (H : Pre3 a12 a3 b b1 b2 n q r) (h : a12 / 2 ^ n.toNat = b1) :
    (2 ^ n.toNat - 1) * b + ((a12 - b1 * 2 ^ n.toNat + b1) * 2 ^ n.toNat + a3 - (2 ^ n.toNat - 1) * b2) = q * b + r ∧
      (a12 - b1 * 2 ^ n.toNat + b1) * 2 ^ n.toNat + a3 - (2 ^ n.toNat - 1) * b2 < b ∧ 0 ≤ a12 - b1 * 2 ^ n.toNat + b1 ∧ a12 - b1 * 2 ^ n.toNat + b1 < 2 ^ (n.toNat + 1) := by
  have h2 := H.a12b
  obtain ⟨n1, ea, q0, q1, r0, r1, e, b10, b11, b20, b21, a30, a31⟩ := H
  have hP := ppos n.toNat
  have hB := ppos (n.toNat - 1)
  have hs : (2 : Int) ^ (n.toNat + 1) = 2 ^ n.toNat * 2 := Int.pow_succ ..
  rw [hs]
  generalize (2 : Int) ^ n.toNat = P at *
  have hm := Int.emod_nonneg a12 (show P ≠ 0 by omega)
  have hm2 := Int.emod_lt_of_pos a12 hP
  have hd := Int.emod_def a12 P
  rw [h, Int.mul_comm P b1] at hd
  generalize hx : a12 - b1 * P = x at *
  have h3 : x * P ≤ (b2 - 1) * P := mul_le_of (by omega) (by omega)
  have e1 : (x + b1) * P = x * P + b1 * P := Int.add_mul ..
  have e2 : (b2 - 1) * P = b2 * P - P := by rw [Int.sub_mul, Int.one_mul]
  have e3 : (P - 1) * b2 = b2 * P - b2 := by rw [Int.sub_mul, Int.one_mul, Int.mul_comm]
  have e4 : (P - 1) * b = b * P - b := by rw [Int.sub_mul, Int.one_mul, Int.mul_comm]
  have e5 : b * P = b1 * P * P + b2 * P := by rw [e, Int.add_mul]
  have e6 : a12 * P = b1 * P * P + x * P := by rw [← hx, Int.sub_mul]; omega
  refine ⟨by omega, by omega, by omega, by omega⟩
theorem Pre3.neCase (H : Pre3 a12 a3 b b1 b2 n q r) (h : a12 / 2 ^ n.toNat ≠ b1) : ∃ q' r', Pre2 a12 b1 n q' r' := by
  have h2 := H.a12b
  obtain ⟨n1, ea, q0, q1, r0, r1, e, b10, b11, b20, b21, a30, a31⟩ := H
  have hP := ppos n.toNat
  have hB := ppos (n.toNat - 1)
  have hb1 : 0 < b1 := by omega
  have h3 : a12 < b1 * 2 ^ n.toNat := by
    generalize (2 : Int) ^ n.toNat = P at *
    have h4 : a12 / P < b1 + 1 := Int.ediv_lt_of_lt_mul hP (by rw [Int.add_mul]; omega)
    exact Int.lt_mul_of_ediv_lt hP (by omega)
  refine ⟨a12 / b1, a12 % b1, n1, ?_, Int.ediv_nonneg h2.1 (by omega), Int.ediv_lt_of_lt_mul hb1 (by rw [Int.mul_comm]; exact h3), Int.emod_nonneg _ (by omega), Int.emod_lt_of_pos _ hb1, b10, b11⟩
  rw [Int.mul_comm]; exact (Int.mul_ediv_add_emod a12 b1).symm
theorem Pre3.ne2 (H : Pre3 a12 a3 b b1 b2 n q r) {q' r' : Int} (h : Pre2 a12 b1 n q' r') :
    q' * b + (r' * 2 ^ n.toNat + a3 - q' * b2) = q * b + r ∧ r' * 2 ^ n.toNat + a3 - q' * b2 < b := by
  obtain ⟨n1, ea, q0, q1, r0, r1, e, b10, b11, b20, b21, a30, a31⟩ := H
  obtain ⟨_, e', q0', q1', r0', r1', _, _⟩ := h
  have hP := ppos n.toNat
  generalize (2 : Int) ^ n.toNat = P at *
  have h1 : 0 ≤ q' * b2 := Int.mul_nonneg q0' b20
  have h2 : r' * P ≤ (b1 - 1) * P := mul_le_of (by omega) (by omega)
  have e2 : (b1 - 1) * P = b1 * P - P := by rw [Int.sub_mul, Int.one_mul]
  refine ⟨?_, by omega⟩
  rw [← ea, e', e, Int.mul_add, Int.add_mul, ← Int.mul_assoc]
  omega
end
section
variable {a b n q r : Int}
theorem Pre2.pad (H : Pre2 a b n q r) : Pre2 (a * 2) (b * 2) (n + 1) q (r * 2) := by
  obtain ⟨n1, e, q0, q1, r0, r1, b1, b2⟩ := H
  have e1 : (n + 1).toNat = n.toNat + 1 := by omega
  have e2 : (n + 1).toNat - 1 = (n.toNat - 1) + 1 := by omega
  have hs : (2 : Int) ^ (n.toNat + 1) = 2 ^ n.toNat * 2 := Int.pow_succ ..
  have hs' : (2 : Int) ^ (n.toNat - 1 + 1) = 2 ^ (n.toNat - 1) * 2 := Int.pow_succ ..
  have hP := ppos n.toNat
  refine ⟨by omega, ?_, q0, ?_, by omega, by omega, ?_, ?_⟩
  · rw [e, Int.add_mul, Int.mul_assoc]
  · rw [e1, hs]; omega
  · rw [e2, hs']; omega
  · rw [e1, hs]; omega
/-- the first half's division and the second's -/
theorem Pre2.halves (H : Pre2 a b n q r) {h : Int} (hn : n = h * 2) : ∃ q1 r1 q2, Pre3 (a / 2 ^ n.toNat) ((a / 2 ^ h.toNat) % 2 ^ h.toNat) b (b / 2 ^ h.toNat) (b % 2 ^ h.toNat) h q1 r1 ∧
    Pre3 r1 (a % 2 ^ h.toNat) b (b / 2 ^ h.toNat) (b % 2 ^ h.toNat) h q2 r ∧ q = q1 * 2 ^ h.toNat + q2 := by
  obtain ⟨n1, e, q0, q1, r0, r1, b1, b2⟩ := H
  have hb : 0 < b := by omega
  have hk : n.toNat = h.toNat + h.toNat := by omega
  have hk' : n.toNat - 1 = (h.toNat - 1) + h.toNat := by omega
  have hP := ppos h.toNat
  have hP' := ppos (h.toNat - 1)
  have ep : (2 : Int) ^ n.toNat = 2 ^ h.toNat * 2 ^ h.toNat := by rw [hk, Int.pow_add]
  have ep' : (2 : Int) ^ (n.toNat - 1) = 2 ^ (h.toNat - 1) * 2 ^ h.toNat := by rw [hk', Int.pow_add]
  have h1 : 1 ≤ h := by omega
  rw [ep] at b2 q1 ⊢
  rw [ep'] at b1
  have a0 : 0 ≤ a := by
    have : 0 ≤ q * b := Int.mul_nonneg q0 (by omega)
    omega
  have k1 : 2 ^ (h.toNat - 1) ≤ b / 2 ^ h.toNat := Int.le_ediv_of_mul_le hP b1
  have k2 : b / 2 ^ h.toNat < 2 ^ h.toNat := Int.ediv_lt_of_lt_mul hP b2
  have k3 := Int.emod_nonneg b (show (2 : Int) ^ h.toNat ≠ 0 by omega)
  have k4 := Int.emod_lt_of_pos b hP
  have k5 : b = b / 2 ^ h.toNat * 2 ^ h.toNat + b % 2 ^ h.toNat := by rw [Int.mul_comm]; exact (Int.mul_ediv_add_emod b _).symm
  have c3 := Int.emod_nonneg (a / 2 ^ h.toNat) (show (2 : Int) ^ h.toNat ≠ 0 by omega)
  have c4 := Int.emod_lt_of_pos (a / 2 ^ h.toNat) hP
  have d3 := Int.emod_nonneg a (show (2 : Int) ^ h.toNat ≠ 0 by omega)
  have d4 := Int.emod_lt_of_pos a hP
  have f1 : a / (2 ^ h.toNat * 2 ^ h.toNat) = a / 2 ^ h.toNat / 2 ^ h.toNat := (Int.ediv_ediv_of_nonneg (by omega)).symm
  rw [f1]
  have f2 : a / 2 ^ h.toNat / 2 ^ h.toNat * 2 ^ h.toNat + (a / 2 ^ h.toNat) % 2 ^ h.toNat = a / 2 ^ h.toNat := by rw [Int.mul_comm]; exact Int.mul_ediv_add_emod _ _
  have f3 : a / 2 ^ h.toNat * 2 ^ h.toNat + a % 2 ^ h.toNat = a := by rw [Int.mul_comm]; exact Int.mul_ediv_add_emod _ _
  have g0 : 0 ≤ a / 2 ^ h.toNat := Int.ediv_nonneg a0 (by omega)
  have g1 : a / 2 ^ h.toNat < 2 ^ h.toNat * b := by
    refine Int.ediv_lt_of_lt_mul hP ?_
    have h3 : (q + 1) * b ≤ 2 ^ h.toNat * 2 ^ h.toNat * b := mul_le_of (by omega) (by omega)
    rw [Int.add_mul, Int.one_mul] at h3
    rw [Int.mul_right_comm]
    omega
  generalize hx : a / 2 ^ h.toNat = x at *
  have m1 := Int.emod_nonneg x (show b ≠ 0 by omega)
  have m2 := Int.emod_lt_of_pos x hb
  have m3 : x = x / b * b + x % b := by rw [Int.mul_comm]; exact (Int.mul_ediv_add_emod x b).symm
  have m4 : x / b < 2 ^ h.toNat := Int.ediv_lt_of_lt_mul hb g1
  have m5 : 0 ≤ x / b := Int.ediv_nonneg g0 (by omega)
  generalize x / b = y at *
  generalize x % b = z at *
  have w0 : 0 ≤ z * 2 ^ h.toNat := Int.mul_nonneg m1 (by omega)
  have w1 : z * 2 ^ h.toNat ≤ (b - 1) * 2 ^ h.toNat := mul_le_of (by omega) (by omega)
  have w2 : (b - 1) * 2 ^ h.toNat = 2 ^ h.toNat * b - 2 ^ h.toNat := by rw [Int.sub_mul, Int.one_mul, Int.mul_comm]
  have v1 := Int.emod_nonneg (z * 2 ^ h.toNat + a % 2 ^ h.toNat) (show b ≠ 0 by omega)
  have v2 := Int.emod_lt_of_pos (z * 2 ^ h.toNat + a % 2 ^ h.toNat) hb
  have v3 : z * 2 ^ h.toNat + a % 2 ^ h.toNat = (z * 2 ^ h.toNat + a % 2 ^ h.toNat) / b * b + (z * 2 ^ h.toNat + a % 2 ^ h.toNat) % b := by
    generalize z * 2 ^ h.toNat + a % 2 ^ h.toNat = y'
    rw [Int.mul_comm]; exact (Int.mul_ediv_add_emod _ b).symm
  have v4 : (z * 2 ^ h.toNat + a % 2 ^ h.toNat) / b < 2 ^ h.toNat := Int.ediv_lt_of_lt_mul hb (by omega)
  have v5 : 0 ≤ (z * 2 ^ h.toNat + a % 2 ^ h.toNat) / b := Int.ediv_nonneg (by omega) (by omega)
  generalize hu : (z * 2 ^ h.toNat + a % 2 ^ h.toNat) / b = u at *
  generalize hv : (z * 2 ^ h.toNat + a % 2 ^ h.toNat) % b = v at *
  have U : q = y * 2 ^ h.toNat + u ∧ r = v := by
    refine uniqNN (b := b) ?_ r0 r1 v1 v2
    rw [← e, ← f3, m3, Int.add_mul, Int.add_mul, Int.mul_right_comm y b]
    omega
  obtain ⟨U1, rfl⟩ := U
  exact ⟨y, z, u, ⟨h1, by rw [f2]; exact m3, m5, m4, m1, m2, k5, k1, k2, k3, k4, c3, c4⟩, ⟨h1, v3, v5, v4, v1, v2, k5, k1, k2, k3, k4, d3, d4⟩, U1⟩
end
end Mine
namespace Mine
section
variable {a12 a3 b b1 b2 n q r : Int}
theorem Pre3.start1 (H : Pre3 a12 a3 b b1 b2 n q r) (h : a12.fdiv (2 ^ n.toNat) = b1) :
    (1 * 2 ^ n.toNat - 1) * b + (Builtin.bitOr ((a12 - b1 * 2 ^ n.toNat + b1) * 2 ^ n.toNat) a3 - (1 * 2 ^ n.toNat - 1) * b2) = q * b + r ∧ Builtin.bitOr ((a12 - b1 * 2 ^ n.toNat + b1) * 2 ^ n.toNat) a3 - (1 * 2 ^ n.toNat - 1) * b2 < b := by
  rw [or_add H.a30 H.a31, Int.one_mul]
  have h' := H.eqCase (by rw [← fdivP]; exact h)
  exact ⟨h'.1, h'.2.1⟩
theorem Pre3.start2 (H : Pre3 a12 a3 b b1 b2 n q r) {q' r' : Int} (h : Pre2 a12 b1 n q' r') :
    q' * b + (Builtin.bitOr (r' * 2 ^ n.toNat) a3 - q' * b2) = q * b + r ∧ Builtin.bitOr (r' * 2 ^ n.toNat) a3 - q' * b2 < b := by
  rw [or_add H.a30 H.a31]
  exact H.ne2 h
theorem d3_turn {x y b c : Int} (h : y * b + x = c ∧ x < b) (h0 : x < 0) : (y - 1) * b + (x + b) = c ∧ x + b < b := by
  rw [Int.sub_mul, Int.one_mul]; omega
end
end Mine
namespace Mine
theorem Pre3.fin {a12 a3 b b1 b2 n q r x y : Int} (H : Pre3 a12 a3 b b1 b2 n q r) (h : y * b + x = q * b + r) (h0 : ¬ x < 0) (h1 : x < b) : y = q ∧ x = r :=
  uniqNN h (by omega) h1 H.r0 H.r1
theorem news_sub {h₀ h : Heap} {L : Addr} {news news' : List (Addr × Obj)} (N : News h₀ L h news') (hs : ∀ p ∈ news, p ∈ news') : News h₀ L h news := fun p hp => N p (hs p hp)
theorem sub0 {p : Addr × Obj} {l l' : List (Addr × Obj)} (h : ∀ q ∈ l, q ∈ l') : ∀ q ∈ p :: l, q ∈ p :: l' := fun q hq => (List.mem_cons.mp hq).elim (fun e => e ▸ .head _) fun m => .tail _ (h q m)
theorem sub1 {p : Addr × Obj} {l l' : List (Addr × Obj)} (h : ∀ q ∈ l, q ∈ l') : ∀ q ∈ l, q ∈ p :: l' := fun q hq => .tail _ (h q hq)
theorem subr {l : List (Addr × Obj)} : ∀ q ∈ l, q ∈ l := fun _ h => h
end Mine
namespace Mine
open PySem.Builtin.Int (intBits)
section
variable {a b n q r : Int}
theorem Pre2.a0 (H : Pre2 a b n q r) : 0 ≤ a := by
  have h1 := H.r0; have h2 := H.r1
  have : 0 ≤ q * b := Int.mul_nonneg H.q0 (by omega)
  have := H.e
  omega
theorem Pre2.alt (H : Pre2 a b n q r) : a < 2 ^ (n.toNat + n.toNat) := by
  have h1 := H.r0; have h2 := H.r1
  have h3 : (q + 1) * b ≤ 2 ^ n.toNat * b := mul_le_of (by omega) (by have := H.q1; omega)
  have h4 : b * 2 ^ n.toNat ≤ 2 ^ n.toNat * 2 ^ n.toNat := mul_le_of (Int.le_of_lt (ppos _)) (Int.le_of_lt H.b2)
  rw [Int.pow_add]
  have := H.e
  rw [Int.add_mul, Int.one_mul] at h3
  rw [Int.mul_comm b] at h4
  omega
theorem Pre2.big (H : Pre2 a b n q r) (h : ¬ (intBits a : Int) - n ≤ 4000) : 4000 < n := by
  have h1 := bits_of_lt H.a0 H.alt
  have := H.n1
  omega
theorem and_mask (x : Int) (k : Nat) : Builtin.bitAnd x (1 * 2 ^ k - 1) = x % 2 ^ k := by rw [Int.one_mul, kbt_mask]
theorem Pre2.halvesT (H : Pre2 a b n q r) {h : Int} (hn : n = h * 2) : ∃ q1 r1 q2, Pre3 (a.fdiv (2 ^ n.toNat)) (Builtin.bitAnd (a.fdiv (2 ^ h.toNat)) (1 * 2 ^ h.toNat - 1)) b (b.fdiv (2 ^ h.toNat)) (Builtin.bitAnd b (1 * 2 ^ h.toNat - 1)) h q1 r1 ∧
    Pre3 r1 (Builtin.bitAnd a (1 * 2 ^ h.toNat - 1)) b (b.fdiv (2 ^ h.toNat)) (Builtin.bitAnd b (1 * 2 ^ h.toNat - 1)) h q2 r ∧ Builtin.bitOr (q1 * 2 ^ h.toNat) q2 = q := by
  simp only [fdivP, and_mask]
  obtain ⟨q1, r1, q2, h1, h2, h3⟩ := H.halves hn
  exact ⟨q1, r1, q2, h1, h2, by rw [or_add h2.q0 h2.q1]; exact h3.symm⟩
theorem halves0 (hp : Builtin.bitAnd n 1 = 0) : n = n.fdiv (2 ^ (1 : Int).toNat) * 2 := by
  rw [bitAnd_m1] at hp
  have e : (2 : Int) ^ (1 : Int).toNat = 2 := by decide
  rw [e, Int.fdiv_eq_ediv_of_nonneg _ (by decide)]
  omega
theorem halves1 (hp : Builtin.bitAnd n 1 ≠ 0) : n + 1 = (n + 1).fdiv (2 ^ (1 : Int).toNat) * 2 := by
  rw [bitAnd_m1] at hp
  have e : (2 : Int) ^ (1 : Int).toNat = 2 := by decide
  rw [e, Int.fdiv_eq_ediv_of_nonneg _ (by decide)]
  omega
theorem Pre2.padT (H : Pre2 a b n q r) : Pre2 (a * 2 ^ (1 : Int).toNat) (b * 2 ^ (1 : Int).toNat) (n + 1) q (r * 2) := H.pad
theorem halfLe {n h : Int} {j : Nat} (hn : n = h * 2) (hk : n ≤ 2 ^ (j + 1) + 1) : h ≤ 2 ^ j := by
  rw [Int.pow_succ] at hk; omega
theorem Pre2.fdm (H : Pre2 a b n q r) : a.fdiv b = q ∧ a.fmod b = r := by
  have h1 := H.r0; have h2 := H.r1
  rw [Int.fdiv_eq_ediv_of_nonneg _ (by omega), Int.fmod_eq_emod_of_nonneg _ (by omega)]
  exact kbt_unique (by omega) (by rw [H.e, Int.mul_comm]; omega) h1 h2
end
theorem half_z {prog : Program} {w : World} {A : Around} {E : Value → Shared → Prop} {s : Shared} {Q : Value → Shared → Prop} {n : Int} {t u : Tok} (he : n = n.fdiv (2 ^ (1 : Int).toNat) * 2) (h : ∀ z, n = z * 2 → Q (.int z s.toks) { s with toks := s.toks + 1 }) :
    wpAny (model prog w) A (binaryOp .RShift (.int n t) (.int 1 u)) Q E s := rshift_int (by decide) (h _ he)
theorem ihalf_z {prog : Program} {w : World} {A : Around} {E : Value → Shared → Prop} {s : Shared} {Q : Value → Shared → Prop} {r : Int} {t u : Tok} (h : Q (.int r s.toks) { s with toks := s.toks + 1 }) :
    wpAny (model prog w) A (inplaceOp .RShift (.int (r * 2) t) (.int 1 u)) Q E s := irshift_int (by decide) (by
  have e : (r * 2).fdiv (2 ^ (1 : Int).toNat) = r := by
    have e : (2 : Int) ^ (1 : Int).toNat = 2 := by decide
    rw [e, Int.fdiv_eq_ediv_of_nonneg _ (by decide)]
    omega
  rw [e]; exact h)
abbrev pairO (q r : Int) (t1 t2 : Tok) (c : Nat) : Obj := { cls := .type "tuple", data := .seq #[.int q t1, .int r t2] c }
theorem divmod_D {prog : Program} {w : World} {A : Around} {E : Value → Shared → Prop} {s : Shared} {a b q r : Int} {t u : Tok} {Q : Value → Shared → Prop} {h₀ : Heap} {L : Addr} {m : Str → Option Value} {news : List (Addr × Obj)} (F : Fr h₀ L s.heap m) (N : News h₀ L s.heap news) (hb : b ≠ 0) (hq : a.fdiv b = q ∧ a.fmod b = r)
    (hp : PySem.PylongRoom (model prog w) A s)
    (h : ∀ D t1 t2 h' tk, Fr h₀ L h' m → News h₀ L h' ((D, pairO q r t1 t2 0) :: news) → AllLt D news → Q (.ref D) { s with toks := tk, heap := h' }) :
    wpAny (model prog w) A (call (.builtin "divmod") [.int a t, .int b u]) Q E s := by
  refine divmod_N F N hb (fun h' F' N' => ?_) (Or.inr hp)
  rw [hq.1, hq.2] at N'
  exact h _ _ _ h' _ F' N' (allLt_of fun p hp => Heap.lt_size (N p hp).1)
end Mine
namespace Mine
open PySem.Builtin.Int (intBits)
theorem abs2 (k : Nat) : ((2 : Int) ^ k).natAbs = 2 ^ k := by rw [← kbt_cast, Int.natAbs_natCast]
inductive Abs (z : Int) : Prop where | mk
theorem abs_skip {M : Model} {A : Around} {env : Env} {x : Str} {z : Int} {t : Tok} {Q : Unit → Shared → Prop} {E : Value → Shared → Prop} {s : Shared} (_ : Abs z) (h : wpAny M A (storeName env x (.int z t)) Q E s) : wpAny M A (storeName env x (.int z t)) Q E s := h
theorem abs_store {M : Model} {A : Around} {env : Env} {x : Str} {e : Int} {t : Tok} {Q : Unit → Shared → Prop} {E : Value → Shared → Prop} {s : Shared} {N : Nat} (hb : intBits e ≤ N)
    (h : ∀ z, Abs z → z = e → intBits z ≤ N → wpAny M A (storeName env x (.int z t)) Q E s) : wpAny M A (storeName env x (.int e t)) Q E s := h e .mk rfl hb
section
variable {prog : Program} {w : World} {A : Around} {E : Value → Shared → Prop} {s : Shared} {a b : Int} {t u : Tok} {Q : Value → Shared → Prop}
theorem pow3_z {l : Int} {N : Nat} (hb : intBits l ≤ N) (hN : 2 * N ≤ 100000000) (h : ∀ z, Abs z → z = 3 ^ intBits l → intBits z ≤ 2 * N + 1 → Q (.int z s.toks) { s with toks := s.toks + 1 }) :
    wpAny (model prog w) A (binaryOp .Pow (.int 3 t) (.int (intBits l : Int) u)) Q E s := by
  refine pow_int (by omega) ?_ ?_
  · have e : intBits (3 : Int) = 2 := by decide
    rw [e]
    have : (2 : Int) ^ 27 = 134217728 := by decide
    omega
  · have e : ((intBits l : Int)).toNat = intBits l := by omega
    rw [e]
    refine h _ .mk rfl ?_
    refine Nat.le_trans (intBits_pow_le (m := 2) (by decide) _) ?_
    omega
theorem mod_p {N : Nat} (hc : 0 < b) (hb : intBits b ≤ N) (h : ∀ z, Abs z → z = a.fmod b → 0 ≤ z → z < b → intBits z ≤ N → Q (.int z s.toks) { s with toks := s.toks + 1 }) : wpAny (model prog w) A (binaryOp .Mod (.int a t) (.int b u)) Q E s := by
  have e : a.fmod b = a % b := Int.fmod_eq_emod_of_nonneg _ (Int.le_of_lt hc)
  have h0 := Int.emod_nonneg a (show b ≠ 0 by omega)
  have h1 := Int.emod_lt_of_pos a hc
  rw [← e] at h0 h1
  exact mod_int' (by omega) (h _ .mk rfl h0 h1 (bits_fmod_by (by omega) hb))
theorem pow2_p {e : Int} {N : Nat} (h0 : 0 ≤ e) (h1 : e ≤ N) (hN : N ≤ 10000000) (h : ∀ z, Abs z → z = 2 ^ e.toNat → 0 < z → intBits z ≤ N + 1 → Q (.int z s.toks) { s with toks := s.toks + 1 }) :
    wpAny (model prog w) A (binaryOp .Pow (.int 2 t) (.int e u)) Q E s := by
  refine pow_int h0 ?_ (h _ .mk rfl (kbt_pos _) ?_)
  · have e : intBits (2 : Int) = 2 := by decide
    rw [e]
    have : (2 : Int) ^ 27 = 134217728 := by decide
    omega
  · refine intBits_le_iff.mpr ?_
    have e1 := abs2 e.toNat
    rw [e1]
    exact Nat.pow_lt_pow_right (by decide) (by omega)
theorem shl_p {e x : Int} {N m : Nat} (h0 : 0 ≤ e) (hx : intBits x ≤ m) (h1 : e ≤ N) (hN : m + N ≤ 100000000) (h : ∀ z, Abs z → z = x * 2 ^ e.toNat → intBits z ≤ m + N → Q (.int z s.toks) { s with toks := s.toks + 1 }) :
    wpAny (model prog w) A (binaryOp .LShift (.int x t) (.int e u)) Q E s := by
  refine lshift_int h0 ?_ (h _ .mk rfl ?_)
  · have : (2 : Int) ^ 27 = 134217728 := by decide
    omega
  · by_cases hx0 : x = 0
    · subst hx0
      rw [Int.zero_mul]
      exact Nat.zero_le _
    refine intBits_le_iff.mpr ?_
    have e1 := abs2 e.toNat
    rw [Int.natAbs_mul, e1]
    have h2 := intBits_le_iff.mp hx
    have h3 : x.natAbs * 2 ^ e.toNat < 2 ^ m * 2 ^ e.toNat := Nat.mul_lt_mul_of_pos_right h2 (Nat.two_pow_pos _)
    rw [← Nat.pow_add] at h3
    exact Nat.lt_of_lt_of_le h3 (Nat.pow_le_pow_right (by decide) (by omega))
theorem shr_p {e x : Int} {m : Nat} (h0 : 0 ≤ e) (hx : intBits x ≤ m) (h : ∀ z, Abs z → z = x / 2 ^ e.toNat → intBits z ≤ m → Q (.int z s.toks) { s with toks := s.toks + 1 }) :
    wpAny (model prog w) A (binaryOp .RShift (.int x t) (.int e u)) Q E s := by
  have e1 := fdivP x e.toNat
  exact rshift_int h0 (by rw [e1]; exact h _ .mk rfl (by rw [← e1]; exact bits_fdiv hx))
theorem fdv_p {m : Nat} (hc : 0 < b) (hx : intBits a ≤ m) (hp : PySem.PylongRoom (model prog w) A s) (h : ∀ z, Abs z → z = a / b → intBits z ≤ m → Q (.int z s.toks) { s with toks := s.toks + 1 }) :
    wpAny (model prog w) A (binaryOp .FloorDiv (.int a t) (.int b u)) Q E s := by
  have e1 : a.fdiv b = a / b := Int.fdiv_eq_ediv_of_nonneg _ (Int.le_of_lt hc)
  exact floordiv_int (by omega) (by rw [e1]; exact h _ .mk rfl (by rw [← e1]; exact bits_fdiv hx)) (Or.inr hp)
end
theorem fmodB (a : Int) {b : Int} (h : 0 < b) : 0 ≤ a.fmod b ∧ a.fmod b < b := by
  rw [Int.fmod_eq_emod_of_nonneg _ (Int.le_of_lt h)]
  exact ⟨Int.emod_nonneg _ (by omega), Int.emod_lt_of_pos _ h⟩
theorem fdivE (a : Int) {b : Int} (h : 0 < b) : a.fdiv b = a / b := Int.fdiv_eq_ediv_of_nonneg _ (Int.le_of_lt h)
theorem fmodE (a : Int) {b : Int} (h : 0 < b) : a.fmod b = a % b := Int.fmod_eq_emod_of_nonneg _ (Int.le_of_lt h)
theorem Pre2.bq {a b n q r : Int} (H : Pre2 a b n q r) {N : Nat} (hn : n ≤ N) : intBits q ≤ N := Nat.le_trans (bits_of_lt H.q0 H.q1) (by have := H.n1; omega)
theorem Pre2.br {a b n q r : Int} (H : Pre2 a b n q r) {N : Nat} (hn : n ≤ N) : intBits r ≤ N := Nat.le_trans (bits_of_lt H.r0 (Int.lt_trans H.r1 H.b2)) (by have := H.n1; omega)
theorem eq_t {prog : Program} {w : World} {A : Around} {E : Value → Shared → Prop} {s : Shared} {a b : Int} {t u : Tok} {Q : Value → Shared → Prop} (e : a = b) (h : Q (.bool true) s) : wpAny (model prog w) A (compareOp .Eq (.int a t) (.int b u)) Q E s :=
  eq_int (by rw [e, beq_self_eq_true]; exact h)
theorem gen_toks {α : Type} {M : Model} {A : Around} {m : Sem α} {Q : α → Shared → Prop} {E : Value → Shared → Prop} {h : Heap} {g : Array GenState} {d : Drawn} {X : Nat} {o : OsState}
    (H : ∀ tk, wpAny M A m Q E { heap := h, gens := g, drawn := d, toks := tk, os := o }) : wpAny M A m Q E { heap := h, gens := g, drawn := d, toks := X, os := o } := H X
theorem mul_p {prog : Program} {w : World} {A : Around} {E : Value → Shared → Prop} {s : Shared} {a b : Int} {t u : Tok} {Q : Value → Shared → Prop} {m n : Nat} (ha : intBits a ≤ m) (hb : intBits b ≤ n) (h : m + n ≤ 134217728) (hq : Q (.int (a * b) s.toks) { s with toks := s.toks + 1 }) :
    wpAny (model prog w) A (binaryOp .Mult (.int a t) (.int b u)) Q E s := mul_int hq (mulOk_of_bits ha hb h)
end Mine
namespace Mine
section
variable {prog : Program} {w : World} {A : Around} {E : Value → Shared → Prop} {s : Shared} {env : Env} {h₀ : Heap} {x : Str} {body : List Stmt} {Q : Flow → Shared → Prop}
/-- a loop from behind over a list of ints that the call has made, by an invariant over the state -/
theorem kst_rev {σ : Type} {I l : Addr} {vs : List Value} {ns : List Int} {nn : Nat} {m₀ : Str → Option Value} (Led : σ → List (Addr × Obj)) (ps : σ → List (Str × Value)) (Facts : σ → Prop) (stored : List Str) (P : List Int → σ → Prop) (c₀ : σ) {all : List (Addr × Obj)}
    (hh : A.handled = none) (hi : IntsAre vs ns) (F : Fr h₀ env.locals s.heap m₀) (NA : News h₀ env.locals s.heap all) (hI : (I, revObj l ((vs.length : Int) - 1)) ∈ all) (hl : (l, listOf vs.toArray nn) ∈ all) (hne : l ≠ I) (N : News h₀ env.locals s.heap (Led c₀)) (hoff : ∀ p ∈ Led c₀, p.1 ≠ I ∧ p.1 ≠ l) (hf : Facts c₀) (hk : ∀ p ∈ ps c₀, m₀ p.1 = some p.2) (hp : P [] c₀)
    (turn : ∀ (c : σ) pre post n t (u : Str → Option Value) h tk own, ns.reverse = pre ++ n :: post → n ∈ ns → OwnOff own ((Led c₀).map (·.1)) → Facts c → P pre c →
      Fr h₀ env.locals h (fun y => if y = x then some (.int n t) else kstB (fun z => if stored.contains z then u z else m₀ z) (ps c) y) → News h₀ env.locals h (Led c ++ own) →
      wpAny (model prog w) A (execs body env) (InvPostN h₀ env.locals (KstS Led ps Facts x stored m₀ P (pre ++ [n])) own ((Led c₀).map (·.1)) { s with heap := h, toks := tk } Q) E { s with heap := h, toks := tk })
    (done : ∀ (c : σ) (u : Str → Option Value) h tk, Facts c → P ns.reverse c → Fr h₀ env.locals h (fun y => if y = x then u y else kstB (fun z => if stored.contains z then u z else m₀ z) (ps c) y) → News h₀ env.locals h (Led c) → Q .next { s with heap := h, toks := tk }) :
    wpAny (model prog w) A (pyIter (.ref I)) (fun it s₂ => LoopAtV prog w A h₀ env x body Q E it s₂) E s := by
  have hIx := NA _ hI
  have hlx := NA _ hl
  have hL : s.heap.IsList l vs.toArray := ⟨_, hlx.1, rfl, nn, rfl⟩
  have hit : s.heap.IsRevIter I l ((vs.length : Int) - 1) := ⟨_, hIx.1, rfl, rfl⟩
  refine wpAny_pyIter_revIter hit ?_
  have W := Walks.listRev (prog := prog) (w := w) hh I l hne vs.toArray
  have hlen : vs.toArray.size = ns.length := by simp [hi.length]
  rw [hlen] at W
  have hr : ns.reverse.length = ns.length := List.length_reverse
  refine loop_invN (fun i m nx => KstS Led ps Facts x stored m₀ P (ns.reverse.take i) m nx) W ?_ ?_ ?_ ?_ ?_ F N ⟨c₀, rfl, hf, hk, fun _ _ _ _ => rfl, by simpa using hp⟩ ?_ ?_
  · intro hm
    rcases List.mem_cons.mp hm with e | hm
    · exact hIx.2.1 e.symm
    · exact hlx.2.1 (List.mem_singleton.mp hm).symm
  · intro b hb
    rw [List.mem_singleton.mp hb]
    exact hIx.2.2
  · intro p hp hm
    exact (hoff p hp).1 (List.mem_singleton.mp hm)
  · intro p hp hm
    rcases List.mem_cons.mp hm with e | hm
    · exact (hoff p hp).1 e
    · exact (hoff p hp).2 (List.mem_singleton.mp hm)
  · refine ⟨Nat.zero_le _, ?_, hL⟩
    have e : ((ns.length : Nat) : Int) - 1 - ((0 : Nat) : Int) = (vs.length : Int) - 1 := by rw [hi.length]; omega
    rw [e]
    exact hit
  · rintro i v m₁ nx h tk own hin hP _ hoff' ⟨c, rfl, hf', h1, h2, hp'⟩ F₁ N₁
    have hlt' : i < ns.reverse.length := by rw [hr]; exact hin
    have hP2 : vs.toArray[ns.length - 1 - i]? = some v := hP
    have hget : ns[ns.length - 1 - i]? = some ns.reverse[i] := by
      rw [List.getElem_reverse]
      exact List.getElem?_eq_getElem (by omega)
    obtain ⟨t, hx⟩ := hi.get _ _ hget
    have hv : v = .int ns.reverse[i] t := by
      have : vs[ns.length - 1 - i]? = some v := by simpa using hP2
      rw [hx] at this; exact (Option.some.inj this).symm
    subst hv
    have hn : ns.reverse[i]? = some ns.reverse[i] := List.getElem?_eq_getElem hlt'
    have hs : ns.reverse.take (i + 1) = ns.reverse.take i ++ [ns.reverse[i]] := by rw [List.take_add_one, hn]; rfl
    have e : ns.reverse = ns.reverse.take i ++ ns.reverse[i] :: ns.reverse.drop (i + 1) := by
      have ht := List.take_append_drop (i + 1) ns.reverse
      rw [hs, List.append_assoc] at ht
      exact ht.symm
    have key := turn c _ _ ns.reverse[i] t m₁ h tk own e (List.mem_reverse.mp (List.getElem_mem hlt')) hoff' hf' hp' (kst_fr h1 h2 F₁) N₁
    have goalE : (fun m nx => KstS Led ps Facts x stored m₀ P (ns.reverse.take (i + 1)) m nx) = KstS Led ps Facts x stored m₀ P (ns.reverse.take i ++ [ns.reverse[i]]) := by rw [hs]
    rw [goalE]
    exact key
  · rintro m₁ nx h tk ⟨c, rfl, hf', h1, h2, hp'⟩ F₁ N₁
    rw [List.take_of_length_le (by rw [hr]; exact Nat.le_refl _)] at hp'
    exact done c m₁ h tk hf' hp' (kst_frOut h1 h2 F₁) N₁
end
end Mine
namespace Mine
section
variable {prog : Program} {w : World} {A : Around} {E : Value → Shared → Prop} {s : Shared} {env : Env} {h₀ : Heap} {x : Str} {body : List Stmt} {Q : Flow → Shared → Prop}
/-- a loop over a range that changes nothing that is asked behind it -/
theorem rng0 {r : Addr} {a₀ b₀ : Int} {t₀ u₀ v₀ : Tok} {n : Nat} {m₀ : Str → Option Value} {news : List (Addr × Obj)} (stored : List Str)
    (hh : A.handled = none) (F : Fr h₀ env.locals s.heap m₀) (N : News h₀ env.locals s.heap news) (hr : IsRange s.heap r a₀ b₀ 1 t₀ u₀ v₀) (hsmall : Builtin.Range.small a₀ b₀ 1 = true) (hn : Builtin.Range.rangeSize a₀ b₀ 1 = (n : Int))
    (turn : ∀ (k : Int) t (u : Str → Option Value) h tk own, a₀ ≤ k → k < a₀ + n → OwnOff own (news.map (·.1)) →
      Fr h₀ env.locals h (fun y => if y = x then some (.int k t) else if stored.contains y then u y else m₀ y) → News h₀ env.locals h (news ++ own) →
      wpAny (model prog w) A (execs body env) (InvPostN h₀ env.locals (KstS (σ := Unit) (fun _ => news) (fun _ => []) (fun _ => True) x stored m₀ (fun _ _ => True) [k]) own (news.map (·.1)) { s with heap := h, toks := tk } Q) E { s with heap := h, toks := tk })
    (done : ∀ (u : Str → Option Value) h tk, Fr h₀ env.locals h (fun y => if y = x then u y else if stored.contains y then u y else m₀ y) → News h₀ env.locals h news → Q .next { s with heap := h, toks := tk }) :
    wpAny (model prog w) A (pyIter (.ref r)) (fun it s₂ => LoopAtV prog w A h₀ env x body Q E it s₂) E s := by
  refine kst_range (σ := Unit) (fun _ => news) (fun _ => []) (fun _ => True) stored (fun _ _ => True) () hh hr hsmall hn F N trivial (List.forall_mem_nil _) trivial ?_ ?_
  · intro c pre k t u h tk own hk hlt hoff _ _ F' N'
    refine wpAny_mono (turn k t u h tk own (by omega) (by omega) hoff F' N') (fun f s₂ p => ?_) fun _ _ e => e
    cases f with
    | ret v => exact p
    | brk => exact p
    | next => exact p
    | cont => exact p
  · intro c u h tk _ _ F' N'
    exact done u h tk F' N'
end
end Mine
namespace Mine
set_option maxRecDepth 100000
set_option maxHeartbeats 8000000
open_top hd for PySem.Challenge.rw_dn0134_05
end Mine
namespace Mine
def PairCall (prog : Program) (w : World) (K : Frag) (p : Program) (loose : List Str) (mean : ExcName → Option Value) (mg mb : Str → Option Value) (f : Addr) (vs : List Value) (q r : Int) (k : Nat) : Prop :=
  ∀ (dp un : Nat) (gd : Option (List Code)) (cn : Str) (cs : Scope) (a : Addr) (ccd : Value) (cl : List (Str × Addr)) (outer : List Env) (A₀ : Around) (base h₀ : Heap) (L : Addr) (m : Str → Option Value) (news : List (Addr × Obj)) (s : Shared)
    (Q E : Value → Shared → Prop),
    Below A₀ base outer h₀ → Fr h₀ L s.heap m → K.In h₀ → News h₀ L s.heap news → Top p loose mean mg mb h₀ → cs.kind = .function → dp + k + 104 < recursionLimit → un + 8 * k + 100 < cLine →
    (∀ D t1 t2 c h' tk', Fr h₀ L h' m → News h₀ L h' ((D, pairO q r t1 t2 c) :: news) → AllLt D news → Q (.ref D) { s with heap := h', toks := tk' }) →
    wpAny (model prog w) (ktrTop dp un gd cn cs L a ccd cl outer) (call (.ref f) vs) Q E s

theorem pair_use {prog : Program} {w : World} {K : Frag} {p : Program} {loose : List Str} {mean : ExcName → Option Value} {mg mb : Str → Option Value} {f : Addr} {vs : List Value} {q r : Int} {k : Nat}
   {dp un : Nat} {gd : Option (List Code)} {cn : Str} {cs : Scope} {a : Addr} {ccd : Value} {cl : List (Str × Addr)} {outer : List Env} {A₀ : Around} {base h₀ : Heap} {L : Addr} {m : Str → Option Value} {news : List (Addr × Obj)} {s : Shared} {Q E : Value → Shared → Prop}
   (B : Below A₀ base outer h₀) (F : Fr h₀ L s.heap m) (X : K.In h₀) (N : News h₀ L s.heap news) (T : Top p loose mean mg mb h₀) (hk : cs.kind = .function) (C : PairCall prog w K p loose mean mg mb f vs q r k)
   (hd : dp + k + 104 < recursionLimit) (hu : un + 8 * k + 100 < cLine)
   (ret : ∀ D t1 t2 c h' tk', Fr h₀ L h' m → News h₀ L h' ((D, pairO q r t1 t2 c) :: news) → AllLt D news → Q (.ref D) { s with heap := h', toks := tk' }) :
    wpAny (model prog w) (ktrTop dp un gd cn cs L a ccd cl outer) (call (.ref f) vs) Q E s := C _ _ _ _ _ _ _ _ _ _ _ _ _ _ _ _ _ _ B F X N T hk hd hu ret

section
variable (w : World) (mean : ExcName → Option Value) (mg mb : Str → Option Value)
abbrev PC := PairCall PySem.Challenge.rw_dn0134_05.row.prog w (hd.heap_39 w.params) hd.view_39 (looseW hd.view_39 []) mean mg mb
def Div2 (k : Nat) : Prop := ∀ (a b n q r : Int) (t u v : Tok), Pre2 a b n q r → n ≤ 2 ^ k → k ≤ 19 → PC w mean mg mb 21 [.int a t, .int b u, .int n v] q r (2 * k + 2)
def Div3 (k : Nat) : Prop := ∀ (a12 a3 b b1 b2 n q r : Int) (t1 t2 t3 t4 t5 t6 : Tok), Pre3 a12 a3 b b1 b2 n q r → n ≤ 2 ^ k → k ≤ 19 → PC w mean mg mb 28 [.int a12 t1, .int a3 t2, .int b t3, .int b1 t4, .int b2 t5, .int n t6] q r (2 * k + 3)
end
end Mine
namespace Mine
open PySem.Builtin.Int (intBits)
local macro_rules | `(tactic| bits_by_make) => `(tactic| with_reducible assumption)
local macro_rules | `(tactic| walk_at "exec While Compare cons cons") => `(tactic| k_extra "mywhile")
local macro_rules | `(tactic| walk_at "exec While Compare cons nil") => `(tactic| k_extra "mywhile")
set_option maxRecDepth 100000 in
set_option maxHeartbeats 8000000 in
theorem div3_step (w : World) (mean : ExcName → Option Value) (mg mb : Str → Option Value) (k : Nat) (H : Div2 w mean mg mb k) : Div3 w mean mg mb k := by
  (have hh : PySem.Challenge.rw_dn0134_05 = PySem.Challenge.rw_dn0134_05 ∧ hd.heap_39 = hd.heap_39 := by (k_fill; exact ⟨rfl, rfl⟩))
  clear hh
  k_with_none
  intro a12 a3 b b1 b2 n q r t1 t2 t3 t4 t5 t6 P hn hk19
  have hn19 : n ≤ 524288 := Int.le_trans hn (pmono hk19)
  have hn1 := P.n1
  have hbp : intBits ((2 : Int) ^ n.toNat) ≤ 600000 := Nat.le_trans (bits_of_lt (k := n.toNat + 1) (Int.le_of_lt (ppos _)) (by rw [Int.pow_succ]; have := ppos n.toNat; omega)) (by omega)
  have hbb1 : intBits b1 ≤ 600000 := Nat.le_trans (bits_of_lt (by have := ppos (n.toNat - 1); have := P.b10; omega) P.b11) (by omega)
  have hbb2 : intBits b2 ≤ 600000 := Nat.le_trans (bits_of_lt P.b20 P.b21) (by omega)
  have hba : intBits a12 ≤ 5000000 := bits_of_natAbs_le (b := b) (by have := P.a12b; omega) (by rw [P.e]; exact Nat.le_trans (bits_add (bits_mul hbb1 hbp) hbb2) (by decide))
  unfold PC PairCall
  intro dp un gd cn cs a ccd cl outer A₀ base h₀ L m news s Q E B F X N T hk hd hu hret
  k_with "call ref" => (
    obtain ⟨q', r', hP'⟩ := P.neCase (by rw [← fdivP]; assumption)
    have hbr : intBits r' ≤ 600000 := Nat.le_trans (bits_of_lt hP'.r0 (Int.lt_trans hP'.r1 hP'.b2)) (by omega)
    have hbq : intBits q' ≤ 600000 := Nat.le_trans (bits_of_lt hP'.q0 hP'.q1) (by omega)
    (refine' pair_use ?k1 ?k2 ?k3 ?k4 ?k5 ?kK (H _ _ _ q' r' _ _ _ hP' hn hk19) ?kd ?ku ?_)
    (case k1 => k_asm)
    (case k2 => k_asm)
    (case k3 => k_asm)
    (case k4 => k_asm)
    (case k5 => k_asm)
    (case kK => exact rfl)
    (case kd => ktr_room)
    (case ku => ktr_units)
    intro D' x1 x2 c' h' tk' F' N' l'
    (try dsimp only)
    (try k_fold))
  k_with "mywhile" => (k_while (fun _ x y => y * b + x = q * b + r ∧ x < b) (fun _ x y => (- x).toNat) "r" "q")
  k_with "state" => (first | exact P.start1 (by assumption) | exact P.start2 (by assumption) | exact d3_turn ⟨by assumption, by assumption⟩ (by assumption))
  have hb0 : 0 < b := by have := P.r0; have := P.r1; omega
  refine wpAny_call ?_
  k_dflt ktr_enter
  k_steps
  all_goals (
    obtain ⟨e1, e2⟩ := P.fin (by assumption) (by assumption) (by assumption)
    subst e1
    subst e2
    refine hret _ _ _ _ _ _ (by k_asm) (news_sub (by k_asm) (sub0 (sub1 subr))) ?_
    first | assumption | exact And.right (by assumption))
end Mine
namespace Mine
open PySem.Builtin.Int (intBits)
local macro_rules | `(tactic| bits_by_make) => `(tactic| with_reducible assumption)
local macro_rules | `(tactic| walk_at "binaryOp RShift int int") => `(tactic| k_extra "half")
local macro_rules | `(tactic| walk_at "inplaceOp RShift int int") => `(tactic| with_reducible refine ihalf_z ?_)
local macro_rules | `(tactic| walk_at "inplaceOp LShift int int") => `(tactic| (with_reducible refine ilshift_int ?kbn ?kbs ?_; (case kbn => decide); (case kbs => refine kbm_shl (m := 2000000) (Nat.le_trans (by with_reducible assumption) ?_) ?_ ?_ <;> decide)))
local macro_rules | `(tactic| walk_at "call builtin:divmod") => `(tactic| k_extra "mydiv")
set_option maxRecDepth 100000 in
set_option maxHeartbeats 8000000 in
theorem div2_step (w : World) (mean : ExcName → Option Value) (mg mb : Str → Option Value) (k : Nat) (H : ∀ j, k = j + 1 → Div3 w mean mg mb j) : Div2 w mean mg mb k := by
  (have hh : PySem.Challenge.rw_dn0134_05 = PySem.Challenge.rw_dn0134_05 ∧ hd.heap_39 = hd.heap_39 := by (k_fill; exact ⟨rfl, rfl⟩))
  clear hh
  k_with_none
  intro a b n q r t1 t2 t3 P hn hk19
  have hn19 : n ≤ 524288 := Int.le_trans hn (pmono hk19)
  have hn1 := P.n1
  have hba : intBits a ≤ 1200000 := Nat.le_trans (bits_of_lt P.a0 P.alt) (by omega)
  have hbb : intBits b ≤ 600000 := Nat.le_trans (bits_of_lt (by have := P.r0; have := P.r1; omega) P.b2) (by omega)
  have hb0 : b ≠ 0 := by have := P.r0; have := P.r1; omega
  unfold PC PairCall
  intro dp un gd cn cs aa ccd cl outer A₀ base h₀ L m news s Q E B F X N T hk hd hu hret
  k_with "half" => (first
    | (with_reducible refine half_z (halves0 (by assumption)) ?_; intro hz ez)
    | (with_reducible refine half_z (halves1 (by assumption)) ?_; intro hz ez))
  k_with "mydiv" => (
    (refine' divmod_D ?k1 ?k2 hb0 P.fdm (PySem.PylongRoom.of (PySem.Heap.NoLimit.keeps (PyProof.Rows.Top.nolimit (by assumption)) (PyProof.Rows.Fr.keep (by assumption))) ?kd) ?_)
    (case k1 => k_asm)
    (case k2 => k_asm)
    (case kd => (simp only [Builtin.pylongFrames]; ktr_room))
    intro D' x1 x2 h' tk' F' N' l'
    (try dsimp only)
    (try k_fold))
  k_with "call ref" => (first
    | (
      (refine' pair_use ?k1 ?k2 ?k3 ?k4 ?k5 ?kK (hJ _ _ _ _ _ _ q2 _ _ _ _ _ _ _ h2 hjz hj19) ?kd ?ku ?_)
      (case k1 => k_asm)
      (case k2 => k_asm)
      (case k3 => k_asm)
      (case k4 => k_asm)
      (case k5 => k_asm)
      (case kK => exact rfl)
      (case kd => ktr_room)
      (case ku => ktr_units)
      intro D' x1 x2 c' h' tk' F' N' l'
      (try dsimp only)
      (try k_fold))
    | (
      obtain ⟨j, hj⟩ : ∃ j, k = j + 1 := ⟨k - 1, by have := P.big (by assumption); have : k ≠ 0 := (by intro e; subst e; simp at hn; omega); omega⟩
      have hJ := H j hj
      have hj19 : j ≤ 19 := by omega
      have hjz : hz ≤ 2 ^ j := halfLe ez (by rw [← hj]; omega)
      obtain ⟨q1, r1, q2, h1, h2, h3⟩ := (by first | exact P.halvesT ez | exact P.padT.halvesT ez : ∃ q1 r1 q2, _ ∧ _ ∧ _)
      have hbq1 : intBits q1 ≤ 600000 := Nat.le_trans (bits_of_lt h1.q0 h1.q1) (by omega)
      (refine' pair_use ?k1 ?k2 ?k3 ?k4 ?k5 ?kK (hJ _ _ _ _ _ _ q1 r1 _ _ _ _ _ _ h1 hjz hj19) ?kd ?ku ?_)
      (case k1 => k_asm)
      (case k2 => k_asm)
      (case k3 => k_asm)
      (case k4 => k_asm)
      (case k5 => k_asm)
      (case kK => exact rfl)
      (case kd => ktr_room)
      (case ku => ktr_units)
      intro D' x1 x2 c' h' tk' F' N' l'
      (try dsimp only)
      (try k_fold)))
  refine wpAny_call ?_
  k_dflt ktr_enter
  k_steps
  all_goals (first
    | exact absurd ‹Builtin.bitAnd n 1 = 0› ‹Builtin.bitAnd n 1 ≠ 0›
    | exact hret _ _ _ _ _ _ (by k_asm) (by k_asm) (by assumption)
    | (subst h3; refine hret _ _ _ _ _ _ (by k_asm) (news_sub (by k_asm) (sub0 (sub1 (sub1 (sub1 subr))))) ?_; exact (And.right (And.right (And.right (by assumption))))))
theorem div_all (w : World) (mean : ExcName → Option Value) (mg mb : Str → Option Value) : ∀ k, Div2 w mean mg mb k ∧ Div3 w mean mg mb k
  | 0 => have h := div2_step w mean mg mb 0 (fun j e => by omega); ⟨h, div3_step w mean mg mb 0 h⟩
  | k + 1 => have h := div2_step w mean mg mb (k + 1) (fun j e => by obtain rfl : k = j := by omega
                                                                     exact (div_all w mean mg mb k).2); ⟨h, div3_step w mean mg mb (k + 1) h⟩
theorem use2 {w : World} {mean : ExcName → Option Value} {mg mb : Str → Option Value} {a b n q r : Int} {t u v : Tok} (h : Pre2 a b n q r) (hn : n ≤ 262144) : PC w mean mg mb 21 [.int a t, .int b u, .int n v] q r 38 := (div_all w mean mg mb 18).1 a b n q r t u v h hn (by decide)
theorem use3 {w : World} {mean : ExcName → Option Value} {mg mb : Str → Option Value} {a12 a3 b b1 b2 n q r : Int} {t1 t2 t3 t4 t5 t6 : Tok} (h : Pre3 a12 a3 b b1 b2 n q r) (hn : n ≤ 262144) : PC w mean mg mb 28 [.int a12 t1, .int a3 t2, .int b t3, .int b1 t4, .int b2 t5, .int n t6] q r 39 := (div_all w mean mg mb 18).2 a12 a3 b b1 b2 n q r t1 t2 t3 t4 t5 t6 h hn (by decide)
end Mine
-- PARTS: math.txt math_rev.txt div.txt
namespace Mine
open PySem.Builtin.Int (intBits)
def lseq (a b P s : Int) : Nat → Int
  | 0 => a
  | 1 => b
  | n + 2 => P * lseq a b P s (n + 1) + s * lseq a b P s n
def ltl (a b P s : Int) (k : Nat) : List Int := (List.range k).map (lseq a b P s)
theorem ltl_len (a b P s : Int) (k : Nat) : (ltl a b P s k).length = k := by simp [ltl]
theorem ltl_succ (a b P s : Int) (k : Nat) : ltl a b P s (k + 1) = ltl a b P s k ++ [lseq a b P s k] := by simp [ltl, List.range_succ]
theorem ltl_get {a b P s : Int} {k i : Nat} (h : i < k) : (ltl a b P s k).getD i 0 = lseq a b P s i := by simp [ltl, List.getD, h]
/-- the bits of a term -/
theorem lseq_bits {a b P s : Int} {m : Nat} (ha : intBits a ≤ m) (hb : intBits b ≤ m) (hP : intBits P ≤ m) (hs : s = 1 ∨ s = -1) : ∀ n : Nat, intBits (lseq a b P s n) ≤ (m + 1) * (n + 1) ∧ intBits (lseq a b P s (n + 1)) ≤ (m + 1) * (n + 2)
  | 0 => ⟨by rw [lseq]; omega, by rw [lseq]; omega⟩
  | n + 1 => by
    have ih := lseq_bits ha hb hP hs n
    refine ⟨Nat.le_trans ih.2 (Nat.le_of_eq (by rw [Nat.add_assoc])), ?_⟩
    rw [lseq]
    have h1 := bits_mul hP ih.2
    have h2 : intBits (s * lseq a b P s n) ≤ (m + 1) * (n + 1) := by
      have ih1 := ih.1
      rcases hs with h | h
      · subst h; rw [Int.one_mul]; exact ih1
      · subst h; rw [Int.neg_mul, Int.one_mul]; exact bits_neg ih1
    refine Nat.le_trans (bits_add h1 h2) ?_
    have e1 : (m + 1) * (n + 2) = (m + 1) * (n + 1) + (m + 1) := Nat.mul_succ ..
    have e2 : (m + 1) * (n + 1 + 2) = (m + 1) * (n + 2) + (m + 1) := Nat.mul_succ ..
    omega
section
variable {P : Int}
/-- the terms grow -/
theorem up_grow (hP : 1 ≤ P) : ∀ n : Nat, 0 ≤ lseq 0 1 P 1 n ∧ 1 ≤ lseq 0 1 P 1 (n + 1) ∧ lseq 0 1 P 1 n ≤ lseq 0 1 P 1 (n + 1)
  | 0 => ⟨Int.le_refl 0, Int.le_refl 1, by show (0 : Int) ≤ 1; decide⟩
  | n + 1 => by
    have ih := up_grow hP n
    have e : lseq 0 1 P 1 (n + 1 + 1) = P * lseq 0 1 P 1 (n + 1) + 1 * lseq 0 1 P 1 n := by rw [lseq]
    have h : 1 * lseq 0 1 P 1 (n + 1) ≤ P * lseq 0 1 P 1 (n + 1) := mul_le_of (by omega) hP
    omega
theorem dn_grow (hP : 2 ≤ P) : ∀ n : Nat, 0 ≤ lseq 0 1 P (-1) n ∧ 1 ≤ lseq 0 1 P (-1) (n + 1) ∧ lseq 0 1 P (-1) n + 1 ≤ lseq 0 1 P (-1) (n + 1)
  | 0 => ⟨Int.le_refl 0, Int.le_refl 1, Int.le_refl 1⟩
  | n + 1 => by
    have ih := dn_grow hP n
    have e : lseq 0 1 P (-1) (n + 1 + 1) = P * lseq 0 1 P (-1) (n + 1) + (-1) * lseq 0 1 P (-1) n := by rw [lseq]
    have h : 2 * lseq 0 1 P (-1) (n + 1) ≤ P * lseq 0 1 P (-1) (n + 1) := mul_le_of (by omega) hP
    omega
/-- the companion by the sequence -/
theorem comp_eq (s : Int) : ∀ n : Nat, lseq 2 P P s (n + 1) = lseq 0 1 P s (n + 2) + s * lseq 0 1 P s n ∧ lseq 2 P P s (n + 2) = lseq 0 1 P s (n + 3) + s * lseq 0 1 P s (n + 1)
  | 0 => ⟨by simp [lseq], by simp [lseq]; grind⟩
  | n + 1 => by
    have ih := comp_eq s n
    refine ⟨ih.2, ?_⟩
    have e1 : lseq 2 P P s (n + 1 + 2) = P * lseq 2 P P s (n + 2) + s * lseq 2 P P s (n + 1) := by rw [lseq]
    have e2 : lseq 0 1 P s (n + 1 + 3) = P * lseq 0 1 P s (n + 3) + s * lseq 0 1 P s (n + 2) := by rw [lseq]
    have e3 : lseq 0 1 P s (n + 1 + 1) = P * lseq 0 1 P s (n + 1) + s * lseq 0 1 P s n := by rw [lseq]
    rw [e1, e2, e3, ih.1, ih.2]
    grind
/-- U(m+k) = V(k) U(m) - (-s)^k U(m-k) -/
theorem lucas (s : Int) (m : Nat) : ∀ k : Nat, (∀ j, j + k = m → lseq 0 1 P s (m + k) = lseq 2 P P s k * lseq 0 1 P s m - (-s) ^ k * lseq 0 1 P s j) ∧
    (∀ j, j + (k + 1) = m → lseq 0 1 P s (m + (k + 1)) = lseq 2 P P s (k + 1) * lseq 0 1 P s m - (-s) ^ (k + 1) * lseq 0 1 P s j)
  | 0 => by
    refine ⟨fun j e => ?_, fun j e => ?_⟩
    · obtain rfl : j = m := by omega
      rw [Nat.add_zero, lseq, Int.pow_zero]; omega
    · subst e
      have e1 : lseq 0 1 P s (j + (0 + 1) + (0 + 1)) = P * lseq 0 1 P s (j + 1) + s * lseq 0 1 P s j := by rw [← lseq]
      rw [e1]
      have e2 : lseq 2 P P s (0 + 1) = P := rfl
      have e3 : (-s) ^ (0 + 1) = -s := by rw [Int.pow_succ, Int.pow_zero, Int.one_mul]
      rw [e2, e3, Int.neg_mul]
      have e4 : j + (0 + 1) = j + 1 := rfl
      rw [e4]; omega
  | k + 1 => by
    have ih := lucas s m k
    refine ⟨ih.2, fun j e => ?_⟩
    have h1 := ih.2 (j + 1) (by omega)
    have h2 := ih.1 (j + 2) (by omega)
    have e1 : lseq 0 1 P s (m + (k + 1 + 1)) = P * lseq 0 1 P s (m + (k + 1)) + s * lseq 0 1 P s (m + k) := by
      have : m + (k + 1 + 1) = (m + k) + 2 := by omega
      rw [this, lseq]; rfl
    have e2 : lseq 2 P P s (k + 1 + 1) = P * lseq 2 P P s (k + 1) + s * lseq 2 P P s k := by rw [← lseq]
    have e3 : lseq 0 1 P s (j + 2) = P * lseq 0 1 P s (j + 1) + s * lseq 0 1 P s j := by rw [← lseq]
    have e4 : (-s) ^ (k + 1 + 1) = (-s) ^ k * (-s) * (-s) := by rw [Int.pow_succ, Int.pow_succ]
    have e5 : (-s) ^ (k + 1) = (-s) ^ k * (-s) := by rw [Int.pow_succ]
    rw [e1, h1, h2, e2, e3, e4, e5]
    generalize (-s) ^ k = e
    grind
theorem up_mono (hP : 1 ≤ P) {i j : Nat} (h : i ≤ j) : lseq 0 1 P 1 i ≤ lseq 0 1 P 1 j := by
  induction h with
  | refl => exact Int.le_refl _
  | step _ ih => exact Int.le_trans ih (up_grow hP _).2.2
theorem dn_mono (hP : 2 ≤ P) {i j : Nat} (h : i ≤ j) : lseq 0 1 P (-1) i ≤ lseq 0 1 P (-1) j := by
  induction h with
  | refl => exact Int.le_refl _
  | @step m _ ih => exact Int.le_trans ih (by have h : lseq 0 1 P (-1) m + 1 ≤ lseq 0 1 P (-1) m.succ := (dn_grow hP m).2.2
                                              omega)
theorem up_pos (hP : 1 ≤ P) {i : Nat} (h : 1 ≤ i) : 1 ≤ lseq 0 1 P 1 i := by
  obtain ⟨n, rfl⟩ : ∃ n, i = n + 1 := ⟨i - 1, by omega⟩
  exact (up_grow hP n).2.1
theorem dn_pos (hP : 2 ≤ P) {i : Nat} (h : 1 ≤ i) : 1 ≤ lseq 0 1 P (-1) i := by
  obtain ⟨n, rfl⟩ : ∃ n, i = n + 1 := ⟨i - 1, by omega⟩
  exact (dn_grow hP n).2.1
theorem up_comp (hP : 1 ≤ P) {m k : Nat} (hm : 3 ≤ m) (hk : k + 2 ≤ m) : 1 ≤ lseq 2 P P 1 k ∧ lseq 2 P P 1 k ≤ lseq 0 1 P 1 m := by
  cases k with
  | zero =>
    have h := up_mono hP (show 3 ≤ m from hm)
    have e : lseq 0 1 P 1 3 = P * (P * 1 + 1 * 0) + 1 * 1 := rfl
    have h2 : 1 * 1 ≤ P * P := Int.mul_le_mul hP hP (by decide) (by omega)
    have e2 : P * (P * 1 + 1 * 0) = P * P := by grind
    have e3 : lseq 2 P P 1 0 = 2 := rfl
    rw [e3]; omega
  | succ n =>
    have h := (comp_eq (P := P) 1 n).1
    have h1 := up_mono hP (show n + 3 ≤ m by omega)
    have h2 : lseq 0 1 P 1 (n + 3) = P * lseq 0 1 P 1 (n + 2) + 1 * lseq 0 1 P 1 (n + 1) := by rw [← lseq]
    have h3 : 0 ≤ lseq 0 1 P 1 (n + 1) ∧ 1 ≤ lseq 0 1 P 1 (n + 2) ∧ lseq 0 1 P 1 (n + 1) ≤ lseq 0 1 P 1 (n + 2) := up_grow hP (n + 1)
    have h4 := up_grow hP n
    have h5 : 1 * lseq 0 1 P 1 (n + 2) ≤ P * lseq 0 1 P 1 (n + 2) := mul_le_of (by have := h3.2.1; omega) hP
    omega
theorem dn_comp (hP : 2 ≤ P) {m k : Nat} (hm : 3 ≤ m) (hk : k + 2 ≤ m) : 1 ≤ lseq 2 P P (-1) k ∧ lseq 2 P P (-1) k ≤ lseq 0 1 P (-1) m := by
  cases k with
  | zero =>
    have h := dn_mono hP (show 2 ≤ m by omega)
    have e : lseq 0 1 P (-1) 2 = P * 1 + (-1) * 0 := rfl
    have e3 : lseq 2 P P (-1) 0 = 2 := rfl
    rw [e3]; omega
  | succ n =>
    have h := (comp_eq (P := P) (-1) n).1
    have h1 := dn_mono hP (show n + 2 ≤ m by omega)
    have h3 : 0 ≤ lseq 0 1 P (-1) (n + 1) ∧ 1 ≤ lseq 0 1 P (-1) (n + 2) ∧ lseq 0 1 P (-1) (n + 1) + 1 ≤ lseq 0 1 P (-1) (n + 2) := dn_grow hP (n + 1)
    have h4 := dn_grow hP n
    omega
theorem bits_range {x : Int} (h : 0 < x) : 1 ≤ intBits x ∧ 2 ^ (intBits x - 1) ≤ x ∧ x < 2 ^ intBits x := by
  have h1 := lt_of_bits (Nat.le_refl (intBits x))
  have h0 : 1 ≤ intBits x := by
    rcases Nat.eq_zero_or_pos (intBits x) with e | e
    · rw [e] at h1; simp at h1; omega
    · exact e
  refine ⟨h0, ?_, h1⟩
  rcases Int.lt_or_le x (2 ^ (intBits x - 1)) with h2 | h2
  · have := bits_of_lt (by omega) h2; omega
  · exact h2
theorem law5_up {m k j : Nat} (hP : 1 ≤ P) (hm : 3 ≤ m) (hk : k + 2 ≤ m) (hj : j + k = m) :
    (k % 2 = 1 → Pre2 (lseq 0 1 P 1 (m + k)) (lseq 0 1 P 1 m) (intBits (lseq 0 1 P 1 m)) (lseq 2 P P 1 k) (lseq 0 1 P 1 j)) ∧
    (k % 2 = 0 → Pre2 (lseq 0 1 P 1 (m + k)) (lseq 0 1 P 1 m) (intBits (lseq 0 1 P 1 m)) (lseq 2 P P 1 k - 1) (lseq 0 1 P 1 m - lseq 0 1 P 1 j)) := by
  have e := (lucas (P := P) 1 m k).1 j hj
  have hc := up_comp hP hm hk
  have hp := up_pos hP (show 1 ≤ m by omega)
  have hb := bits_range (x := lseq 0 1 P 1 m) (by omega)
  have hj0 := up_pos hP (show 1 ≤ j by omega)
  have hjm := up_mono hP (show j ≤ m by omega)
  refine ⟨fun h => ?_, fun h => ?_⟩
  · have e1 : (-(1 : Int)) ^ k = -1 := by
      obtain ⟨c, rfl⟩ : ∃ c, k = 2 * c + 1 := ⟨k / 2, by omega⟩
      rw [Int.pow_succ, Int.pow_mul]; simp [Int.one_pow]
    rw [e1] at e
    have hlt : lseq 0 1 P 1 j < lseq 0 1 P 1 m := by
      obtain ⟨n, rfl⟩ : ∃ n, m = n + 2 := ⟨m - 2, by omega⟩
      have h1 := up_mono hP (show j ≤ n + 1 by omega)
      have h2 : lseq 0 1 P 1 (n + 2) = P * lseq 0 1 P 1 (n + 1) + 1 * lseq 0 1 P 1 n := by rw [← lseq]
      have h3 := up_pos hP (show 1 ≤ n by omega)
      have h4 := up_pos hP (show 1 ≤ n + 1 by omega)
      have h5 : 1 * lseq 0 1 P 1 (n + 1) ≤ P * lseq 0 1 P 1 (n + 1) := mul_le_of (by omega) hP
      omega
    exact ⟨by omega, by omega, by omega, by rw [Int.toNat_natCast]; omega, by omega, hlt, by rw [Int.toNat_natCast]; exact hb.2.1, by rw [Int.toNat_natCast]; exact hb.2.2⟩
  · have e1 : (-(1 : Int)) ^ k = 1 := by
      obtain ⟨c, rfl⟩ : ∃ c, k = 2 * c := ⟨k / 2, by omega⟩
      rw [Int.pow_mul]; simp [Int.one_pow]
    rw [e1] at e
    exact ⟨by omega, by rw [Int.sub_mul]; omega, by omega, by rw [Int.toNat_natCast]; omega, by omega, by omega, by rw [Int.toNat_natCast]; exact hb.2.1, by rw [Int.toNat_natCast]; exact hb.2.2⟩
theorem law5_dn {m k j : Nat} (hP : 2 ≤ P) (hm : 3 ≤ m) (hk : k + 2 ≤ m) (hj : j + k = m) :
    Pre2 (lseq 0 1 P (-1) (m + k)) (lseq 0 1 P (-1) m) (intBits (lseq 0 1 P (-1) m)) (lseq 2 P P (-1) k - 1) (lseq 0 1 P (-1) m - lseq 0 1 P (-1) j) := by
  have e := (lucas (P := P) (-1) m k).1 j hj
  have hc := dn_comp hP hm hk
  have hp := dn_pos hP (show 1 ≤ m by omega)
  have hb := bits_range (x := lseq 0 1 P (-1) m) (by omega)
  have hj0 := dn_pos hP (show 1 ≤ j by omega)
  have hjm := dn_mono hP (show j ≤ m by omega)
  have e1 : (-(-1 : Int)) ^ k = 1 := by simp [Int.one_pow]
  rw [e1] at e
  exact ⟨by omega, by rw [Int.sub_mul]; omega, by omega, by rw [Int.toNat_natCast]; omega, by omega, by omega, by rw [Int.toNat_natCast]; exact hb.2.1, by rw [Int.toNat_natCast]; exact hb.2.2⟩
end
theorem shl1_pos {z : Int} {k : Nat} (h : z = 1 * 2 ^ k) : 0 < z := by rw [h, Int.one_mul]; exact ppos k
structure LB (a b P s : Int) : Prop where
  ha : intBits a ≤ 502
  hb : intBits b ≤ 502
  hP : intBits P ≤ 502
  hs : s = 1 ∨ s = -1
theorem LB.at {a b P s : Int} (H : LB a b P s) {i : Nat} (h : i ≤ 63) : intBits (lseq a b P s i) ≤ 33000 := by
  refine Nat.le_trans (lseq_bits H.ha H.hb H.hP H.hs i).1 ?_
  have : (502 + 1) * (i + 1) ≤ (502 + 1) * 64 := Nat.mul_le_mul_left _ (by omega)
  omega
theorem pow_up2 (k : Nat) : (2 : Int) ^ (k + 2) = 2 ^ k * 4 := by rw [Int.pow_add]; rfl
theorem law5_fb {factor zm zs : Int} (hf : factor = 1 + zm) (h0 : 0 ≤ zm) (h1 : zm < zs) (hz : zs = 1 * 2 ^ Int.toNat 500) : intBits factor ≤ 502 := by
  refine bits_of_lt (k := 500 + 2) (by omega) ?_
  have e := pow_up2 500
  have e2 : Int.toNat 500 = 500 := rfl
  rw [Int.one_mul, e2] at hz
  rw [e]; omega
theorem law5_fb2 {factor f zm zs : Int} (hf' : factor = f + 1) (hf : f = 1 + zm) (h0 : 0 ≤ zm) (h1 : zm < zs) (hz : zs = 1 * 2 ^ Int.toNat 500) : intBits factor ≤ 502 := by
  refine bits_of_lt (k := 500 + 2) (by omega) ?_
  have e := pow_up2 500
  have e2 : Int.toNat 500 = 500 := rfl
  rw [Int.one_mul, e2] at hz
  have := ppos 500
  rw [e]; omega
def LW (a b P s : Int) (xs : List Int) : Prop := xs = ltl a b P s xs.length
theorem LW.start (a b P s : Int) : LW a b P s [a, b] := rfl
theorem LW.step {a b P s z1 z2 z3 : Int} {xs : List Int} {i j : Nat} (H : LW a b P s xs) (h2 : 2 ≤ xs.length) (e1 : z1 = lseq a b P s i) (e2 : z2 = lseq a b P s j) (hi : i = xs.length - 1) (hj : j = xs.length - 2) (e3 : z3 = s * z2) : LW a b P s (xs ++ [P * z1 + z3]) := by
  unfold LW at *
  rw [List.length_append]
  show _ = ltl a b P s (xs.length + 1)
  rw [ltl_succ, ← H]
  obtain ⟨n, hn⟩ : ∃ n, xs.length = n + 2 := ⟨xs.length - 2, by omega⟩
  rw [hn, lseq, e3, e1, e2, hi, hj, hn]
  rfl
theorem LW.stepU {a b P z1 z2 : Int} {xs : List Int} {i j : Nat} (H : LW a b P 1 xs) (h2 : 2 ≤ xs.length) (e1 : z1 = lseq a b P 1 i) (e2 : z2 = lseq a b P 1 j) (hi : i = xs.length - 1) (hj : j = xs.length - 2) : LW a b P 1 (xs ++ [P * z1 + z2]) :=
  H.step h2 e1 e2 hi hj (by omega)
theorem LW.stepD {a b P z1 z2 z3 : Int} {xs : List Int} {i j : Nat} (e3 : z3 = -z2) (H : LW a b P (-1) xs) (h2 : 2 ≤ xs.length) (e1 : z1 = lseq a b P (-1) i) (e2 : z2 = lseq a b P (-1) j) (hi : i = xs.length - 1) (hj : j = xs.length - 2) : LW a b P (-1) (xs ++ [P * z1 + z3]) :=
  H.step h2 e1 e2 hi hj (by omega)
section
variable {prog : Program} {w : World} {A : Around} {E : Value → Shared → Prop} {s : Shared} {value slice : Expr} {l : Addr} {vs : List Value} {ns : List Int} {k : Int} {u : Tok} {Q : Value → Shared → Prop} {a b P sg : Int}
theorem litem_neg (hl : s.heap.IsList l vs.toArray) (hi : IntsAre vs ns) (H : LW a b P sg ns) (B : LB a b P sg) (h0 : k < 0) (h1 : -(ns.length : Int) ≤ k) (h2 : (ns.length : Int) ≤ 63)
    (h : ∀ z t, Abs z → z = lseq a b P sg (k + ns.length).toNat → intBits z ≤ 33000 → Q (.int z t) s) (hfit : -(2 ^ 63) ≤ k)
    (hs : subscripted slice false (.ref l) (.int k u) = operate [.ref l, .int k u] (getItem (.ref l) (.int k u)) := by with_unfolding_all rfl) (hg : ∀ r, letTemporaryGo value (.ref l) r = pure () := by intro _; with_unfolding_all rfl) :
    wpAny (model prog w) A (subscriptTail value slice (.ref l) (.int k u)) Q E s := by
  refine item_list_ints_neg hl hi h0 h1 hfit (fun t => ?_) hs hg
  have e : ns.getD (k + ns.length).toNat 0 = lseq a b P sg (k + ns.length).toNat := by
    have := ltl_get (a := a) (b := b) (P := P) (s := sg) (k := ns.length) (i := (k + ns.length).toNat) (by omega)
    rw [← H] at this; exact this
  rw [e]
  exact h _ t .mk rfl (B.at (by omega))
theorem litem_at (hl : s.heap.IsList l vs.toArray) (hi : IntsAre vs ns) (H : LW a b P sg ns) (B : LB a b P sg) (h0 : 0 ≤ k) (h1 : k < (ns.length : Int)) (h2 : (ns.length : Int) ≤ 63)
    (h : ∀ z t, Abs z → z = lseq a b P sg k.toNat → intBits z ≤ 33000 → Q (.int z t) s)
    (hs : subscripted slice false (.ref l) (.int k u) = operate [.ref l, .int k u] (getItem (.ref l) (.int k u)) := by with_unfolding_all rfl) (hg : ∀ r, letTemporaryGo value (.ref l) r = pure () := by intro _; with_unfolding_all rfl) :
    wpAny (model prog w) A (subscriptTail value slice (.ref l) (.int k u)) Q E s := by
  refine item_list_ints hl hi h0 h1 (by omega) (fun t => ?_) hs hg
  have e : ns.getD k.toNat 0 = lseq a b P sg k.toNat := by
    have := ltl_get (a := a) (b := b) (P := P) (s := sg) (k := ns.length) (i := k.toNat) (by omega)
    rw [← H] at this; exact this
  rw [e]
  exact h _ t .mk rfl (B.at (by omega))
end
theorem bits_small {x y z : Int} (h : intBits x ≤ 33000) (e : y = x) (hz : z = (intBits y : Int)) : z ≤ 262144 := by rw [hz, e]; omega
section
variable {P A D zo zt place far zm zw : Int}
theorem law5_odd (hw : zw = (intBits D : Int)) (hD : D = lseq 0 1 P 1 place.toNat) (hA : A = lseq 0 1 P 1 (place + far).toNat) (hzo : zo = lseq 2 P P 1 far.toNat) (hzt : zt = lseq 0 1 P 1 (place - far).toNat) (hz : zm = far.fmod 2) (h1 : zm = 1) (hP : 1 ≤ P) (p3 : 3 ≤ place) (f0 : 0 ≤ far) (f1 : far + 2 ≤ place) : Pre2 A D zw zo zt := by
  have e : (place + far).toNat = place.toNat + far.toNat := by omega
  rw [hw, hA, hD, hzo, hzt, e]
  refine (law5_up hP (by omega) (by omega) (by omega)).1 ?_
  rw [h1, Int.fmod_eq_emod_of_nonneg _ (by decide)] at hz
  omega
theorem law5_even (hw : zw = (intBits D : Int)) (hD : D = lseq 0 1 P 1 place.toNat) (hA : A = lseq 0 1 P 1 (place + far).toNat) (hzo : zo = lseq 2 P P 1 far.toNat) (hzt : zt = lseq 0 1 P 1 (place - far).toNat) (hz : zm = far.fmod 2) (h1 : ¬ zm = 1) (hP : 1 ≤ P) (p3 : 3 ≤ place) (f0 : 0 ≤ far) (f1 : far + 2 ≤ place) : Pre2 A D zw (zo - 1) (D - zt) := by
  have e : (place + far).toNat = place.toNat + far.toNat := by omega
  rw [hw, hA, hD, hzo, hzt, e]
  refine (law5_up hP (by omega) (by omega) (by omega)).2 ?_
  rw [Int.fmod_eq_emod_of_nonneg _ (by decide)] at hz
  omega
theorem law5_less (hw : zw = (intBits D : Int)) (hD : D = lseq 0 1 P (-1) place.toNat) (hA : A = lseq 0 1 P (-1) (place + far).toNat) (hzo : zo = lseq 2 P P (-1) far.toNat) (hzt : zt = lseq 0 1 P (-1) (place - far).toNat) (hP : 2 ≤ P) (p3 : 3 ≤ place) (f0 : 0 ≤ far) (f1 : far + 2 ≤ place) : Pre2 A D zw (zo - 1) (D - zt) := by
  have e : (place + far).toNat = place.toNat + far.toNat := by omega
  rw [hw, hA, hD, hzo, hzt, e]
  exact law5_dn hP (by omega) (by omega) (by omega)
end
local macro_rules | `(tactic| bits_by_make) => `(tactic| with_reducible assumption)
local macro_rules | `(tactic| walk_at "storeName") => `(tactic| ((fail_if_success (with_reducible rename KPfMark => zMk)); (fail_if_success ((with_reducible refine abs_skip ?ka ?kb); (case ka => with_reducible assumption))); k_extra "abs"))
local macro_rules | `(tactic| walk_at "binaryOp Pow int int") => `(tactic| ((fail_if_success (with_reducible rename KPfMark => zMk)); (with_reducible refine' pow3_z ?ka ?kb ?_); (case ka => bits_by_make); (case kb => decide); k_extra "intro3"))
local macro_rules | `(tactic| walk_at "binaryOp Pow int int") => `(tactic| ((fail_if_success (with_reducible rename KPfMark => zMk)); (with_reducible refine pow2_p (N := 20000) ?kb1 ?kb2 ?kb3 ?_); (case kb1 => omega); (case kb2 => omega); (case kb3 => decide); k_extra "introP"))
local macro_rules | `(tactic| walk_at "binaryOp Mod int int") => `(tactic| ((fail_if_success (with_reducible rename KPfMark => zMk)); (with_reducible refine' mod_p ?ka ?kb ?_); (case ka => first | decide | assumption | k_extra "pos"); (case kb => bits_by_make); k_extra "introM"))
local macro_rules | `(tactic| walk_at "call ref") => `(tactic| k_extra "mycall")
local macro_rules | `(tactic| walk_at "binaryOp LShift int int") => `(tactic| ((fail_if_success (with_reducible rename KPfMark => zMk)); (with_reducible refine' shl_p (N := 40000) ?kb1 ?kb2 ?kb3 ?kb4 ?_); (case kb1 => omega); (case kb2 => bits_by_make); (case kb3 => omega); (case kb4 => decide); k_extra "introS"))
local macro_rules | `(tactic| walk_at "binaryOp RShift int int") => `(tactic| ((fail_if_success (with_reducible rename KPfMark => zMk)); (with_reducible refine' shr_p ?kb1 ?kb2 ?_); (case kb1 => omega); (case kb2 => bits_by_make); k_extra "introS"))
local macro_rules | `(tactic| walk_at "execs cons") => `(tactic| ((with_reducible refine gen_toks ?_); intro tk; (with_reducible refine wpAny_execs_cons ?_); try dsimp only))
local macro_rules | `(tactic| walk_at "execs nil") => `(tactic| ((with_reducible refine gen_toks ?_); intro tk; (with_reducible refine wpAny_execs_nil ?_)))
local macro_rules | `(tactic| walk_at "binaryOp Mult int int") => `(tactic| ((with_reducible refine' mul_p ?kb1 ?kb2 ?kb3 ?_); (case kb1 => bits_by_make); (case kb2 => bits_by_make); (case kb3 => decide)))
local macro_rules | `(tactic| walk_at "exec While Compare cons nil") => `(tactic| k_extra "mywhile")
local macro_rules | `(tactic| walk_at "subscriptTail Name UnaryOp ref int") => `(tactic| k_extra "itemN")
local macro_rules | `(tactic| walk_at "subscriptTail Name Name ref int") => `(tactic| k_extra "itemA")
local macro_rules | `(tactic| walk_at "subscriptTail Name BinOp ref int") => `(tactic| k_extra "itemA")
local macro_rules | `(tactic| walk_at "pyIter ref") => `(tactic| k_extra "rng")
local macro_rules | `(tactic| walk_at "exec For Name Call cons nil") => `(tactic| (k_here; (rename Fr _ _ _ _ => lF'); (with_unfolding_all refine' For_invVF lF' ?k1 ?k2 ?_; (case k1 => exact rfl); (case k2 => exact rfl); k_whole)))
set_option maxRecDepth 100000 in
set_option maxHeartbeats 8000000 in
theorem X : PySem.Challenge.rw_dn0134_05.Holds := hd (by
  k_with_none
  k_with "abs" => (first
    | ((with_reducible show wpAny _ _ (storeName _ (Str.ofString "place") _) _ _ _); (with_reducible refine' abs_store ?ka ?_); (case ka => bits_by_make); intro place aplace hplace bplace)
    | ((with_reducible show wpAny _ _ (storeName _ (Str.ofString "factor") _) _ _ _); (with_reducible refine' abs_store ?ka ?_); (case ka => bits_by_make); intro factor afactor hfactor bfactor; (first | (have hfb := law5_fb hfactor (by assumption) (by assumption) (by assumption)) | (have hfb := law5_fb2 hfactor (by assumption) (by assumption) (by assumption) (by assumption))))
    | ((with_reducible refine' abs_store ?ka ?_); (case ka => bits_by_make); intro z az hz bz))
  k_with "introM" => (first | ((with_reducible show ∀ z, Abs z → z = Int.fmod _ 2 → _ → _ → _ → _); intro zSg aSg hSg loSg hiSg bSg) | (intro zm am hzm lom him bzm))
  k_with "introS" => (intro zs as hzs bzs; (try (have pzs := shl1_pos hzs)))
  k_with "pos" => (first | omega)
  k_with "mywhile" => (first
    | (have hsg : ¬ zSg = 0 := by assumption
       (first
       | ((fail_if_success (have h9 := hLB)); have hLB : LB 0 1 factor (-1) := ⟨by decide, by decide, hfb, .inr rfl⟩
          k_while (fun _ xs => LW 0 1 factor (-1) xs ∧ 2 ≤ xs.length ∧ (xs.length : Int) ≤ 2 * place - 1) (fun _ xs => (2 * place - 1).toNat - xs.length) "terms")
       | (have hLB2 : LB 2 factor factor (-1) := ⟨by decide, hfb, hfb, .inr rfl⟩
          k_while (fun _ xs => LW 2 factor factor (-1) xs ∧ 2 ≤ xs.length ∧ (xs.length : Int) ≤ place - 1) (fun _ xs => (place - 1).toNat - xs.length) "terms")))
    | ((fail_if_success (have h9 := hLB)); have hLB : LB 0 1 factor 1 := ⟨by decide, by decide, hfb, .inl rfl⟩
       k_while (fun _ xs => LW 0 1 factor 1 xs ∧ 2 ≤ xs.length ∧ (xs.length : Int) ≤ 2 * place - 1) (fun _ xs => (2 * place - 1).toNat - xs.length) "terms")
    | (have hLB2 : LB 2 factor factor 1 := ⟨by decide, hfb, hfb, .inl rfl⟩
       k_while (fun _ xs => LW 2 factor factor 1 xs ∧ 2 ≤ xs.length ∧ (xs.length : Int) ≤ place - 1) (fun _ xs => (place - 1).toNat - xs.length) "terms"))
  k_with "state" => (first
    | exact True.intro
    | k_dflt (exact ⟨LW.start _ _ _ _, Nat.le_refl 2, by simp only [List.length_cons, List.length_nil]; omega⟩)
    | k_dflt (exact ⟨LW.stepU (by assumption) (by assumption) (by assumption) (by assumption) (by omega) (by omega), by simp only [List.length_append, List.length_cons, List.length_nil]; omega, by simp only [List.length_append, List.length_cons, List.length_nil]; omega⟩)
    | k_dflt (exact ⟨LW.stepD (by assumption) (by assumption) (by assumption) (by assumption) (by assumption) (by omega) (by omega), by simp only [List.length_append, List.length_cons, List.length_nil]; omega, by simp only [List.length_append, List.length_cons, List.length_nil]; omega⟩)
    )
  k_with "measure" => (simp only [List.length_append, List.length_cons, List.length_nil]; omega)
  k_with "itemN" => (
    (with_reducible show wpAny _ _ (subscriptTail _ _ (Value.ref _) (Value.int _ _)) _ _ _)
    k_dflt (refine' litem_neg ?k1 ?k2 ?k3 ?k4 ?k5 ?k6 ?k7 ?_ ?k8)
    (case k1 => with_unfolding_all is_list)
    (case k2 => with_unfolding_all l_ints)
    (case k3 => with_reducible assumption)
    (case k4 => with_reducible assumption)
    (case k5 => decide)
    (case k6 => omega)
    (case k7 => omega)
    (case k8 => decide)
    k_whole
    intro zi ti azi hzi bzi)
  k_with "itemA" => (
    (with_reducible show wpAny _ _ (subscriptTail _ _ (Value.ref _) (Value.int _ _)) _ _ _)
    k_dflt (refine' litem_at ?k1 ?k2 ?k3 ?k4 ?k5 ?k6 ?k7 ?_)
    (case k1 => with_unfolding_all is_list)
    (case k2 => with_unfolding_all l_ints)
    (case k3 => with_reducible assumption)
    (case k4 => with_reducible assumption)
    (case k5 => omega)
    (case k6 => omega)
    (case k7 => omega)
    k_whole
    intro zi ti azi hzi bzi)
  k_with "rng" => (
    (rename Fr _ _ _ _ => lF'); (rename News _ _ _ _ => lN'); (rename IsRange _ _ _ _ _ _ _ _ => rgX)
    (with_unfolding_all refine' rng0 [Str.ofString "due"] (by rfl) lF' lN' rgX (by exact small_one (by omega) (by omega) (by omega) (by omega)) (by first | exact rangeSize_nat _ _ | rfl) ?_ ?_)
    (all_goals (try clear lF' lN'))
    rotate_left
    (intro kU kH kTk kFr kNews; have kMark := kstMark)
    rotate_left
    (intro kN kT kU kH kTk kOwn kLo kHi kOff kFr kNews; have kMark := kstMark; have akN : Abs kN := .mk)
    (all_goals (try dsimp only))
    (all_goals (try k_fold)))
  k_with "mycall" => (
      (with_reducible show wpAny _ _ (call (Value.ref 21) _ _) _ _ _)
      (first
      | (have hP2 := law5_odd (by assumption) (by assumption) (by assumption) (by assumption) (by assumption) (by assumption) (by assumption) (by omega) (by omega) (by omega) (by omega)
         have hkn := bits_small (hLB.at (i := place.toNat) (by omega)) (by assumption) (by assumption)
         k_dflt (refine' pair_use ?k1 ?k2 ?k3 ?k4 ?k5 ?kK (use2 hP2 hkn) ?kd ?ku ?_))
      | (have hP2 := law5_even (by assumption) (by assumption) (by assumption) (by assumption) (by assumption) (by assumption) (by assumption) (by omega) (by omega) (by omega) (by omega)
         have hkn := bits_small (hLB.at (i := place.toNat) (by omega)) (by assumption) (by assumption)
         k_dflt (refine' pair_use ?k1 ?k2 ?k3 ?k4 ?k5 ?kK (use2 hP2 hkn) ?kd ?ku ?_))
      | (have hP2 := law5_less (by assumption) (by assumption) (by assumption) (by assumption) (by assumption) (by omega) (by omega) (by omega) (by omega)
         have hkn := bits_small (hLB.at (i := place.toNat) (by omega)) (by assumption) (by assumption)
         k_dflt (refine' pair_use ?k1 ?k2 ?k3 ?k4 ?k5 ?kK (use2 hP2 hkn) ?kd ?ku ?_)))
      (case k1 => k_asm)
      (case k2 => k_asm)
      (case k3 => k_asm)
      (case k4 => k_asm)
      (case k5 => k_asm)
      (case kK => exact rfl)
      (case kd => ktr_room)
      (case ku => ktr_units)
      intro D' x1 x2 c' h' tk' F' N' l'
      (try dsimp only)
      (try k_fold))
  k_go0
  (all_goals try k_fold)
  k_steps)
end Mine
theorem PySem.Challenge.cw_dn0134_05_holds : PySem.Challenge.rw_dn0134_05.Holds :=
  Mine.X
