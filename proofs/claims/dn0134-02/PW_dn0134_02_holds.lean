import PyProof.Rows.All
import Wide.All
import OpenK.AllK
import Wide.FinOn
import PySem.Challenge.RW_dn0134_02
open PySem PySem.W PyProof.Rows
set_option Elab.async false
namespace Mine
open PySem.Builtin.Int (intBits)

theorem ppos (k : Nat) : (0 : Int) < 2 ^ k := kbt_pos k
theorem pmono {i j : Nat} (h : i ≤ j) : (2 : Int) ^ i ≤ 2 ^ j := by
  have := Nat.pow_le_pow_right (n := 2) (by decide) h
  rw [← kbt_cast, ← kbt_cast]; omega
theorem uniqNN {q b r q' r' : Int} (h : q * b + r = q' * b + r') (r0 : 0 ≤ r) (r1 : r < b) (r0' : 0 ≤ r') (r1' : r' < b) : q = q' ∧ r = r' := by
  have hb : 0 < b := by omega
  have h1 := kbt_unique (a := q * b + r) (b := b) (q := q) (r := r) hb (by rw [Int.mul_comm b q]; omega) r0 r1
  have h2 := kbt_unique (a := q * b + r) (b := b) (q := q') (r := r') hb (by rw [Int.mul_comm b q']; omega) r0' r1'
  exact ⟨h1.1.symm.trans h2.1, h1.2.symm.trans h2.2⟩
theorem mul_le_of {a b c : Int} (hc : 0 ≤ c) (h : a ≤ b) : a * c ≤ b * c := Int.mul_le_mul_of_nonneg_right h hc
theorem mul_lt_of {a b c : Int} (hc : 0 < c) (h : a < b) : a * c < b * c := Int.mul_lt_mul_of_pos_right h hc
theorem lt_of_mul {a b c : Int} (hc : 0 < c) (h : a * c < b * c) : a < b := Int.lt_of_mul_lt_mul_right h (Int.le_of_lt hc)
theorem bits_of_lt {x : Int} {k : Nat} (h0 : 0 ≤ x) (h : x < 2 ^ k) : intBits x ≤ k := by
  refine intBits_le_iff.mpr ?_
  have := kbt_cast k
  omega
theorem lt_of_bits {x : Int} {k : Nat} (h : intBits x ≤ k) : x < 2 ^ k := by
  have h1 := intBits_le_iff.mp h
  have := kbt_cast k
  omega
theorem fdivP (a : Int) (k : Nat) : a.fdiv (2 ^ k) = a / 2 ^ k := Int.fdiv_eq_ediv_of_nonneg _ (Int.le_of_lt (kbt_pos k))
theorem and_all (x : Int) : Builtin.bitAnd x (-1) = x := by
  have hn : ¬ (0 : Int) ≤ -1 := by decide
  have e : (Builtin.bitNot (-1)).toNat = 0 := by decide
  by_cases hx : 0 ≤ x
  · rw [bitAnd_pn hx hn, e, Nat.and_zero]; simp
  · rw [bitAnd_nn hx hn, e, Nat.or_zero]
    unfold Builtin.bitNot
    omega
/-- the bits of the one and of the other -/
theorem or_add {x y : Int} {k : Nat} (y0 : 0 ≤ y) (y1 : y < 2 ^ k) : Builtin.bitOr (x * 2 ^ k) y = x * 2 ^ k + y := by
  have hp := kbt_pos k
  have key : ∀ k : Nat, ∀ x y : Int, 0 ≤ y → y < 2 ^ k → Builtin.bitAnd (Builtin.bitNot (x * 2 ^ k)) (Builtin.bitNot y) = Builtin.bitNot (x * 2 ^ k + y) := by
    intro k
    induction k with
    | zero =>
      intro x y h0 h1
      have : y = 0 := by rw [Int.pow_zero] at h1; omega
      subst this
      rw [Int.add_zero]
      have e : Builtin.bitNot 0 = -1 := rfl
      rw [e, and_all]
    | succ k ih =>
      intro x y h0 h1
      rw [Int.pow_succ] at h1
      rw [kbt_halves]
      have e1 : Builtin.bitNot (x * 2 ^ (k + 1)) / 2 = Builtin.bitNot (x * 2 ^ k) := by
        unfold Builtin.bitNot
        rw [Int.pow_succ, ← Int.mul_assoc]; omega
      have e2 : Builtin.bitNot y / 2 = Builtin.bitNot (y / 2) := by unfold Builtin.bitNot; omega
      rw [e1, e2, ih x (y / 2) (by omega) (by omega)]
      unfold Builtin.bitNot
      rw [Int.pow_succ, ← Int.mul_assoc]
      generalize x * 2 ^ k = z
      split <;> omega
  unfold Builtin.bitOr
  rw [key k x y y0 y1]
  unfold Builtin.bitNot; omega
end Mine
namespace Mine
open PySem.Builtin.Int (intBits)
structure Pre2 (a b n q r : Int) : Prop where
  n1 : 1 ≤ n
  e : a = q * b + r
  q0 : 0 ≤ q
  q1 : q < 2 ^ n.toNat
  r0 : 0 ≤ r
  r1 : r < b
  b1 : 2 ^ (n.toNat - 1) ≤ b
  b2 : b < 2 ^ n.toNat
structure Pre3 (a12 a3 b b1 b2 n q r : Int) : Prop where
  n1 : 1 ≤ n
  ea : a12 * 2 ^ n.toNat + a3 = q * b + r
  q0 : 0 ≤ q
  q1 : q < 2 ^ n.toNat
  r0 : 0 ≤ r
  r1 : r < b
  e : b = b1 * 2 ^ n.toNat + b2
  b10 : 2 ^ (n.toNat - 1) ≤ b1
  b11 : b1 < 2 ^ n.toNat
  b20 : 0 ≤ b2
  b21 : b2 < 2 ^ n.toNat
  a30 : 0 ≤ a3
  a31 : a3 < 2 ^ n.toNat
section
variable {a12 a3 b b1 b2 n q r : Int}
theorem Pre3.a12b (H : Pre3 a12 a3 b b1 b2 n q r) : 0 ≤ a12 ∧ a12 < b := by
  obtain ⟨n1, ea, q0, q1, r0, r1, e, b10, b11, b20, b21, a30, a31⟩ := H
  have hP := ppos n.toNat
  have hB := ppos (n.toNat - 1)
  generalize (2 : Int) ^ n.toNat = P at *
  have hb1 : 0 ≤ b1 * P := Int.mul_nonneg (by omega) (by omega)
  have hb : 0 < b := by omega
  constructor
  · have h0 : 0 ≤ q * b := Int.mul_nonneg q0 (by omega)
    have : (-1) * P < a12 * P := by omega
    have := lt_of_mul hP this
    omega
  · refine lt_of_mul hP ?_
    have h1 : (q + 1) * b ≤ P * b := mul_le_of (by omega) (by omega)
    rw [Int.add_mul, Int.one_mul, Int.mul_comm P b] at h1
    omega
theorem Pre3.eqCase (H : Pre3 a12 a3 b b1 b2 n q r) (h : a12 / 2 ^ n.toNat = b1) :
    (2 ^ n.toNat - 1) * b + ((a12 - b1 * 2 ^ n.toNat + b1) * 2 ^ n.toNat + a3 - (2 ^ n.toNat - 1) * b2) = q * b + r ∧
      (a12 - b1 * 2 ^ n.toNat + b1) * 2 ^ n.toNat + a3 - (2 ^ n.toNat - 1) * b2 < b ∧ 0 ≤ a12 - b1 * 2 ^ n.toNat + b1 ∧ a12 - b1 * 2 ^ n.toNat + b1 < 2 ^ (n.toNat + 1) := by
  have h2 := H.a12b
  obtain ⟨n1, ea, q0, q1, r0, r1, e, b10, b11, b20, b21, a30, a31⟩ := H
  have hP := ppos n.toNat
  have hB := ppos (n.toNat - 1)
  have hs : (2 : Int) ^ (n.toNat + 1) = 2 ^ n.toNat * 2 := Int.pow_succ ..
  rw [hs]
  generalize (2 : Int) ^ n.toNat = P at *
  have hm := Int.emod_nonneg a12 (show P ≠ 0 by omega)
  have hm2 := Int.emod_lt_of_pos a12 hP
  have hd := Int.emod_def a12 P
  rw [h, Int.mul_comm P b1] at hd
  generalize hx : a12 - b1 * P = x at *
  have h3 : x * P ≤ (b2 - 1) * P := mul_le_of (by omega) (by omega)
  have e1 : (x + b1) * P = x * P + b1 * P := Int.add_mul ..
  have e2 : (b2 - 1) * P = b2 * P - P := by rw [Int.sub_mul, Int.one_mul]
  have e3 : (P - 1) * b2 = b2 * P - b2 := by rw [Int.sub_mul, Int.one_mul, Int.mul_comm]
  have e4 : (P - 1) * b = b * P - b := by rw [Int.sub_mul, Int.one_mul, Int.mul_comm]
  have e5 : b * P = b1 * P * P + b2 * P := by rw [e, Int.add_mul]
  have e6 : a12 * P = b1 * P * P + x * P := by rw [← hx, Int.sub_mul]; omega
  refine ⟨by omega, by omega, by omega, by omega⟩
theorem Pre3.neCase (H : Pre3 a12 a3 b b1 b2 n q r) (h : a12 / 2 ^ n.toNat ≠ b1) : ∃ q' r', Pre2 a12 b1 n q' r' := by
  have h2 := H.a12b
  obtain ⟨n1, ea, q0, q1, r0, r1, e, b10, b11, b20, b21, a30, a31⟩ := H
  have hP := ppos n.toNat
  have hB := ppos (n.toNat - 1)
  have hb1 : 0 < b1 := by omega
  have h3 : a12 < b1 * 2 ^ n.toNat := by
    generalize (2 : Int) ^ n.toNat = P at *
    have h4 : a12 / P < b1 + 1 := Int.ediv_lt_of_lt_mul hP (by rw [Int.add_mul]; omega)
    exact Int.lt_mul_of_ediv_lt hP (by omega)
  refine ⟨a12 / b1, a12 % b1, n1, ?_, Int.ediv_nonneg h2.1 (by omega), Int.ediv_lt_of_lt_mul hb1 (by rw [Int.mul_comm]; exact h3), Int.emod_nonneg _ (by omega), Int.emod_lt_of_pos _ hb1, b10, b11⟩
  rw [Int.mul_comm]; exact (Int.mul_ediv_add_emod a12 b1).symm
theorem Pre3.ne2 (H : Pre3 a12 a3 b b1 b2 n q r) {q' r' : Int} (h : Pre2 a12 b1 n q' r') :
    q' * b + (r' * 2 ^ n.toNat + a3 - q' * b2) = q * b + r ∧ r' * 2 ^ n.toNat + a3 - q' * b2 < b := by
  obtain ⟨n1, ea, q0, q1, r0, r1, e, b10, b11, b20, b21, a30, a31⟩ := H
  obtain ⟨_, e', q0', q1', r0', r1', _, _⟩ := h
  have hP := ppos n.toNat
  generalize (2 : Int) ^ n.toNat = P at *
  have h1 : 0 ≤ q' * b2 := Int.mul_nonneg q0' b20
  have h2 : r' * P ≤ (b1 - 1) * P := mul_le_of (by omega) (by omega)
  have e2 : (b1 - 1) * P = b1 * P - P := by rw [Int.sub_mul, Int.one_mul]
  refine ⟨?_, by omega⟩
  rw [← ea, e', e, Int.mul_add, Int.add_mul, ← Int.mul_assoc]
  omega
end
section
variable {a b n q r : Int}
theorem Pre2.pad (H : Pre2 a b n q r) : Pre2 (a * 2) (b * 2) (n + 1) q (r * 2) := by
  obtain ⟨n1, e, q0, q1, r0, r1, b1, b2⟩ := H
  have e1 : (n + 1).toNat = n.toNat + 1 := by omega
  have e2 : (n + 1).toNat - 1 = (n.toNat - 1) + 1 := by omega
  have hs : (2 : Int) ^ (n.toNat + 1) = 2 ^ n.toNat * 2 := Int.pow_succ ..
  have hs' : (2 : Int) ^ (n.toNat - 1 + 1) = 2 ^ (n.toNat - 1) * 2 := Int.pow_succ ..
  have hP := ppos n.toNat
  refine ⟨by omega, ?_, q0, ?_, by omega, by omega, ?_, ?_⟩
  · rw [e, Int.add_mul, Int.mul_assoc]
  · rw [e1, hs]; omega
  · rw [e2, hs']; omega
  · rw [e1, hs]; omega
/-- the first half's division and the second's -/
theorem Pre2.halves (H : Pre2 a b n q r) {h : Int} (hn : n = h * 2) : ∃ q1 r1 q2, Pre3 (a / 2 ^ n.toNat) ((a / 2 ^ h.toNat) % 2 ^ h.toNat) b (b / 2 ^ h.toNat) (b % 2 ^ h.toNat) h q1 r1 ∧
    Pre3 r1 (a % 2 ^ h.toNat) b (b / 2 ^ h.toNat) (b % 2 ^ h.toNat) h q2 r ∧ q = q1 * 2 ^ h.toNat + q2 := by
  obtain ⟨n1, e, q0, q1, r0, r1, b1, b2⟩ := H
  have hb : 0 < b := by omega
  have hk : n.toNat = h.toNat + h.toNat := by omega
  have hk' : n.toNat - 1 = (h.toNat - 1) + h.toNat := by omega
  have hP := ppos h.toNat
  have hP' := ppos (h.toNat - 1)
  have ep : (2 : Int) ^ n.toNat = 2 ^ h.toNat * 2 ^ h.toNat := by rw [hk, Int.pow_add]
  have ep' : (2 : Int) ^ (n.toNat - 1) = 2 ^ (h.toNat - 1) * 2 ^ h.toNat := by rw [hk', Int.pow_add]
  have h1 : 1 ≤ h := by omega
  rw [ep] at b2 q1 ⊢
  rw [ep'] at b1
  have a0 : 0 ≤ a := by
    have : 0 ≤ q * b := Int.mul_nonneg q0 (by omega)
    omega
  have k1 : 2 ^ (h.toNat - 1) ≤ b / 2 ^ h.toNat := Int.le_ediv_of_mul_le hP b1
  have k2 : b / 2 ^ h.toNat < 2 ^ h.toNat := Int.ediv_lt_of_lt_mul hP b2
  have k3 := Int.emod_nonneg b (show (2 : Int) ^ h.toNat ≠ 0 by omega)
  have k4 := Int.emod_lt_of_pos b hP
  have k5 : b = b / 2 ^ h.toNat * 2 ^ h.toNat + b % 2 ^ h.toNat := by rw [Int.mul_comm]; exact (Int.mul_ediv_add_emod b _).symm
  have c3 := Int.emod_nonneg (a / 2 ^ h.toNat) (show (2 : Int) ^ h.toNat ≠ 0 by omega)
  have c4 := Int.emod_lt_of_pos (a / 2 ^ h.toNat) hP
  have d3 := Int.emod_nonneg a (show (2 : Int) ^ h.toNat ≠ 0 by omega)
  have d4 := Int.emod_lt_of_pos a hP
  have f1 : a / (2 ^ h.toNat * 2 ^ h.toNat) = a / 2 ^ h.toNat / 2 ^ h.toNat := (Int.ediv_ediv_of_nonneg (by omega)).symm
  rw [f1]
  have f2 : a / 2 ^ h.toNat / 2 ^ h.toNat * 2 ^ h.toNat + (a / 2 ^ h.toNat) % 2 ^ h.toNat = a / 2 ^ h.toNat := by rw [Int.mul_comm]; exact Int.mul_ediv_add_emod _ _
  have f3 : a / 2 ^ h.toNat * 2 ^ h.toNat + a % 2 ^ h.toNat = a := by rw [Int.mul_comm]; exact Int.mul_ediv_add_emod _ _
  have g0 : 0 ≤ a / 2 ^ h.toNat := Int.ediv_nonneg a0 (by omega)
  have g1 : a / 2 ^ h.toNat < 2 ^ h.toNat * b := by
    refine Int.ediv_lt_of_lt_mul hP ?_
    have h3 : (q + 1) * b ≤ 2 ^ h.toNat * 2 ^ h.toNat * b := mul_le_of (by omega) (by omega)
    rw [Int.add_mul, Int.one_mul] at h3
    rw [Int.mul_right_comm]
    omega
  generalize hx : a / 2 ^ h.toNat = x at *
  have m1 := Int.emod_nonneg x (show b ≠ 0 by omega)
  have m2 := Int.emod_lt_of_pos x hb
  have m3 : x = x / b * b + x % b := by rw [Int.mul_comm]; exact (Int.mul_ediv_add_emod x b).symm
  have m4 : x / b < 2 ^ h.toNat := Int.ediv_lt_of_lt_mul hb g1
  have m5 : 0 ≤ x / b := Int.ediv_nonneg g0 (by omega)
  generalize x / b = y at *
  generalize x % b = z at *
  have w0 : 0 ≤ z * 2 ^ h.toNat := Int.mul_nonneg m1 (by omega)
  have w1 : z * 2 ^ h.toNat ≤ (b - 1) * 2 ^ h.toNat := mul_le_of (by omega) (by omega)
  have w2 : (b - 1) * 2 ^ h.toNat = 2 ^ h.toNat * b - 2 ^ h.toNat := by rw [Int.sub_mul, Int.one_mul, Int.mul_comm]
  have v1 := Int.emod_nonneg (z * 2 ^ h.toNat + a % 2 ^ h.toNat) (show b ≠ 0 by omega)
  have v2 := Int.emod_lt_of_pos (z * 2 ^ h.toNat + a % 2 ^ h.toNat) hb
  have v3 : z * 2 ^ h.toNat + a % 2 ^ h.toNat = (z * 2 ^ h.toNat + a % 2 ^ h.toNat) / b * b + (z * 2 ^ h.toNat + a % 2 ^ h.toNat) % b := by
    generalize z * 2 ^ h.toNat + a % 2 ^ h.toNat = y'
    rw [Int.mul_comm]; exact (Int.mul_ediv_add_emod _ b).symm
  have v4 : (z * 2 ^ h.toNat + a % 2 ^ h.toNat) / b < 2 ^ h.toNat := Int.ediv_lt_of_lt_mul hb (by omega)
  have v5 : 0 ≤ (z * 2 ^ h.toNat + a % 2 ^ h.toNat) / b := Int.ediv_nonneg (by omega) (by omega)
  generalize hu : (z * 2 ^ h.toNat + a % 2 ^ h.toNat) / b = u at *
  generalize hv : (z * 2 ^ h.toNat + a % 2 ^ h.toNat) % b = v at *
  have U : q = y * 2 ^ h.toNat + u ∧ r = v := by
    refine uniqNN (b := b) ?_ r0 r1 v1 v2
    rw [← e, ← f3, m3, Int.add_mul, Int.add_mul, Int.mul_right_comm y b]
    omega
  obtain ⟨U1, rfl⟩ := U
  exact ⟨y, z, u, ⟨h1, by rw [f2]; exact m3, m5, m4, m1, m2, k5, k1, k2, k3, k4, c3, c4⟩, ⟨h1, v3, v5, v4, v1, v2, k5, k1, k2, k3, k4, d3, d4⟩, U1⟩
end
end Mine
namespace Mine
section
variable {a12 a3 b b1 b2 n q r : Int}
theorem Pre3.start1 (H : Pre3 a12 a3 b b1 b2 n q r) (h : a12.fdiv (2 ^ n.toNat) = b1) :
    (1 * 2 ^ n.toNat - 1) * b + (Builtin.bitOr ((a12 - b1 * 2 ^ n.toNat + b1) * 2 ^ n.toNat) a3 - (1 * 2 ^ n.toNat - 1) * b2) = q * b + r ∧ Builtin.bitOr ((a12 - b1 * 2 ^ n.toNat + b1) * 2 ^ n.toNat) a3 - (1 * 2 ^ n.toNat - 1) * b2 < b := by
  rw [or_add H.a30 H.a31, Int.one_mul]
  have h' := H.eqCase (by rw [← fdivP]; exact h)
  exact ⟨h'.1, h'.2.1⟩
theorem Pre3.start2 (H : Pre3 a12 a3 b b1 b2 n q r) {q' r' : Int} (h : Pre2 a12 b1 n q' r') :
    q' * b + (Builtin.bitOr (r' * 2 ^ n.toNat) a3 - q' * b2) = q * b + r ∧ Builtin.bitOr (r' * 2 ^ n.toNat) a3 - q' * b2 < b := by
  rw [or_add H.a30 H.a31]
  exact H.ne2 h
theorem d3_turn {x y b c : Int} (h : y * b + x = c ∧ x < b) (h0 : x < 0) : (y - 1) * b + (x + b) = c ∧ x + b < b := by
  rw [Int.sub_mul, Int.one_mul]; omega
end
end Mine
namespace Mine
theorem Pre3.fin {a12 a3 b b1 b2 n q r x y : Int} (H : Pre3 a12 a3 b b1 b2 n q r) (h : y * b + x = q * b + r) (h0 : ¬ x < 0) (h1 : x < b) : y = q ∧ x = r :=
  uniqNN h (by omega) h1 H.r0 H.r1
theorem news_sub {h₀ h : Heap} {L : Addr} {news news' : List (Addr × Obj)} (N : News h₀ L h news') (hs : ∀ p ∈ news, p ∈ news') : News h₀ L h news := fun p hp => N p (hs p hp)
theorem sub0 {p : Addr × Obj} {l l' : List (Addr × Obj)} (h : ∀ q ∈ l, q ∈ l') : ∀ q ∈ p :: l, q ∈ p :: l' := fun q hq => (List.mem_cons.mp hq).elim (fun e => e ▸ .head _) fun m => .tail _ (h q m)
theorem sub1 {p : Addr × Obj} {l l' : List (Addr × Obj)} (h : ∀ q ∈ l, q ∈ l') : ∀ q ∈ l, q ∈ p :: l' := fun q hq => .tail _ (h q hq)
theorem subr {l : List (Addr × Obj)} : ∀ q ∈ l, q ∈ l := fun _ h => h
end Mine
namespace Mine
open PySem.Builtin.Int (intBits)
section
variable {a b n q r : Int}
theorem Pre2.a0 (H : Pre2 a b n q r) : 0 ≤ a := by
  have h1 := H.r0; have h2 := H.r1
  have : 0 ≤ q * b := Int.mul_nonneg H.q0 (by omega)
  have := H.e
  omega
theorem Pre2.alt (H : Pre2 a b n q r) : a < 2 ^ (n.toNat + n.toNat) := by
  have h1 := H.r0; have h2 := H.r1
  have h3 : (q + 1) * b ≤ 2 ^ n.toNat * b := mul_le_of (by omega) (by have := H.q1; omega)
  have h4 : b * 2 ^ n.toNat ≤ 2 ^ n.toNat * 2 ^ n.toNat := mul_le_of (Int.le_of_lt (ppos _)) (Int.le_of_lt H.b2)
  rw [Int.pow_add]
  have := H.e
  rw [Int.add_mul, Int.one_mul] at h3
  rw [Int.mul_comm b] at h4
  omega
theorem Pre2.big (H : Pre2 a b n q r) (h : ¬ (intBits a : Int) - n ≤ 4000) : 4000 < n := by
  have h1 := bits_of_lt H.a0 H.alt
  have := H.n1
  omega
theorem and_mask (x : Int) (k : Nat) : Builtin.bitAnd x (1 * 2 ^ k - 1) = x % 2 ^ k := by rw [Int.one_mul, kbt_mask]
theorem Pre2.halvesT (H : Pre2 a b n q r) {h : Int} (hn : n = h * 2) : ∃ q1 r1 q2, Pre3 (a.fdiv (2 ^ n.toNat)) (Builtin.bitAnd (a.fdiv (2 ^ h.toNat)) (1 * 2 ^ h.toNat - 1)) b (b.fdiv (2 ^ h.toNat)) (Builtin.bitAnd b (1 * 2 ^ h.toNat - 1)) h q1 r1 ∧
    Pre3 r1 (Builtin.bitAnd a (1 * 2 ^ h.toNat - 1)) b (b.fdiv (2 ^ h.toNat)) (Builtin.bitAnd b (1 * 2 ^ h.toNat - 1)) h q2 r ∧ Builtin.bitOr (q1 * 2 ^ h.toNat) q2 = q := by
  simp only [fdivP, and_mask]
  obtain ⟨q1, r1, q2, h1, h2, h3⟩ := H.halves hn
  exact ⟨q1, r1, q2, h1, h2, by rw [or_add h2.q0 h2.q1]; exact h3.symm⟩
theorem halves0 (hp : Builtin.bitAnd n 1 = 0) : n = n.fdiv (2 ^ (1 : Int).toNat) * 2 := by
  rw [bitAnd_m1] at hp
  have e : (2 : Int) ^ (1 : Int).toNat = 2 := by decide
  rw [e, Int.fdiv_eq_ediv_of_nonneg _ (by decide)]
  omega
theorem halves1 (hp : Builtin.bitAnd n 1 ≠ 0) : n + 1 = (n + 1).fdiv (2 ^ (1 : Int).toNat) * 2 := by
  rw [bitAnd_m1] at hp
  have e : (2 : Int) ^ (1 : Int).toNat = 2 := by decide
  rw [e, Int.fdiv_eq_ediv_of_nonneg _ (by decide)]
  omega
theorem Pre2.padT (H : Pre2 a b n q r) : Pre2 (a * 2 ^ (1 : Int).toNat) (b * 2 ^ (1 : Int).toNat) (n + 1) q (r * 2) := H.pad
theorem halfLe {n h : Int} {j : Nat} (hn : n = h * 2) (hk : n ≤ 2 ^ (j + 1) + 1) : h ≤ 2 ^ j := by
  rw [Int.pow_succ] at hk; omega
theorem Pre2.fdm (H : Pre2 a b n q r) : a.fdiv b = q ∧ a.fmod b = r := by
  have h1 := H.r0; have h2 := H.r1
  rw [Int.fdiv_eq_ediv_of_nonneg _ (by omega), Int.fmod_eq_emod_of_nonneg _ (by omega)]
  exact kbt_unique (by omega) (by rw [H.e, Int.mul_comm]; omega) h1 h2
end
theorem half_z {prog : Program} {w : World} {A : Around} {E : Value → Shared → Prop} {s : Shared} {Q : Value → Shared → Prop} {n : Int} {t u : Tok} (he : n = n.fdiv (2 ^ (1 : Int).toNat) * 2) (h : ∀ z, n = z * 2 → Q (.int z s.toks) { s with toks := s.toks + 1 }) :
    wpAny (model prog w) A (binaryOp .RShift (.int n t) (.int 1 u)) Q E s := rshift_int (by decide) (h _ he)
theorem ihalf_z {prog : Program} {w : World} {A : Around} {E : Value → Shared → Prop} {s : Shared} {Q : Value → Shared → Prop} {r : Int} {t u : Tok} (h : Q (.int r s.toks) { s with toks := s.toks + 1 }) :
    wpAny (model prog w) A (inplaceOp .RShift (.int (r * 2) t) (.int 1 u)) Q E s := irshift_int (by decide) (by
  have e : (r * 2).fdiv (2 ^ (1 : Int).toNat) = r := by
    have e : (2 : Int) ^ (1 : Int).toNat = 2 := by decide
    rw [e, Int.fdiv_eq_ediv_of_nonneg _ (by decide)]
    omega
  rw [e]; exact h)
abbrev pairO (q r : Int) (t1 t2 : Tok) (c : Nat) : Obj := { cls := .type "tuple", data := .seq #[.int q t1, .int r t2] c }
theorem divmod_D {prog : Program} {w : World} {A : Around} {E : Value → Shared → Prop} {s : Shared} {a b q r : Int} {t u : Tok} {Q : Value → Shared → Prop} {h₀ : Heap} {L : Addr} {m : Str → Option Value} {news : List (Addr × Obj)} (F : Fr h₀ L s.heap m) (N : News h₀ L s.heap news) (hb : b ≠ 0) (hq : a.fdiv b = q ∧ a.fmod b = r)
    (hp : PySem.PylongRoom (model prog w) A s)
    (h : ∀ D t1 t2 h' tk, Fr h₀ L h' m → News h₀ L h' ((D, pairO q r t1 t2 0) :: news) → AllLt D news → Q (.ref D) { s with toks := tk, heap := h' }) :
    wpAny (model prog w) A (call (.builtin "divmod") [.int a t, .int b u]) Q E s := by
  refine divmod_N F N hb (fun h' F' N' => ?_) (Or.inr hp)
  rw [hq.1, hq.2] at N'
  exact h _ _ _ h' _ F' N' (allLt_of fun p hp => Heap.lt_size (N p hp).1)
end Mine
namespace Mine
open PySem.Builtin.Int (intBits)
theorem abs2 (k : Nat) : ((2 : Int) ^ k).natAbs = 2 ^ k := by rw [← kbt_cast, Int.natAbs_natCast]
inductive Abs (z : Int) : Prop where | mk
theorem abs_skip {M : Model} {A : Around} {env : Env} {x : Str} {z : Int} {t : Tok} {Q : Unit → Shared → Prop} {E : Value → Shared → Prop} {s : Shared} (_ : Abs z) (h : wpAny M A (storeName env x (.int z t)) Q E s) : wpAny M A (storeName env x (.int z t)) Q E s := h
theorem abs_store {M : Model} {A : Around} {env : Env} {x : Str} {e : Int} {t : Tok} {Q : Unit → Shared → Prop} {E : Value → Shared → Prop} {s : Shared} {N : Nat} (hb : intBits e ≤ N)
    (h : ∀ z, Abs z → z = e → intBits z ≤ N → wpAny M A (storeName env x (.int z t)) Q E s) : wpAny M A (storeName env x (.int e t)) Q E s := h e .mk rfl hb
section
variable {prog : Program} {w : World} {A : Around} {E : Value → Shared → Prop} {s : Shared} {a b : Int} {t u : Tok} {Q : Value → Shared → Prop}
theorem pow3_z {l : Int} {N : Nat} (hb : intBits l ≤ N) (hN : 2 * N ≤ 100000000) (h : ∀ z, Abs z → z = 3 ^ intBits l → intBits z ≤ 2 * N + 1 → Q (.int z s.toks) { s with toks := s.toks + 1 }) :
    wpAny (model prog w) A (binaryOp .Pow (.int 3 t) (.int (intBits l : Int) u)) Q E s := by
  refine pow_int (by omega) ?_ ?_
  · have e : intBits (3 : Int) = 2 := by decide
    rw [e]
    have : (2 : Int) ^ 27 = 134217728 := by decide
    omega
  · have e : ((intBits l : Int)).toNat = intBits l := by omega
    rw [e]
    refine h _ .mk rfl ?_
    refine Nat.le_trans (intBits_pow_le (m := 2) (by decide) _) ?_
    omega
theorem mod_p {N : Nat} (hc : 0 < b) (hb : intBits b ≤ N) (h : ∀ z, Abs z → z = a.fmod b → 0 ≤ z → z < b → intBits z ≤ N → Q (.int z s.toks) { s with toks := s.toks + 1 }) : wpAny (model prog w) A (binaryOp .Mod (.int a t) (.int b u)) Q E s := by
  have e : a.fmod b = a % b := Int.fmod_eq_emod_of_nonneg _ (Int.le_of_lt hc)
  have h0 := Int.emod_nonneg a (show b ≠ 0 by omega)
  have h1 := Int.emod_lt_of_pos a hc
  rw [← e] at h0 h1
  exact mod_int' (by omega) (h _ .mk rfl h0 h1 (bits_fmod_by (by omega) hb))
theorem pow2_p {e : Int} {N : Nat} (h0 : 0 ≤ e) (h1 : e ≤ N) (hN : N ≤ 10000000) (h : ∀ z, Abs z → z = 2 ^ e.toNat → 0 < z → intBits z ≤ N + 1 → Q (.int z s.toks) { s with toks := s.toks + 1 }) :
    wpAny (model prog w) A (binaryOp .Pow (.int 2 t) (.int e u)) Q E s := by
  refine pow_int h0 ?_ (h _ .mk rfl (kbt_pos _) ?_)
  · have e : intBits (2 : Int) = 2 := by decide
    rw [e]
    have : (2 : Int) ^ 27 = 134217728 := by decide
    omega
  · refine intBits_le_iff.mpr ?_
    have e1 := abs2 e.toNat
    rw [e1]
    exact Nat.pow_lt_pow_right (by decide) (by omega)
theorem shl_p {e x : Int} {N m : Nat} (h0 : 0 ≤ e) (hx : intBits x ≤ m) (h1 : e ≤ N) (hN : m + N ≤ 100000000) (h : ∀ z, Abs z → z = x * 2 ^ e.toNat → intBits z ≤ m + N → Q (.int z s.toks) { s with toks := s.toks + 1 }) :
    wpAny (model prog w) A (binaryOp .LShift (.int x t) (.int e u)) Q E s := by
  refine lshift_int h0 ?_ (h _ .mk rfl ?_)
  · have : (2 : Int) ^ 27 = 134217728 := by decide
    omega
  · by_cases hx0 : x = 0
    · subst hx0
      rw [Int.zero_mul]
      exact Nat.zero_le _
    refine intBits_le_iff.mpr ?_
    have e1 := abs2 e.toNat
    rw [Int.natAbs_mul, e1]
    have h2 := intBits_le_iff.mp hx
    have h3 : x.natAbs * 2 ^ e.toNat < 2 ^ m * 2 ^ e.toNat := Nat.mul_lt_mul_of_pos_right h2 (Nat.two_pow_pos _)
    rw [← Nat.pow_add] at h3
    exact Nat.lt_of_lt_of_le h3 (Nat.pow_le_pow_right (by decide) (by omega))
theorem shr_p {e x : Int} {m : Nat} (h0 : 0 ≤ e) (hx : intBits x ≤ m) (h : ∀ z, Abs z → z = x / 2 ^ e.toNat → intBits z ≤ m → Q (.int z s.toks) { s with toks := s.toks + 1 }) :
    wpAny (model prog w) A (binaryOp .RShift (.int x t) (.int e u)) Q E s := by
  have e1 := fdivP x e.toNat
  exact rshift_int h0 (by rw [e1]; exact h _ .mk rfl (by rw [← e1]; exact bits_fdiv hx))
theorem fdv_p {m : Nat} (hc : 0 < b) (hx : intBits a ≤ m) (hp : PySem.PylongRoom (model prog w) A s) (h : ∀ z, Abs z → z = a / b → intBits z ≤ m → Q (.int z s.toks) { s with toks := s.toks + 1 }) :
    wpAny (model prog w) A (binaryOp .FloorDiv (.int a t) (.int b u)) Q E s := by
  have e1 : a.fdiv b = a / b := Int.fdiv_eq_ediv_of_nonneg _ (Int.le_of_lt hc)
  exact floordiv_int (by omega) (by rw [e1]; exact h _ .mk rfl (by rw [← e1]; exact bits_fdiv hx)) (Or.inr hp)
end
theorem fmodB (a : Int) {b : Int} (h : 0 < b) : 0 ≤ a.fmod b ∧ a.fmod b < b := by
  rw [Int.fmod_eq_emod_of_nonneg _ (Int.le_of_lt h)]
  exact ⟨Int.emod_nonneg _ (by omega), Int.emod_lt_of_pos _ h⟩
theorem fdivE (a : Int) {b : Int} (h : 0 < b) : a.fdiv b = a / b := Int.fdiv_eq_ediv_of_nonneg _ (Int.le_of_lt h)
theorem fmodE (a : Int) {b : Int} (h : 0 < b) : a.fmod b = a % b := Int.fmod_eq_emod_of_nonneg _ (Int.le_of_lt h)
theorem Pre2.bq {a b n q r : Int} (H : Pre2 a b n q r) {N : Nat} (hn : n ≤ N) : intBits q ≤ N := Nat.le_trans (bits_of_lt H.q0 H.q1) (by have := H.n1; omega)
theorem Pre2.br {a b n q r : Int} (H : Pre2 a b n q r) {N : Nat} (hn : n ≤ N) : intBits r ≤ N := Nat.le_trans (bits_of_lt H.r0 (Int.lt_trans H.r1 H.b2)) (by have := H.n1; omega)
theorem eq_t {prog : Program} {w : World} {A : Around} {E : Value → Shared → Prop} {s : Shared} {a b : Int} {t u : Tok} {Q : Value → Shared → Prop} (e : a = b) (h : Q (.bool true) s) : wpAny (model prog w) A (compareOp .Eq (.int a t) (.int b u)) Q E s :=
  eq_int (by rw [e, beq_self_eq_true]; exact h)
end Mine
namespace Mine
set_option maxRecDepth 100000
set_option maxHeartbeats 8000000
open_top hd for PySem.Challenge.rw_dn0134_02
end Mine
namespace Mine
def PairCall (prog : Program) (w : World) (K : Frag) (p : Program) (loose : List Str) (mean : ExcName → Option Value) (mg mb : Str → Option Value) (f : Addr) (vs : List Value) (q r : Int) (k : Nat) : Prop :=
  ∀ (dp un : Nat) (gd : Option (List Code)) (cn : Str) (cs : Scope) (a : Addr) (ccd : Value) (cl : List (Str × Addr)) (outer : List Env) (A₀ : Around) (base h₀ : Heap) (L : Addr) (m : Str → Option Value) (news : List (Addr × Obj)) (s : Shared)
    (Q E : Value → Shared → Prop),
    Below A₀ base outer h₀ → Fr h₀ L s.heap m → K.In h₀ → News h₀ L s.heap news → Top p loose mean mg mb h₀ → cs.kind = .function → dp + k + 104 < recursionLimit → un + 8 * k + 100 < cLine →
    (∀ D t1 t2 c h' tk', Fr h₀ L h' m → News h₀ L h' ((D, pairO q r t1 t2 c) :: news) → AllLt D news → Q (.ref D) { s with heap := h', toks := tk' }) →
    wpAny (model prog w) (ktrTop dp un gd cn cs L a ccd cl outer) (call (.ref f) vs) Q E s

theorem pair_use {prog : Program} {w : World} {K : Frag} {p : Program} {loose : List Str} {mean : ExcName → Option Value} {mg mb : Str → Option Value} {f : Addr} {vs : List Value} {q r : Int} {k : Nat}
   {dp un : Nat} {gd : Option (List Code)} {cn : Str} {cs : Scope} {a : Addr} {ccd : Value} {cl : List (Str × Addr)} {outer : List Env} {A₀ : Around} {base h₀ : Heap} {L : Addr} {m : Str → Option Value} {news : List (Addr × Obj)} {s : Shared} {Q E : Value → Shared → Prop}
   (B : Below A₀ base outer h₀) (F : Fr h₀ L s.heap m) (X : K.In h₀) (N : News h₀ L s.heap news) (T : Top p loose mean mg mb h₀) (hk : cs.kind = .function) (C : PairCall prog w K p loose mean mg mb f vs q r k)
   (hd : dp + k + 104 < recursionLimit) (hu : un + 8 * k + 100 < cLine)
   (ret : ∀ D t1 t2 c h' tk', Fr h₀ L h' m → News h₀ L h' ((D, pairO q r t1 t2 c) :: news) → AllLt D news → Q (.ref D) { s with heap := h', toks := tk' }) :
    wpAny (model prog w) (ktrTop dp un gd cn cs L a ccd cl outer) (call (.ref f) vs) Q E s := C _ _ _ _ _ _ _ _ _ _ _ _ _ _ _ _ _ _ B F X N T hk hd hu ret

section
variable (w : World) (mean : ExcName → Option Value) (mg mb : Str → Option Value)
abbrev PC := PairCall PySem.Challenge.rw_dn0134_02.row.prog w (hd.heap_39 w.params) hd.view_39 (looseW hd.view_39 []) mean mg mb
def Div2 (k : Nat) : Prop := ∀ (a b n q r : Int) (t u v : Tok), Pre2 a b n q r → n ≤ 2 ^ k → k ≤ 19 → PC w mean mg mb 21 [.int a t, .int b u, .int n v] q r (2 * k + 2)
def Div3 (k : Nat) : Prop := ∀ (a12 a3 b b1 b2 n q r : Int) (t1 t2 t3 t4 t5 t6 : Tok), Pre3 a12 a3 b b1 b2 n q r → n ≤ 2 ^ k → k ≤ 19 → PC w mean mg mb 28 [.int a12 t1, .int a3 t2, .int b t3, .int b1 t4, .int b2 t5, .int n t6] q r (2 * k + 3)
end
end Mine
namespace Mine
open PySem.Builtin.Int (intBits)
local macro_rules | `(tactic| bits_by_make) => `(tactic| with_reducible assumption)
local macro_rules | `(tactic| walk_at "exec While Compare cons cons") => `(tactic| k_extra "mywhile")
local macro_rules | `(tactic| walk_at "exec While Compare cons nil") => `(tactic| k_extra "mywhile")
set_option maxRecDepth 100000 in
set_option maxHeartbeats 8000000 in
theorem div3_step (w : World) (mean : ExcName → Option Value) (mg mb : Str → Option Value) (k : Nat) (H : Div2 w mean mg mb k) : Div3 w mean mg mb k := by
  (have hh : PySem.Challenge.rw_dn0134_02 = PySem.Challenge.rw_dn0134_02 ∧ hd.heap_39 = hd.heap_39 := by (k_fill; exact ⟨rfl, rfl⟩))
  clear hh
  k_with_none
  intro a12 a3 b b1 b2 n q r t1 t2 t3 t4 t5 t6 P hn hk19
  have hn19 : n ≤ 524288 := Int.le_trans hn (pmono hk19)
  have hn1 := P.n1
  have hbp : intBits ((2 : Int) ^ n.toNat) ≤ 600000 := Nat.le_trans (bits_of_lt (k := n.toNat + 1) (Int.le_of_lt (ppos _)) (by rw [Int.pow_succ]; have := ppos n.toNat; omega)) (by omega)
  have hbb1 : intBits b1 ≤ 600000 := Nat.le_trans (bits_of_lt (by have := ppos (n.toNat - 1); have := P.b10; omega) P.b11) (by omega)
  have hbb2 : intBits b2 ≤ 600000 := Nat.le_trans (bits_of_lt P.b20 P.b21) (by omega)
  have hba : intBits a12 ≤ 5000000 := bits_of_natAbs_le (b := b) (by have := P.a12b; omega) (by rw [P.e]; exact Nat.le_trans (bits_add (bits_mul hbb1 hbp) hbb2) (by decide))
  unfold PC PairCall
  intro dp un gd cn cs a ccd cl outer A₀ base h₀ L m news s Q E B F X N T hk hd hu hret
  k_with "call ref" => (
    obtain ⟨q', r', hP'⟩ := P.neCase (by rw [← fdivP]; assumption)
    have hbr : intBits r' ≤ 600000 := Nat.le_trans (bits_of_lt hP'.r0 (Int.lt_trans hP'.r1 hP'.b2)) (by omega)
    have hbq : intBits q' ≤ 600000 := Nat.le_trans (bits_of_lt hP'.q0 hP'.q1) (by omega)
    (refine' pair_use ?k1 ?k2 ?k3 ?k4 ?k5 ?kK (H _ _ _ q' r' _ _ _ hP' hn hk19) ?kd ?ku ?_)
    (case k1 => k_asm)
    (case k2 => k_asm)
    (case k3 => k_asm)
    (case k4 => k_asm)
    (case k5 => k_asm)
    (case kK => exact rfl)
    (case kd => ktr_room)
    (case ku => ktr_units)
    intro D' x1 x2 c' h' tk' F' N' l'
    (try dsimp only)
    (try k_fold))
  k_with "mywhile" => (k_while (fun _ x y => y * b + x = q * b + r ∧ x < b) (fun _ x y => (- x).toNat) "r" "q")
  k_with "state" => (first | exact P.start1 (by assumption) | exact P.start2 (by assumption) | exact d3_turn ⟨by assumption, by assumption⟩ (by assumption))
  have hb0 : 0 < b := by have := P.r0; have := P.r1; omega
  refine wpAny_call ?_
  k_dflt ktr_enter
  k_steps
  all_goals (
    obtain ⟨e1, e2⟩ := P.fin (by assumption) (by assumption) (by assumption)
    subst e1
    subst e2
    refine hret _ _ _ _ _ _ (by k_asm) (news_sub (by k_asm) (sub0 (sub1 subr))) ?_
    first | assumption | exact And.right (by assumption))
end Mine
namespace Mine
open PySem.Builtin.Int (intBits)
local macro_rules | `(tactic| bits_by_make) => `(tactic| with_reducible assumption)
local macro_rules | `(tactic| walk_at "binaryOp RShift int int") => `(tactic| k_extra "half")
local macro_rules | `(tactic| walk_at "inplaceOp RShift int int") => `(tactic| with_reducible refine ihalf_z ?_)
local macro_rules | `(tactic| walk_at "inplaceOp LShift int int") => `(tactic| (with_reducible refine ilshift_int ?kbn ?kbs ?_; (case kbn => decide); (case kbs => refine kbm_shl (m := 2000000) (Nat.le_trans (by with_reducible assumption) ?_) ?_ ?_ <;> decide)))
local macro_rules | `(tactic| walk_at "call builtin:divmod") => `(tactic| k_extra "mydiv")
set_option maxRecDepth 100000 in
set_option maxHeartbeats 8000000 in
theorem div2_step (w : World) (mean : ExcName → Option Value) (mg mb : Str → Option Value) (k : Nat) (H : ∀ j, k = j + 1 → Div3 w mean mg mb j) : Div2 w mean mg mb k := by
  (have hh : PySem.Challenge.rw_dn0134_02 = PySem.Challenge.rw_dn0134_02 ∧ hd.heap_39 = hd.heap_39 := by (k_fill; exact ⟨rfl, rfl⟩))
  clear hh
  k_with_none
  intro a b n q r t1 t2 t3 P hn hk19
  have hn19 : n ≤ 524288 := Int.le_trans hn (pmono hk19)
  have hn1 := P.n1
  have hba : intBits a ≤ 1200000 := Nat.le_trans (bits_of_lt P.a0 P.alt) (by omega)
  have hbb : intBits b ≤ 600000 := Nat.le_trans (bits_of_lt (by have := P.r0; have := P.r1; omega) P.b2) (by omega)
  have hb0 : b ≠ 0 := by have := P.r0; have := P.r1; omega
  unfold PC PairCall
  intro dp un gd cn cs aa ccd cl outer A₀ base h₀ L m news s Q E B F X N T hk hd hu hret
  k_with "half" => (first
    | (with_reducible refine half_z (halves0 (by assumption)) ?_; intro hz ez)
    | (with_reducible refine half_z (halves1 (by assumption)) ?_; intro hz ez))
  k_with "mydiv" => (
    (refine' divmod_D ?k1 ?k2 hb0 P.fdm (PySem.PylongRoom.of (PySem.Heap.NoLimit.keeps (PyProof.Rows.Top.nolimit (by assumption)) (PyProof.Rows.Fr.keep (by assumption))) ?kd) ?_)
    (case k1 => k_asm)
    (case k2 => k_asm)
    (case kd => (simp only [Builtin.pylongFrames]; ktr_room))
    intro D' x1 x2 h' tk' F' N' l'
    (try dsimp only)
    (try k_fold))
  k_with "call ref" => (first
    | (
      (refine' pair_use ?k1 ?k2 ?k3 ?k4 ?k5 ?kK (hJ _ _ _ _ _ _ q2 _ _ _ _ _ _ _ h2 hjz hj19) ?kd ?ku ?_)
      (case k1 => k_asm)
      (case k2 => k_asm)
      (case k3 => k_asm)
      (case k4 => k_asm)
      (case k5 => k_asm)
      (case kK => exact rfl)
      (case kd => ktr_room)
      (case ku => ktr_units)
      intro D' x1 x2 c' h' tk' F' N' l'
      (try dsimp only)
      (try k_fold))
    | (
      obtain ⟨j, hj⟩ : ∃ j, k = j + 1 := ⟨k - 1, by have := P.big (by assumption); have : k ≠ 0 := (by intro e; subst e; simp at hn; omega); omega⟩
      have hJ := H j hj
      have hj19 : j ≤ 19 := by omega
      have hjz : hz ≤ 2 ^ j := halfLe ez (by rw [← hj]; omega)
      obtain ⟨q1, r1, q2, h1, h2, h3⟩ := (by first | exact P.halvesT ez | exact P.padT.halvesT ez : ∃ q1 r1 q2, _ ∧ _ ∧ _)
      have hbq1 : intBits q1 ≤ 600000 := Nat.le_trans (bits_of_lt h1.q0 h1.q1) (by omega)
      (refine' pair_use ?k1 ?k2 ?k3 ?k4 ?k5 ?kK (hJ _ _ _ _ _ _ q1 r1 _ _ _ _ _ _ h1 hjz hj19) ?kd ?ku ?_)
      (case k1 => k_asm)
      (case k2 => k_asm)
      (case k3 => k_asm)
      (case k4 => k_asm)
      (case k5 => k_asm)
      (case kK => exact rfl)
      (case kd => ktr_room)
      (case ku => ktr_units)
      intro D' x1 x2 c' h' tk' F' N' l'
      (try dsimp only)
      (try k_fold)))
  refine wpAny_call ?_
  k_dflt ktr_enter
  k_steps
  all_goals (first
    | exact absurd ‹Builtin.bitAnd n 1 = 0› ‹Builtin.bitAnd n 1 ≠ 0›
    | exact hret _ _ _ _ _ _ (by k_asm) (by k_asm) (by assumption)
    | (subst h3; refine hret _ _ _ _ _ _ (by k_asm) (news_sub (by k_asm) (sub0 (sub1 (sub1 (sub1 subr))))) ?_; exact (And.right (And.right (And.right (by assumption))))))
theorem div_all (w : World) (mean : ExcName → Option Value) (mg mb : Str → Option Value) : ∀ k, Div2 w mean mg mb k ∧ Div3 w mean mg mb k
  | 0 => have h := div2_step w mean mg mb 0 (fun j e => by omega); ⟨h, div3_step w mean mg mb 0 h⟩
  | k + 1 => have h := div2_step w mean mg mb (k + 1) (fun j e => by obtain rfl : k = j := by omega
                                                                     exact (div_all w mean mg mb k).2); ⟨h, div3_step w mean mg mb (k + 1) h⟩
theorem use2 {w : World} {mean : ExcName → Option Value} {mg mb : Str → Option Value} {a b n q r : Int} {t u v : Tok} (h : Pre2 a b n q r) (hn : n ≤ 262144) : PC w mean mg mb 21 [.int a t, .int b u, .int n v] q r 38 := (div_all w mean mg mb 18).1 a b n q r t u v h hn (by decide)
theorem use3 {w : World} {mean : ExcName → Option Value} {mg mb : Str → Option Value} {a12 a3 b b1 b2 n q r : Int} {t1 t2 t3 t4 t5 t6 : Tok} (h : Pre3 a12 a3 b b1 b2 n q r) (hn : n ≤ 262144) : PC w mean mg mb 28 [.int a12 t1, .int a3 t2, .int b t3, .int b1 t4, .int b2 t5, .int n t6] q r 39 := (div_all w mean mg mb 18).2 a12 a3 b b1 b2 n q r t1 t2 t3 t4 t5 t6 h hn (by decide)
end Mine
-- PARTS: math.txt div.txt
namespace Mine
open PySem.Builtin.Int (intBits)
theorem law2_pre1 {a b n q r p p2 x s wide : Int} (ha : a = q * b + r) (hb : b = p + x) (hp : p = 2 ^ (n - 1).toNat) (l : 0 ≤ x) (u : x < p2) (hp2 : p2 = 2 ^ (n - 1).toNat) (q0 : 0 ≤ q) (q1 : q < wide) (hw : wide = 2 ^ (n - s).toNat) (s0 : 0 ≤ s) (s1 : s < n) (r0 : 0 ≤ r) (r1 : r < b) : Pre2 a b n q r := by
  have e1 : (n - 1).toNat = n.toNat - 1 := by omega
  have e2 : (2 : Int) ^ n.toNat = 2 ^ (n.toNat - 1) * 2 := by rw [← Int.pow_succ]; congr 1; omega
  have e3 : (2 : Int) ^ (n - s).toNat ≤ 2 ^ n.toNat := pmono (by omega)
  rw [e1] at hp hp2
  exact ⟨by omega, ha, q0, by omega, r0, r1, by omega, by omega⟩
theorem law2_bpos {b p x : Int} (hb : b = p + x) (hp : 0 < p) (l : 0 ≤ x) : 0 < b := by omega
theorem law2_pre2 {a b n q r s wide cut head top : Int} (P : Pre2 a b n q r) (q1 : q < wide) (hw : wide = 2 ^ (n - s).toNat) (hc : cut = 2 ^ s.toNat) (s0 : 0 ≤ s) (s1 : s < n) (hh : head = a / cut) (ht : top = b / cut) (hl : head < wide * top) :
    ∃ g e, Pre2 head top (n - s) g e ∧ 0 ≤ g - q ∧ g - q ≤ 2 ∧ 0 ≤ e ∧ e < top ∧ e * cut + a.fmod cut - g * b.fmod cut = r - (g - q) * b := by
  have hC : 0 < cut := by rw [hc]; exact ppos _
  have hW : 0 < wide := by rw [hw]; exact ppos _
  have hWC : wide * cut = 2 ^ n.toNat := by rw [hw, hc, ← Int.pow_add]; congr 1; omega
  have hWC' : 2 ^ ((n - s).toNat - 1) * cut = 2 ^ (n.toNat - 1) := by rw [hc, ← Int.pow_add]; congr 1; omega
  have a0 := P.a0
  obtain ⟨n1, e, q0, q2, r0, r1, b1, b2⟩ := P
  have t1 : 2 ^ ((n - s).toNat - 1) ≤ top := by rw [ht]; exact Int.le_ediv_of_mul_le hC (by rw [hWC']; exact b1)
  have t2 : top < 2 ^ (n - s).toNat := by rw [ht, ← hw]; exact Int.ediv_lt_of_lt_mul hC (by rw [hWC]; exact b2)
  have t0 : 0 < top := by have := ppos ((n - s).toNat - 1); omega
  have ma := Int.emod_nonneg a (show cut ≠ 0 by omega)
  have ma2 := Int.emod_lt_of_pos a hC
  have mb := Int.emod_nonneg b (show cut ≠ 0 by omega)
  have mb2 := Int.emod_lt_of_pos b hC
  have da : a = head * cut + a % cut := by rw [hh, Int.mul_comm]; exact (Int.mul_ediv_add_emod a cut).symm
  have db : b = top * cut + b % cut := by rw [ht, Int.mul_comm]; exact (Int.mul_ediv_add_emod b cut).symm
  have h0 : 0 ≤ head := by rw [hh]; exact Int.ediv_nonneg a0 (by omega)
  have g1 := Int.emod_nonneg head (show top ≠ 0 by omega)
  have g2 := Int.emod_lt_of_pos head t0
  have g3 : head = head / top * top + head % top := by rw [Int.mul_comm]; exact (Int.mul_ediv_add_emod head top).symm
  have g4 : head / top < wide := Int.ediv_lt_of_lt_mul t0 hl
  have g5 : 0 ≤ head / top := Int.ediv_nonneg h0 (by omega)
  rw [fmodE _ hC, fmodE _ hC]
  generalize head / top = g at *
  generalize hee : head % top = ee at *
  generalize a % cut = ac at *
  generalize b % cut = bc at *
  refine ⟨g, ee, ⟨by omega, g3, g5, by omega, g1, g2, t1, t2⟩, ?_, ?_, g1, g2, ?_⟩
  · -- q * top ≤ head
    have k1 : q * (top * cut) ≤ q * b := Int.mul_le_mul_of_nonneg_left (by omega) q0
    have k2 : q * top * cut < (head + 1) * cut := by rw [Int.mul_assoc, Int.add_mul, Int.one_mul]; omega
    have k3 := lt_of_mul hC k2
    have k4 : q * top < (g + 1) * top := by rw [Int.add_mul, Int.one_mul]; omega
    have k5 := lt_of_mul t0 k4
    omega
  · rcases Int.lt_or_le (q + 2) g with hg | hg
    · exfalso
      have k1 : (q + 3) * top ≤ g * top := mul_le_of (by omega) (by omega)
      have k2 : (q + 3) * top * cut ≤ head * cut := mul_le_of (by omega) (by omega)
      have k3 : (q + 3) * (b - cut) ≤ (q + 3) * (top * cut) := Int.mul_le_mul_of_nonneg_left (by omega) (by omega)
      rw [← Int.mul_assoc, Int.mul_sub] at k3
      have k4 : (q + 3) * b = q * b + 3 * b := Int.add_mul ..
      have k5 : (q + 3) * cut ≤ wide * cut := mul_le_of (by omega) (by omega)
      have e2 : (2 : Int) ^ n.toNat = 2 ^ (n.toNat - 1) * 2 := by rw [← Int.pow_succ]; congr 1; omega
      omega
    · omega
  · have k1 : g * b = g * (top * cut) + g * bc := by rw [← Int.mul_add, ← db]
    have k2 : head * cut = g * top * cut + ee * cut := by rw [← Int.add_mul, ← g3]
    rw [Int.mul_assoc] at k2
    rw [Int.sub_mul]
    omega
theorem law2_fin {g e q r cut a b A B : Int} (hA : A = a.fmod cut) (hB : B = b.fmod cut) (h : e * cut + a.fmod cut - g * b.fmod cut = r - (g - q) * b) : e * cut + A - g * B = r - (g - q) * b := by rw [hA, hB]; exact h
local macro_rules | `(tactic| bits_by_make) => `(tactic| with_reducible assumption)
local macro_rules | `(tactic| walk_at "storeName") => `(tactic| ((fail_if_success ((with_reducible refine abs_skip ?ka ?kb); (case ka => with_reducible assumption))); k_extra "abs"))
local macro_rules | `(tactic| walk_at "binaryOp Pow int int") => `(tactic| ((with_reducible refine' pow3_z ?ka ?kb ?_); (case ka => bits_by_make); (case kb => decide); k_extra "intro3"))
local macro_rules | `(tactic| walk_at "binaryOp Pow int int") => `(tactic| ((with_reducible refine pow2_p (N := 20000) ?kb1 ?kb2 ?kb3 ?_); (case kb1 => omega); (case kb2 => omega); (case kb3 => decide); k_extra "introP"))
local macro_rules | `(tactic| walk_at "binaryOp Mod int int") => `(tactic| ((with_reducible refine' mod_p ?ka ?kb ?_); (case ka => first | decide | assumption | k_extra "pos"); (case kb => bits_by_make); k_extra "introM"))
local macro_rules | `(tactic| walk_at "call ref") => `(tactic| k_extra "mycall")
local macro_rules | `(tactic| walk_at "binaryOp FloorDiv int int") => `(tactic| k_extra "floordiv")
local macro_rules | `(tactic| walk_at "compareOp Eq int int") => `(tactic| k_extra "eq")
set_option maxRecDepth 100000 in
set_option maxHeartbeats 8000000 in
theorem X : PySem.Challenge.rw_dn0134_02.Holds := hd (by
  k_with_none
  k_with "abs" => ((with_reducible refine' abs_store ?ka ?_); (case ka => bits_by_make); intro z az hz bz)
  k_with "intro3" => (intro z3 az3 hz3 bz3)
  k_with "introP" => (intro zp ap hzp pzp bzp)
  k_with "introM" => (intro zm am hzm lom him bzm)
  k_with "pos" => (first | omega | exact law2_bpos (by assumption) (by assumption) (by assumption))
  k_with "floordiv" => (
    (with_reducible refine' fdv_p ?ka ?kb ?kc ?_)
    (case ka => assumption)
    (case kb => bits_by_make)
    (case kc => exact PySem.PylongRoom.of (by (refine PySem.Heap.NoLimit.keeps ?_ (PyProof.Rows.Fr.keep (by assumption)); first | assumption | exact PyProof.Rows.Glob.nolimit (by assumption) | exact PyProof.Rows.Top.nolimit (by assumption))) (of_decide_eq_true (by with_unfolding_all rfl)))
    intro z az hz bz)
  k_with "eq" => ((refine eq_t ?ka ?_); (case ka => exact law2_fin (by assumption) (by assumption) hfin))
  k_with "mycall" => (first
    | (
      (with_reducible show wpAny _ _ (call (Value.ref 21) _ _) _ _ _)
      have hL : _ < _ * _ := Int.not_le.mp (by assumption)
      obtain ⟨g, e, hP2, hg1, hg2, he1, he2, hfin⟩ := law2_pre2 hP1 (by assumption) (by assumption) (by assumption) (by assumption) (by assumption) (by assumption) (by assumption) hL
      have hbg := hP2.bq (N := 20000) (by omega)
      have hbe := hP2.br (N := 20000) (by omega)
      k_dflt (refine' pair_use ?k1 ?k2 ?k3 ?k4 ?k5 ?kK (use2 hP2 ?kn) ?kd ?ku ?_)
      (case k1 => k_asm)
      (case k2 => k_asm)
      (case k3 => k_asm)
      (case k4 => k_asm)
      (case k5 => k_asm)
      (case kK => exact rfl)
      (case kd => ktr_room)
      (case ku => ktr_units)
      (case kn => omega)
      intro D' x1 x2 c' h' tk' F' N' l'
      (try dsimp only)
      (try k_fold))
    | (
      (with_reducible show wpAny _ _ (call (Value.ref 21) _ _) _ _ _)
      (fail_if_success (have := hP1))
      have hP1 := law2_pre1 (by assumption) (by assumption) (by assumption) (by assumption) (by assumption) (by assumption) (by assumption) (by assumption) (by assumption) (by assumption) (by assumption) (by assumption) (by assumption)
      k_dflt (refine' pair_use ?k1 ?k2 ?k3 ?k4 ?k5 ?kK (use2 hP1 ?kn) ?kd ?ku ?_)
      (case k1 => k_asm)
      (case k2 => k_asm)
      (case k3 => k_asm)
      (case k4 => k_asm)
      (case k5 => k_asm)
      (case kK => exact rfl)
      (case kd => ktr_room)
      (case ku => ktr_units)
      (case kn => omega)
      intro D' x1 x2 c' h' tk' F' N' l'
      (try dsimp only)
      (try k_fold)))
  k_go0
  (all_goals try k_fold)
  k_steps)
end Mine
theorem PySem.Challenge.cw_dn0134_02_holds : PySem.Challenge.rw_dn0134_02.Holds :=
  Mine.X
