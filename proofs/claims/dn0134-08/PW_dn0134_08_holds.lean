import PyProof.Rows.All
import Wide.All
import OpenK.AllK
import Wide.FinOn
import PySem.Challenge.RW_dn0134_08
open PySem PySem.W PyProof.Rows
set_option Elab.async false
namespace Mine
open PySem.Builtin.Int (intBits)

theorem ppos (k : Nat) : (0 : Int) < 2 ^ k := kbt_pos k
theorem pmono {i j : Nat} (h : i ≤ j) : (2 : Int) ^ i ≤ 2 ^ j := by
  have := Nat.pow_le_pow_right (n := 2) (by decide) h
  rw [← kbt_cast, ← kbt_cast]; omega
theorem uniqNN {q b r q' r' : Int} (h : q * b + r = q' * b + r') (r0 : 0 ≤ r) (r1 : r < b) (r0' : 0 ≤ r') (r1' : r' < b) : q = q' ∧ r = r' := by
  have hb : 0 < b := by omega
  have h1 := kbt_unique (a := q * b + r) (b := b) (q := q) (r := r) hb (by rw [Int.mul_comm b q]; omega) r0 r1
  have h2 := kbt_unique (a := q * b + r) (b := b) (q := q') (r := r') hb (by rw [Int.mul_comm b q']; omega) r0' r1'
  exact ⟨h1.1.symm.trans h2.1, h1.2.symm.trans h2.2⟩
theorem mul_le_of {a b c : Int} (hc : 0 ≤ c) (h : a ≤ b) : a * c ≤ b * c := Int.mul_le_mul_of_nonneg_right h hc
theorem mul_lt_of {a b c : Int} (hc : 0 < c) (h : a < b) : a * c < b * c := Int.mul_lt_mul_of_pos_right h hc
theorem lt_of_mul {a b c : Int} (hc : 0 < c) (h : a * c < b * c) : a < b := Int.lt_of_mul_lt_mul_right h (Int.le_of_lt hc)
theorem bits_of_lt {x : Int} {k : Nat} (h0 : 0 ≤ x) (h : x < 2 ^ k) : intBits x ≤ k := by
  refine intBits_le_iff.mpr ?_
  have := kbt_cast k
  omega
theorem lt_of_bits {x : Int} {k : Nat} (h : intBits x ≤ k) : x < 2 ^ k := by
  have h1 := intBits_le_iff.mp h
  have := kbt_cast k
  omega
theorem fdivP (a : Int) (k : Nat) : a.fdiv (2 ^ k) = a / 2 ^ k := Int.fdiv_eq_ediv_of_nonneg _ (Int.le_of_lt (kbt_pos k))
theorem and_all (x : Int) : Builtin.bitAnd x (-1) = x := by
  have hn : ¬ (0 : Int) ≤ -1 := by decide
  have e : (Builtin.bitNot (-1)).toNat = 0 := by decide
  by_cases hx : 0 ≤ x
  · rw [bitAnd_pn hx hn, e, Nat.and_zero]; simp
  · rw [bitAnd_nn hx hn, e, Nat.or_zero]
    unfold Builtin.bitNot
    omega
/-- the bits of the one and of the other -/
theorem or_add {x y : Int} {k : Nat} (y0 : 0 ≤ y) (y1 : y < 2 ^ k) : Builtin.bitOr (x * 2 ^ k) y = x * 2 ^ k + y := by
  have hp := kbt_pos k
  have key : ∀ k : Nat, ∀ x y : Int, 0 ≤ y → y < 2 ^ k → Builtin.bitAnd (Builtin.bitNot (x * 2 ^ k)) (Builtin.bitNot y) = Builtin.bitNot (x * 2 ^ k + y) := by
    intro k
    induction k with
    | zero =>
      intro x y h0 h1
      have : y = 0 := by rw [Int.pow_zero] at h1; omega
      subst this
      rw [Int.add_zero]
      have e : Builtin.bitNot 0 = -1 := rfl
      rw [e, and_all]
    | succ k ih =>
      intro x y h0 h1
      rw [Int.pow_succ] at h1
      rw [kbt_halves]
      have e1 : Builtin.bitNot (x * 2 ^ (k + 1)) / 2 = Builtin.bitNot (x * 2 ^ k) := by
        unfold Builtin.bitNot
        rw [Int.pow_succ, ← Int.mul_assoc]; omega
      have e2 : Builtin.bitNot y / 2 = Builtin.bitNot (y / 2) := by unfold Builtin.bitNot; omega
      rw [e1, e2, ih x (y / 2) (by omega) (by omega)]
      unfold Builtin.bitNot
      rw [Int.pow_succ, ← Int.mul_assoc]
      generalize x * 2 ^ k = z
      split <;> omega
  unfold Builtin.bitOr
  rw [key k x y y0 y1]
  unfold Builtin.bitNot; omega
end Mine
namespace Mine
open PySem.Builtin.Int (intBits)
structure Pre2 (a b n q r : Int) : Prop where
  n1 : 1 ≤ n
  e : a = q * b + r
  q0 : 0 ≤ q
  q1 : q < 2 ^ n.toNat
  r0 : 0 ≤ r
  r1 : r < b
  b1 : 2 ^ (n.toNat - 1) ≤ b
  b2 : b < 2 ^ n.toNat
structure Pre3 (a12 a3 b b1 b2 n q r : Int) : Prop where
  n1 : 1 ≤ n
  ea : a12 * 2 ^ n.toNat + a3 = q * b + r
  q0 : 0 ≤ q
  q1 : q < 2 ^ n.toNat
  r0 : 0 ≤ r
  r1 : r < b
  e : b = b1 * 2 ^ n.toNat + b2
  b10 : 2 ^ (n.toNat - 1) ≤ b1
  b11 : b1 < 2 ^ n.toNat
  b20 : 0 ≤ b2
  b21 : b2 < 2 ^ n.toNat
  a30 : 0 ≤ a3
  a31 : a3 < 2 ^ n.toNat
section
variable {a12 a3 b b1 b2 n q r : Int}
theorem Pre3.a12b (H : Pre3 a12 a3 b b1 b2 n q r) : 0 ≤ a12 ∧ a12 < b := by
  obtain ⟨n1, ea, q0, q1, r0, r1, e, b10, b11, b20, b21, a30, a31⟩ := H
  have hP := ppos n.toNat
  have hB := ppos (n.toNat - 1)
  generalize (2 : Int) ^ n.toNat = P at *
  have hb1 : 0 ≤ b1 * P := Int.mul_nonneg (by omega) (by omega)
  have hb : 0 < b := by omega
  constructor
  · have h0 : 0 ≤ q * b := Int.mul_nonneg q0 (by omega)
    have : (-1) * P < a12 * P := by omega
    have := lt_of_mul hP this
    omega
  · refine lt_of_mul hP ?_
    have h1 : (q + 1) * b ≤ P * b := mul_le_of (by omega) (by omega)
    rw [Int.add_mul, Int.one_mul, Int.mul_comm P b] at h1
    omega
theorem Pre3.eqCase (H : Pre3 a12 a3 b b1 b2 n q r) (h : a12 / 2 ^ n.toNat = b1) :
    (2 ^ n.toNat - 1) * b + ((a12 - b1 * 2 ^ n.toNat + b1) * 2 ^ n.toNat + a3 - (2 ^ n.toNat - 1) * b2) = q * b + r ∧
      (a12 - b1 * 2 ^ n.toNat + b1) * 2 ^ n.toNat + a3 - (2 ^ n.toNat - 1) * b2 < b ∧ 0 ≤ a12 - b1 * 2 ^ n.toNat + b1 ∧ a12 - b1 * 2 ^ n.toNat + b1 < 2 ^ (n.toNat + 1) := by
  have h2 := H.a12b
  obtain ⟨n1, ea, q0, q1, r0, r1, e, b10, b11, b20, b21, a30, a31⟩ := H
  have hP := ppos n.toNat
  have hB := ppos (n.toNat - 1)
  have hs : (2 : Int) ^ (n.toNat + 1) = 2 ^ n.toNat * 2 := Int.pow_succ ..
  rw [hs]
  generalize (2 : Int) ^ n.toNat = P at *
  have hm := Int.emod_nonneg a12 (show P ≠ 0 by omega)
  have hm2 := Int.emod_lt_of_pos a12 hP
  have hd := Int.emod_def a12 P
  rw [h, Int.mul_comm P b1] at hd
  generalize hx : a12 - b1 * P = x at *
  have h3 : x * P ≤ (b2 - 1) * P := mul_le_of (by omega) (by omega)
  have e1 : (x + b1) * P = x * P + b1 * P := Int.add_mul ..
  have e2 : (b2 - 1) * P = b2 * P - P := by rw [Int.sub_mul, Int.one_mul]
  have e3 : (P - 1) * b2 = b2 * P - b2 := by rw [Int.sub_mul, Int.one_mul, Int.mul_comm]
  have e4 : (P - 1) * b = b * P - b := by rw [Int.sub_mul, Int.one_mul, Int.mul_comm]
  have e5 : b * P = b1 * P * P + b2 * P := by rw [e, Int.add_mul]
  have e6 : a12 * P = b1 * P * P + x * P := by rw [← hx, Int.sub_mul]; omega
  refine ⟨by omega, by omega, by omega, by omega⟩
theorem Pre3.neCase (H : Pre3 a12 a3 b b1 b2 n q r) (h : a12 / 2 ^ n.toNat ≠ b1) : ∃ q' r', Pre2 a12 b1 n q' r' := by
  have h2 := H.a12b
  obtain ⟨n1, ea, q0, q1, r0, r1, e, b10, b11, b20, b21, a30, a31⟩ := H
  have hP := ppos n.toNat
  have hB := ppos (n.toNat - 1)
  have hb1 : 0 < b1 := by omega
  have h3 : a12 < b1 * 2 ^ n.toNat := by
    generalize (2 : Int) ^ n.toNat = P at *
    have h4 : a12 / P < b1 + 1 := Int.ediv_lt_of_lt_mul hP (by rw [Int.add_mul]; omega)
    exact Int.lt_mul_of_ediv_lt hP (by omega)
  refine ⟨a12 / b1, a12 % b1, n1, ?_, Int.ediv_nonneg h2.1 (by omega), Int.ediv_lt_of_lt_mul hb1 (by rw [Int.mul_comm]; exact h3), Int.emod_nonneg _ (by omega), Int.emod_lt_of_pos _ hb1, b10, b11⟩
  rw [Int.mul_comm]; exact (Int.mul_ediv_add_emod a12 b1).symm
theorem Pre3.ne2 (H : Pre3 a12 a3 b b1 b2 n q r) {q' r' : Int} (h : Pre2 a12 b1 n q' r') :
    q' * b + (r' * 2 ^ n.toNat + a3 - q' * b2) = q * b + r ∧ r' * 2 ^ n.toNat + a3 - q' * b2 < b := by
  obtain ⟨n1, ea, q0, q1, r0, r1, e, b10, b11, b20, b21, a30, a31⟩ := H
  obtain ⟨_, e', q0', q1', r0', r1', _, _⟩ := h
  have hP := ppos n.toNat
  generalize (2 : Int) ^ n.toNat = P at *
  have h1 : 0 ≤ q' * b2 := Int.mul_nonneg q0' b20
  have h2 : r' * P ≤ (b1 - 1) * P := mul_le_of (by omega) (by omega)
  have e2 : (b1 - 1) * P = b1 * P - P := by rw [Int.sub_mul, Int.one_mul]
  refine ⟨?_, by omega⟩
  rw [← ea, e', e, Int.mul_add, Int.add_mul, ← Int.mul_assoc]
  omega
end
section
variable {a b n q r : Int}
theorem Pre2.pad (H : Pre2 a b n q r) : Pre2 (a * 2) (b * 2) (n + 1) q (r * 2) := by
  obtain ⟨n1, e, q0, q1, r0, r1, b1, b2⟩ := H
  have e1 : (n + 1).toNat = n.toNat + 1 := by omega
  have e2 : (n + 1).toNat - 1 = (n.toNat - 1) + 1 := by omega
  have hs : (2 : Int) ^ (n.toNat + 1) = 2 ^ n.toNat * 2 := Int.pow_succ ..
  have hs' : (2 : Int) ^ (n.toNat - 1 + 1) = 2 ^ (n.toNat - 1) * 2 := Int.pow_succ ..
  have hP := ppos n.toNat
  refine ⟨by omega, ?_, q0, ?_, by omega, by omega, ?_, ?_⟩
  · rw [e, Int.add_mul, Int.mul_assoc]
  · rw [e1, hs]; omega
  · rw [e2, hs']; omega
  · rw [e1, hs]; omega
/-- the first half's division and the second's -/
theorem Pre2.halves (H : Pre2 a b n q r) {h : Int} (hn : n = h * 2) : ∃ q1 r1 q2, Pre3 (a / 2 ^ n.toNat) ((a / 2 ^ h.toNat) % 2 ^ h.toNat) b (b / 2 ^ h.toNat) (b % 2 ^ h.toNat) h q1 r1 ∧
    Pre3 r1 (a % 2 ^ h.toNat) b (b / 2 ^ h.toNat) (b % 2 ^ h.toNat) h q2 r ∧ q = q1 * 2 ^ h.toNat + q2 := by
  obtain ⟨n1, e, q0, q1, r0, r1, b1, b2⟩ := H
  have hb : 0 < b := by omega
  have hk : n.toNat = h.toNat + h.toNat := by omega
  have hk' : n.toNat - 1 = (h.toNat - 1) + h.toNat := by omega
  have hP := ppos h.toNat
  have hP' := ppos (h.toNat - 1)
  have ep : (2 : Int) ^ n.toNat = 2 ^ h.toNat * 2 ^ h.toNat := by rw [hk, Int.pow_add]
  have ep' : (2 : Int) ^ (n.toNat - 1) = 2 ^ (h.toNat - 1) * 2 ^ h.toNat := by rw [hk', Int.pow_add]
  have h1 : 1 ≤ h := by omega
  rw [ep] at b2 q1 ⊢
  rw [ep'] at b1
  have a0 : 0 ≤ a := by
    have : 0 ≤ q * b := Int.mul_nonneg q0 (by omega)
    omega
  have k1 : 2 ^ (h.toNat - 1) ≤ b / 2 ^ h.toNat := Int.le_ediv_of_mul_le hP b1
  have k2 : b / 2 ^ h.toNat < 2 ^ h.toNat := Int.ediv_lt_of_lt_mul hP b2
  have k3 := Int.emod_nonneg b (show (2 : Int) ^ h.toNat ≠ 0 by omega)
  have k4 := Int.emod_lt_of_pos b hP
  have k5 : b = b / 2 ^ h.toNat * 2 ^ h.toNat + b % 2 ^ h.toNat := by rw [Int.mul_comm]; exact (Int.mul_ediv_add_emod b _).symm
  have c3 := Int.emod_nonneg (a / 2 ^ h.toNat) (show (2 : Int) ^ h.toNat ≠ 0 by omega)
  have c4 := Int.emod_lt_of_pos (a / 2 ^ h.toNat) hP
  have d3 := Int.emod_nonneg a (show (2 : Int) ^ h.toNat ≠ 0 by omega)
  have d4 := Int.emod_lt_of_pos a hP
  have f1 : a / (2 ^ h.toNat * 2 ^ h.toNat) = a / 2 ^ h.toNat / 2 ^ h.toNat := (Int.ediv_ediv_of_nonneg (by omega)).symm
  rw [f1]
  have f2 : a / 2 ^ h.toNat / 2 ^ h.toNat * 2 ^ h.toNat + (a / 2 ^ h.toNat) % 2 ^ h.toNat = a / 2 ^ h.toNat := by rw [Int.mul_comm]; exact Int.mul_ediv_add_emod _ _
  have f3 : a / 2 ^ h.toNat * 2 ^ h.toNat + a % 2 ^ h.toNat = a := by rw [Int.mul_comm]; exact Int.mul_ediv_add_emod _ _
  have g0 : 0 ≤ a / 2 ^ h.toNat := Int.ediv_nonneg a0 (by omega)
  have g1 : a / 2 ^ h.toNat < 2 ^ h.toNat * b := by
    refine Int.ediv_lt_of_lt_mul hP ?_
    have h3 : (q + 1) * b ≤ 2 ^ h.toNat * 2 ^ h.toNat * b := mul_le_of (by omega) (by omega)
    rw [Int.add_mul, Int.one_mul] at h3
    rw [Int.mul_right_comm]
    omega
  generalize hx : a / 2 ^ h.toNat = x at *
  have m1 := Int.emod_nonneg x (show b ≠ 0 by omega)
  have m2 := Int.emod_lt_of_pos x hb
  have m3 : x = x / b * b + x % b := by rw [Int.mul_comm]; exact (Int.mul_ediv_add_emod x b).symm
  have m4 : x / b < 2 ^ h.toNat := Int.ediv_lt_of_lt_mul hb g1
  have m5 : 0 ≤ x / b := Int.ediv_nonneg g0 (by omega)
  generalize x / b = y at *
  generalize x % b = z at *
  have w0 : 0 ≤ z * 2 ^ h.toNat := Int.mul_nonneg m1 (by omega)
  have w1 : z * 2 ^ h.toNat ≤ (b - 1) * 2 ^ h.toNat := mul_le_of (by omega) (by omega)
  have w2 : (b - 1) * 2 ^ h.toNat = 2 ^ h.toNat * b - 2 ^ h.toNat := by rw [Int.sub_mul, Int.one_mul, Int.mul_comm]
  have v1 := Int.emod_nonneg (z * 2 ^ h.toNat + a % 2 ^ h.toNat) (show b ≠ 0 by omega)
  have v2 := Int.emod_lt_of_pos (z * 2 ^ h.toNat + a % 2 ^ h.toNat) hb
  have v3 : z * 2 ^ h.toNat + a % 2 ^ h.toNat = (z * 2 ^ h.toNat + a % 2 ^ h.toNat) / b * b + (z * 2 ^ h.toNat + a % 2 ^ h.toNat) % b := by
    generalize z * 2 ^ h.toNat + a % 2 ^ h.toNat = y'
    rw [Int.mul_comm]; exact (Int.mul_ediv_add_emod _ b).symm
  have v4 : (z * 2 ^ h.toNat + a % 2 ^ h.toNat) / b < 2 ^ h.toNat := Int.ediv_lt_of_lt_mul hb (by omega)
  have v5 : 0 ≤ (z * 2 ^ h.toNat + a % 2 ^ h.toNat) / b := Int.ediv_nonneg (by omega) (by omega)
  generalize hu : (z * 2 ^ h.toNat + a % 2 ^ h.toNat) / b = u at *
  generalize hv : (z * 2 ^ h.toNat + a % 2 ^ h.toNat) % b = v at *
  have U : q = y * 2 ^ h.toNat + u ∧ r = v := by
    refine uniqNN (b := b) ?_ r0 r1 v1 v2
    rw [← e, ← f3, m3, Int.add_mul, Int.add_mul, Int.mul_right_comm y b]
    omega
  obtain ⟨U1, rfl⟩ := U
  exact ⟨y, z, u, ⟨h1, by rw [f2]; exact m3, m5, m4, m1, m2, k5, k1, k2, k3, k4, c3, c4⟩, ⟨h1, v3, v5, v4, v1, v2, k5, k1, k2, k3, k4, d3, d4⟩, U1⟩
end
end Mine
namespace Mine
section
variable {a12 a3 b b1 b2 n q r : Int}
theorem Pre3.start1 (H : Pre3 a12 a3 b b1 b2 n q r) (h : a12.fdiv (2 ^ n.toNat) = b1) :
    (1 * 2 ^ n.toNat - 1) * b + (Builtin.bitOr ((a12 - b1 * 2 ^ n.toNat + b1) * 2 ^ n.toNat) a3 - (1 * 2 ^ n.toNat - 1) * b2) = q * b + r ∧ Builtin.bitOr ((a12 - b1 * 2 ^ n.toNat + b1) * 2 ^ n.toNat) a3 - (1 * 2 ^ n.toNat - 1) * b2 < b := by
  rw [or_add H.a30 H.a31, Int.one_mul]
  have h' := H.eqCase (by rw [← fdivP]; exact h)
  exact ⟨h'.1, h'.2.1⟩
theorem Pre3.start2 (H : Pre3 a12 a3 b b1 b2 n q r) {q' r' : Int} (h : Pre2 a12 b1 n q' r') :
    q' * b + (Builtin.bitOr (r' * 2 ^ n.toNat) a3 - q' * b2) = q * b + r ∧ Builtin.bitOr (r' * 2 ^ n.toNat) a3 - q' * b2 < b := by
  rw [or_add H.a30 H.a31]
  exact H.ne2 h
theorem d3_turn {x y b c : Int} (h : y * b + x = c ∧ x < b) (h0 : x < 0) : (y - 1) * b + (x + b) = c ∧ x + b < b := by
  rw [Int.sub_mul, Int.one_mul]; omega
end
end Mine
namespace Mine
theorem Pre3.fin {a12 a3 b b1 b2 n q r x y : Int} (H : Pre3 a12 a3 b b1 b2 n q r) (h : y * b + x = q * b + r) (h0 : ¬ x < 0) (h1 : x < b) : y = q ∧ x = r :=
  uniqNN h (by omega) h1 H.r0 H.r1
theorem news_sub {h₀ h : Heap} {L : Addr} {news news' : List (Addr × Obj)} (N : News h₀ L h news') (hs : ∀ p ∈ news, p ∈ news') : News h₀ L h news := fun p hp => N p (hs p hp)
theorem sub0 {p : Addr × Obj} {l l' : List (Addr × Obj)} (h : ∀ q ∈ l, q ∈ l') : ∀ q ∈ p :: l, q ∈ p :: l' := fun q hq => (List.mem_cons.mp hq).elim (fun e => e ▸ .head _) fun m => .tail _ (h q m)
theorem sub1 {p : Addr × Obj} {l l' : List (Addr × Obj)} (h : ∀ q ∈ l, q ∈ l') : ∀ q ∈ l, q ∈ p :: l' := fun q hq => .tail _ (h q hq)
theorem subr {l : List (Addr × Obj)} : ∀ q ∈ l, q ∈ l := fun _ h => h
end Mine
namespace Mine
open PySem.Builtin.Int (intBits)
section
variable {a b n q r : Int}
theorem Pre2.a0 (H : Pre2 a b n q r) : 0 ≤ a := by
  have h1 := H.r0; have h2 := H.r1
  have : 0 ≤ q * b := Int.mul_nonneg H.q0 (by omega)
  have := H.e
  omega
theorem Pre2.alt (H : Pre2 a b n q r) : a < 2 ^ (n.toNat + n.toNat) := by
  have h1 := H.r0; have h2 := H.r1
  have h3 : (q + 1) * b ≤ 2 ^ n.toNat * b := mul_le_of (by omega) (by have := H.q1; omega)
  have h4 : b * 2 ^ n.toNat ≤ 2 ^ n.toNat * 2 ^ n.toNat := mul_le_of (Int.le_of_lt (ppos _)) (Int.le_of_lt H.b2)
  rw [Int.pow_add]
  have := H.e
  rw [Int.add_mul, Int.one_mul] at h3
  rw [Int.mul_comm b] at h4
  omega
theorem Pre2.big (H : Pre2 a b n q r) (h : ¬ (intBits a : Int) - n ≤ 4000) : 4000 < n := by
  have h1 := bits_of_lt H.a0 H.alt
  have := H.n1
  omega
theorem and_mask (x : Int) (k : Nat) : Builtin.bitAnd x (1 * 2 ^ k - 1) = x % 2 ^ k := by rw [Int.one_mul, kbt_mask]
theorem Pre2.halvesT (H : Pre2 a b n q r) {h : Int} (hn : n = h * 2) : ∃ q1 r1 q2, Pre3 (a.fdiv (2 ^ n.toNat)) (Builtin.bitAnd (a.fdiv (2 ^ h.toNat)) (1 * 2 ^ h.toNat - 1)) b (b.fdiv (2 ^ h.toNat)) (Builtin.bitAnd b (1 * 2 ^ h.toNat - 1)) h q1 r1 ∧
    Pre3 r1 (Builtin.bitAnd a (1 * 2 ^ h.toNat - 1)) b (b.fdiv (2 ^ h.toNat)) (Builtin.bitAnd b (1 * 2 ^ h.toNat - 1)) h q2 r ∧ Builtin.bitOr (q1 * 2 ^ h.toNat) q2 = q := by
  simp only [fdivP, and_mask]
  obtain ⟨q1, r1, q2, h1, h2, h3⟩ := H.halves hn
  exact ⟨q1, r1, q2, h1, h2, by rw [or_add h2.q0 h2.q1]; exact h3.symm⟩
theorem halves0 (hp : Builtin.bitAnd n 1 = 0) : n = n.fdiv (2 ^ (1 : Int).toNat) * 2 := by
  rw [bitAnd_m1] at hp
  have e : (2 : Int) ^ (1 : Int).toNat = 2 := by decide
  rw [e, Int.fdiv_eq_ediv_of_nonneg _ (by decide)]
  omega
theorem halves1 (hp : Builtin.bitAnd n 1 ≠ 0) : n + 1 = (n + 1).fdiv (2 ^ (1 : Int).toNat) * 2 := by
  rw [bitAnd_m1] at hp
  have e : (2 : Int) ^ (1 : Int).toNat = 2 := by decide
  rw [e, Int.fdiv_eq_ediv_of_nonneg _ (by decide)]
  omega
theorem Pre2.padT (H : Pre2 a b n q r) : Pre2 (a * 2 ^ (1 : Int).toNat) (b * 2 ^ (1 : Int).toNat) (n + 1) q (r * 2) := H.pad
theorem halfLe {n h : Int} {j : Nat} (hn : n = h * 2) (hk : n ≤ 2 ^ (j + 1) + 1) : h ≤ 2 ^ j := by
  rw [Int.pow_succ] at hk; omega
theorem Pre2.fdm (H : Pre2 a b n q r) : a.fdiv b = q ∧ a.fmod b = r := by
  have h1 := H.r0; have h2 := H.r1
  rw [Int.fdiv_eq_ediv_of_nonneg _ (by omega), Int.fmod_eq_emod_of_nonneg _ (by omega)]
  exact kbt_unique (by omega) (by rw [H.e, Int.mul_comm]; omega) h1 h2
end
theorem half_z {prog : Program} {w : World} {A : Around} {E : Value → Shared → Prop} {s : Shared} {Q : Value → Shared → Prop} {n : Int} {t u : Tok} (he : n = n.fdiv (2 ^ (1 : Int).toNat) * 2) (h : ∀ z, n = z * 2 → Q (.int z s.toks) { s with toks := s.toks + 1 }) :
    wpAny (model prog w) A (binaryOp .RShift (.int n t) (.int 1 u)) Q E s := rshift_int (by decide) (h _ he)
theorem ihalf_z {prog : Program} {w : World} {A : Around} {E : Value → Shared → Prop} {s : Shared} {Q : Value → Shared → Prop} {r : Int} {t u : Tok} (h : Q (.int r s.toks) { s with toks := s.toks + 1 }) :
    wpAny (model prog w) A (inplaceOp .RShift (.int (r * 2) t) (.int 1 u)) Q E s := irshift_int (by decide) (by
  have e : (r * 2).fdiv (2 ^ (1 : Int).toNat) = r := by
    have e : (2 : Int) ^ (1 : Int).toNat = 2 := by decide
    rw [e, Int.fdiv_eq_ediv_of_nonneg _ (by decide)]
    omega
  rw [e]; exact h)
abbrev pairO (q r : Int) (t1 t2 : Tok) (c : Nat) : Obj := { cls := .type "tuple", data := .seq #[.int q t1, .int r t2] c }
theorem divmod_D {prog : Program} {w : World} {A : Around} {E : Value → Shared → Prop} {s : Shared} {a b q r : Int} {t u : Tok} {Q : Value → Shared → Prop} {h₀ : Heap} {L : Addr} {m : Str → Option Value} {news : List (Addr × Obj)} (F : Fr h₀ L s.heap m) (N : News h₀ L s.heap news) (hb : b ≠ 0) (hq : a.fdiv b = q ∧ a.fmod b = r)
    (hp : PySem.PylongRoom (model prog w) A s)
    (h : ∀ D t1 t2 h' tk, Fr h₀ L h' m → News h₀ L h' ((D, pairO q r t1 t2 0) :: news) → AllLt D news → Q (.ref D) { s with toks := tk, heap := h' }) :
    wpAny (model prog w) A (call (.builtin "divmod") [.int a t, .int b u]) Q E s := by
  refine divmod_N F N hb (fun h' F' N' => ?_) (Or.inr hp)
  rw [hq.1, hq.2] at N'
  exact h _ _ _ h' _ F' N' (allLt_of fun p hp => Heap.lt_size (N p hp).1)
end Mine
namespace Mine
open PySem.Builtin.Int (intBits)
theorem abs2 (k : Nat) : ((2 : Int) ^ k).natAbs = 2 ^ k := by rw [← kbt_cast, Int.natAbs_natCast]
inductive Abs (z : Int) : Prop where | mk
theorem abs_skip {M : Model} {A : Around} {env : Env} {x : Str} {z : Int} {t : Tok} {Q : Unit → Shared → Prop} {E : Value → Shared → Prop} {s : Shared} (_ : Abs z) (h : wpAny M A (storeName env x (.int z t)) Q E s) : wpAny M A (storeName env x (.int z t)) Q E s := h
theorem abs_store {M : Model} {A : Around} {env : Env} {x : Str} {e : Int} {t : Tok} {Q : Unit → Shared → Prop} {E : Value → Shared → Prop} {s : Shared} {N : Nat} (hb : intBits e ≤ N)
    (h : ∀ z, Abs z → z = e → intBits z ≤ N → wpAny M A (storeName env x (.int z t)) Q E s) : wpAny M A (storeName env x (.int e t)) Q E s := h e .mk rfl hb
section
variable {prog : Program} {w : World} {A : Around} {E : Value → Shared → Prop} {s : Shared} {a b : Int} {t u : Tok} {Q : Value → Shared → Prop}
theorem pow3_z {l : Int} {N : Nat} (hb : intBits l ≤ N) (hN : 2 * N ≤ 100000000) (h : ∀ z, Abs z → z = 3 ^ intBits l → intBits z ≤ 2 * N + 1 → Q (.int z s.toks) { s with toks := s.toks + 1 }) :
    wpAny (model prog w) A (binaryOp .Pow (.int 3 t) (.int (intBits l : Int) u)) Q E s := by
  refine pow_int (by omega) ?_ ?_
  · have e : intBits (3 : Int) = 2 := by decide
    rw [e]
    have : (2 : Int) ^ 27 = 134217728 := by decide
    omega
  · have e : ((intBits l : Int)).toNat = intBits l := by omega
    rw [e]
    refine h _ .mk rfl ?_
    refine Nat.le_trans (intBits_pow_le (m := 2) (by decide) _) ?_
    omega
theorem mod_p {N : Nat} (hc : 0 < b) (hb : intBits b ≤ N) (h : ∀ z, Abs z → z = a.fmod b → 0 ≤ z → z < b → intBits z ≤ N → Q (.int z s.toks) { s with toks := s.toks + 1 }) : wpAny (model prog w) A (binaryOp .Mod (.int a t) (.int b u)) Q E s := by
  have e : a.fmod b = a % b := Int.fmod_eq_emod_of_nonneg _ (Int.le_of_lt hc)
  have h0 := Int.emod_nonneg a (show b ≠ 0 by omega)
  have h1 := Int.emod_lt_of_pos a hc
  rw [← e] at h0 h1
  exact mod_int' (by omega) (h _ .mk rfl h0 h1 (bits_fmod_by (by omega) hb))
theorem pow2_p {e : Int} {N : Nat} (h0 : 0 ≤ e) (h1 : e ≤ N) (hN : N ≤ 10000000) (h : ∀ z, Abs z → z = 2 ^ e.toNat → 0 < z → intBits z ≤ N + 1 → Q (.int z s.toks) { s with toks := s.toks + 1 }) :
    wpAny (model prog w) A (binaryOp .Pow (.int 2 t) (.int e u)) Q E s := by
  refine pow_int h0 ?_ (h _ .mk rfl (kbt_pos _) ?_)
  · have e : intBits (2 : Int) = 2 := by decide
    rw [e]
    have : (2 : Int) ^ 27 = 134217728 := by decide
    omega
  · refine intBits_le_iff.mpr ?_
    have e1 := abs2 e.toNat
    rw [e1]
    exact Nat.pow_lt_pow_right (by decide) (by omega)
theorem shl_p {e x : Int} {N m : Nat} (h0 : 0 ≤ e) (hx : intBits x ≤ m) (h1 : e ≤ N) (hN : m + N ≤ 100000000) (h : ∀ z, Abs z → z = x * 2 ^ e.toNat → intBits z ≤ m + N → Q (.int z s.toks) { s with toks := s.toks + 1 }) :
    wpAny (model prog w) A (binaryOp .LShift (.int x t) (.int e u)) Q E s := by
  refine lshift_int h0 ?_ (h _ .mk rfl ?_)
  · have : (2 : Int) ^ 27 = 134217728 := by decide
    omega
  · by_cases hx0 : x = 0
    · subst hx0
      rw [Int.zero_mul]
      exact Nat.zero_le _
    refine intBits_le_iff.mpr ?_
    have e1 := abs2 e.toNat
    rw [Int.natAbs_mul, e1]
    have h2 := intBits_le_iff.mp hx
    have h3 : x.natAbs * 2 ^ e.toNat < 2 ^ m * 2 ^ e.toNat := Nat.mul_lt_mul_of_pos_right h2 (Nat.two_pow_pos _)
    rw [← Nat.pow_add] at h3
    exact Nat.lt_of_lt_of_le h3 (Nat.pow_le_pow_right (by decide) (by omega))
theorem shr_p {e x : Int} {m : Nat} (h0 : 0 ≤ e) (hx : intBits x ≤ m) (h : ∀ z, Abs z → z = x / 2 ^ e.toNat → intBits z ≤ m → Q (.int z s.toks) { s with toks := s.toks + 1 }) :
    wpAny (model prog w) A (binaryOp .RShift (.int x t) (.int e u)) Q E s := by
  have e1 := fdivP x e.toNat
  exact rshift_int h0 (by rw [e1]; exact h _ .mk rfl (by rw [← e1]; exact bits_fdiv hx))
theorem fdv_p {m : Nat} (hc : 0 < b) (hx : intBits a ≤ m) (hp : PySem.PylongRoom (model prog w) A s) (h : ∀ z, Abs z → z = a / b → intBits z ≤ m → Q (.int z s.toks) { s with toks := s.toks + 1 }) :
    wpAny (model prog w) A (binaryOp .FloorDiv (.int a t) (.int b u)) Q E s := by
  have e1 : a.fdiv b = a / b := Int.fdiv_eq_ediv_of_nonneg _ (Int.le_of_lt hc)
  exact floordiv_int (by omega) (by rw [e1]; exact h _ .mk rfl (by rw [← e1]; exact bits_fdiv hx)) (Or.inr hp)
end
theorem fmodB (a : Int) {b : Int} (h : 0 < b) : 0 ≤ a.fmod b ∧ a.fmod b < b := by
  rw [Int.fmod_eq_emod_of_nonneg _ (Int.le_of_lt h)]
  exact ⟨Int.emod_nonneg _ (by omega), Int.emod_lt_of_pos _ h⟩
theorem fdivE (a : Int) {b : Int} (h : 0 < b) : a.fdiv b = a / b := Int.fdiv_eq_ediv_of_nonneg _ (Int.le_of_lt h)
theorem fmodE (a : Int) {b : Int} (h : 0 < b) : a.fmod b = a % b := Int.fmod_eq_emod_of_nonneg _ (Int.le_of_lt h)
theorem Pre2.bq {a b n q r : Int} (H : Pre2 a b n q r) {N : Nat} (hn : n ≤ N) : intBits q ≤ N := Nat.le_trans (bits_of_lt H.q0 H.q1) (by have := H.n1; omega)
theorem Pre2.br {a b n q r : Int} (H : Pre2 a b n q r) {N : Nat} (hn : n ≤ N) : intBits r ≤ N := Nat.le_trans (bits_of_lt H.r0 (Int.lt_trans H.r1 H.b2)) (by have := H.n1; omega)
theorem eq_t {prog : Program} {w : World} {A : Around} {E : Value → Shared → Prop} {s : Shared} {a b : Int} {t u : Tok} {Q : Value → Shared → Prop} (e : a = b) (h : Q (.bool true) s) : wpAny (model prog w) A (compareOp .Eq (.int a t) (.int b u)) Q E s :=
  eq_int (by rw [e, beq_self_eq_true]; exact h)
theorem gen_toks {α : Type} {M : Model} {A : Around} {m : Sem α} {Q : α → Shared → Prop} {E : Value → Shared → Prop} {h : Heap} {g : Array GenState} {d : Drawn} {X : Nat} {o : OsState}
    (H : ∀ tk, wpAny M A m Q E { heap := h, gens := g, drawn := d, toks := tk, os := o }) : wpAny M A m Q E { heap := h, gens := g, drawn := d, toks := X, os := o } := H X
theorem mul_p {prog : Program} {w : World} {A : Around} {E : Value → Shared → Prop} {s : Shared} {a b : Int} {t u : Tok} {Q : Value → Shared → Prop} {m n : Nat} (ha : intBits a ≤ m) (hb : intBits b ≤ n) (h : m + n ≤ 134217728) (hq : Q (.int (a * b) s.toks) { s with toks := s.toks + 1 }) :
    wpAny (model prog w) A (binaryOp .Mult (.int a t) (.int b u)) Q E s := mul_int hq (mulOk_of_bits ha hb h)
end Mine
namespace Mine
section
variable {prog : Program} {w : World} {A : Around} {E : Value → Shared → Prop} {s : Shared} {env : Env} {h₀ : Heap} {x : Str} {body : List Stmt} {Q : Flow → Shared → Prop}
/-- a loop from behind over a list of ints that the call has made, by an invariant over the state -/
theorem kst_rev {σ : Type} {I l : Addr} {vs : List Value} {ns : List Int} {nn : Nat} {m₀ : Str → Option Value} (Led : σ → List (Addr × Obj)) (ps : σ → List (Str × Value)) (Facts : σ → Prop) (stored : List Str) (P : List Int → σ → Prop) (c₀ : σ) {all : List (Addr × Obj)}
    (hh : A.handled = none) (hi : IntsAre vs ns) (F : Fr h₀ env.locals s.heap m₀) (NA : News h₀ env.locals s.heap all) (hI : (I, revObj l ((vs.length : Int) - 1)) ∈ all) (hl : (l, listOf vs.toArray nn) ∈ all) (hne : l ≠ I) (N : News h₀ env.locals s.heap (Led c₀)) (hoff : ∀ p ∈ Led c₀, p.1 ≠ I ∧ p.1 ≠ l) (hf : Facts c₀) (hk : ∀ p ∈ ps c₀, m₀ p.1 = some p.2) (hp : P [] c₀)
    (turn : ∀ (c : σ) pre post n t (u : Str → Option Value) h tk own, ns.reverse = pre ++ n :: post → n ∈ ns → OwnOff own ((Led c₀).map (·.1)) → Facts c → P pre c →
      Fr h₀ env.locals h (fun y => if y = x then some (.int n t) else kstB (fun z => if stored.contains z then u z else m₀ z) (ps c) y) → News h₀ env.locals h (Led c ++ own) →
      wpAny (model prog w) A (execs body env) (InvPostN h₀ env.locals (KstS Led ps Facts x stored m₀ P (pre ++ [n])) own ((Led c₀).map (·.1)) { s with heap := h, toks := tk } Q) E { s with heap := h, toks := tk })
    (done : ∀ (c : σ) (u : Str → Option Value) h tk, Facts c → P ns.reverse c → Fr h₀ env.locals h (fun y => if y = x then u y else kstB (fun z => if stored.contains z then u z else m₀ z) (ps c) y) → News h₀ env.locals h (Led c) → Q .next { s with heap := h, toks := tk }) :
    wpAny (model prog w) A (pyIter (.ref I)) (fun it s₂ => LoopAtV prog w A h₀ env x body Q E it s₂) E s := by
  have hIx := NA _ hI
  have hlx := NA _ hl
  have hL : s.heap.IsList l vs.toArray := ⟨_, hlx.1, rfl, nn, rfl⟩
  have hit : s.heap.IsRevIter I l ((vs.length : Int) - 1) := ⟨_, hIx.1, rfl, rfl⟩
  refine wpAny_pyIter_revIter hit ?_
  have W := Walks.listRev (prog := prog) (w := w) hh I l hne vs.toArray
  have hlen : vs.toArray.size = ns.length := by simp [hi.length]
  rw [hlen] at W
  have hr : ns.reverse.length = ns.length := List.length_reverse
  refine loop_invN (fun i m nx => KstS Led ps Facts x stored m₀ P (ns.reverse.take i) m nx) W ?_ ?_ ?_ ?_ ?_ F N ⟨c₀, rfl, hf, hk, fun _ _ _ _ => rfl, by simpa using hp⟩ ?_ ?_
  · intro hm
    rcases List.mem_cons.mp hm with e | hm
    · exact hIx.2.1 e.symm
    · exact hlx.2.1 (List.mem_singleton.mp hm).symm
  · intro b hb
    rw [List.mem_singleton.mp hb]
    exact hIx.2.2
  · intro p hp hm
    exact (hoff p hp).1 (List.mem_singleton.mp hm)
  · intro p hp hm
    rcases List.mem_cons.mp hm with e | hm
    · exact (hoff p hp).1 e
    · exact (hoff p hp).2 (List.mem_singleton.mp hm)
  · refine ⟨Nat.zero_le _, ?_, hL⟩
    have e : ((ns.length : Nat) : Int) - 1 - ((0 : Nat) : Int) = (vs.length : Int) - 1 := by rw [hi.length]; omega
    rw [e]
    exact hit
  · rintro i v m₁ nx h tk own hin hP _ hoff' ⟨c, rfl, hf', h1, h2, hp'⟩ F₁ N₁
    have hlt' : i < ns.reverse.length := by rw [hr]; exact hin
    have hP2 : vs.toArray[ns.length - 1 - i]? = some v := hP
    have hget : ns[ns.length - 1 - i]? = some ns.reverse[i] := by
      rw [List.getElem_reverse]
      exact List.getElem?_eq_getElem (by omega)
    obtain ⟨t, hx⟩ := hi.get _ _ hget
    have hv : v = .int ns.reverse[i] t := by
      have : vs[ns.length - 1 - i]? = some v := by simpa using hP2
      rw [hx] at this; exact (Option.some.inj this).symm
    subst hv
    have hn : ns.reverse[i]? = some ns.reverse[i] := List.getElem?_eq_getElem hlt'
    have hs : ns.reverse.take (i + 1) = ns.reverse.take i ++ [ns.reverse[i]] := by rw [List.take_add_one, hn]; rfl
    have e : ns.reverse = ns.reverse.take i ++ ns.reverse[i] :: ns.reverse.drop (i + 1) := by
      have ht := List.take_append_drop (i + 1) ns.reverse
      rw [hs, List.append_assoc] at ht
      exact ht.symm
    have key := turn c _ _ ns.reverse[i] t m₁ h tk own e (List.mem_reverse.mp (List.getElem_mem hlt')) hoff' hf' hp' (kst_fr h1 h2 F₁) N₁
    have goalE : (fun m nx => KstS Led ps Facts x stored m₀ P (ns.reverse.take (i + 1)) m nx) = KstS Led ps Facts x stored m₀ P (ns.reverse.take i ++ [ns.reverse[i]]) := by rw [hs]
    rw [goalE]
    exact key
  · rintro m₁ nx h tk ⟨c, rfl, hf', h1, h2, hp'⟩ F₁ N₁
    rw [List.take_of_length_le (by rw [hr]; exact Nat.le_refl _)] at hp'
    exact done c m₁ h tk hf' hp' (kst_frOut h1 h2 F₁) N₁
end
end Mine
namespace Mine
section
variable {prog : Program} {w : World} {A : Around} {E : Value → Shared → Prop} {s : Shared} {env : Env} {h₀ : Heap} {x : Str} {body : List Stmt} {Q : Flow → Shared → Prop}
/-- a loop over a range that changes nothing that is asked behind it -/
theorem rng0 {r : Addr} {a₀ b₀ : Int} {t₀ u₀ v₀ : Tok} {n : Nat} {m₀ : Str → Option Value} {news : List (Addr × Obj)} (stored : List Str)
    (hh : A.handled = none) (F : Fr h₀ env.locals s.heap m₀) (N : News h₀ env.locals s.heap news) (hr : IsRange s.heap r a₀ b₀ 1 t₀ u₀ v₀) (hsmall : Builtin.Range.small a₀ b₀ 1 = true) (hn : Builtin.Range.rangeSize a₀ b₀ 1 = (n : Int))
    (turn : ∀ (k : Int) t (u : Str → Option Value) h tk own, a₀ ≤ k → k < a₀ + n → OwnOff own (news.map (·.1)) →
      Fr h₀ env.locals h (fun y => if y = x then some (.int k t) else if stored.contains y then u y else m₀ y) → News h₀ env.locals h (news ++ own) →
      wpAny (model prog w) A (execs body env) (InvPostN h₀ env.locals (KstS (σ := Unit) (fun _ => news) (fun _ => []) (fun _ => True) x stored m₀ (fun _ _ => True) [k]) own (news.map (·.1)) { s with heap := h, toks := tk } Q) E { s with heap := h, toks := tk })
    (done : ∀ (u : Str → Option Value) h tk, Fr h₀ env.locals h (fun y => if y = x then u y else if stored.contains y then u y else m₀ y) → News h₀ env.locals h news → Q .next { s with heap := h, toks := tk }) :
    wpAny (model prog w) A (pyIter (.ref r)) (fun it s₂ => LoopAtV prog w A h₀ env x body Q E it s₂) E s := by
  refine kst_range (σ := Unit) (fun _ => news) (fun _ => []) (fun _ => True) stored (fun _ _ => True) () hh hr hsmall hn F N trivial (List.forall_mem_nil _) trivial ?_ ?_
  · intro c pre k t u h tk own hk hlt hoff _ _ F' N'
    refine wpAny_mono (turn k t u h tk own (by omega) (by omega) hoff F' N') (fun f s₂ p => ?_) fun _ _ e => e
    cases f with
    | ret v => exact p
    | brk => exact p
    | next => exact p
    | cont => exact p
  · intro c u h tk _ _ F' N'
    exact done u h tk F' N'
end
end Mine
namespace Mine
set_option maxRecDepth 100000
set_option maxHeartbeats 8000000
open_top hd for PySem.Challenge.rw_dn0134_08
end Mine
namespace Mine
/-- a top that imports nothing -/
def prog0 : Program := { (default : Program) with main := { (default : Module) with body := [] } }
theorem ghost_noseer {h₁ : Heap} {tabs : List (Addr × Addr)} (hT : TabsAt tabs h₁) (x : h₁.NoSeer) : (ghostOf h₁ tabs).NoSeer where
  statics := let ⟨mc, a, b⟩ := x.statics; ⟨mc, ghost_ns hT a, b⟩
  mods := let ⟨mc, a, b⟩ := x.mods; ⟨mc, ghost_ns hT a, b⟩
  imp := let ⟨mc, a, b⟩ := x.imp; ⟨mc, ghost_ns hT a, b⟩
  main := let ⟨mg, bm, ob, a, b, c, d, e⟩ := x.main; ⟨mg, bm, ob, ghost_ns hT a, b, ghost_get hT c (fun q => by rw [q] at d; cases d), d, e⟩
theorem top0 {h : Heap} {loose : List Str} {mean : ExcName → Option Value} {mg mb : Str → Option Value} (T : Top topProg loose mean mg mb h) (S : h.NoSeer) : Top prog0 loose mean mg mb h where
  g := T.g
  b := T.b
  nolimit := T.nolimit
  nodigits := T.nodigits
  fn := fun d hd => absurd (show d ∈ ([] : List DefRec) from hd) List.not_mem_nil
  own := fun o ho => absurd (show o ∈ ([] : List OwnSpec) from ho) List.not_mem_nil
  const := fun x d e => by cases (show (none : Option PyData) = some d from e)
  free := fun x h1 h2 _ _ _ => T.free x h1 h2 (show x ∉ ([] : List Str) from List.not_mem_nil) (show x ∉ ([] : List Str) from List.not_mem_nil) (show x ∉ ([] : List Str) from List.not_mem_nil)
  builtins := T.builtins
  tab := fun d hd => absurd (show d ∈ ([] : List DefRec) from hd) List.not_mem_nil
  bmain := T.bmain
  seer := fun _ => S
theorem prog0_none : importsNone prog0 = true := by decide +kernel
theorem top0_of {h₁ : Heap} {tabs : List (Addr × Addr)} {p : Program} {loose loose' : List Str} {mean mean' : ExcName → Option Value} {mg mb mg' mb' : Str → Option Value} (hT : TabsAt tabs h₁) (T : Top p loose mean mg mb h₁) (hp : importsNone p = true) (T' : Top topProg loose' mean' mg' mb' (ghostOf h₁ tabs)) : Top prog0 loose' mean' mg' mb' (ghostOf h₁ tabs) :=
  top0 T' (ghost_noseer hT (T.seer hp))
end Mine
namespace Mine
theorem room_of {p : Program} {loose : List Str} {mean : ExcName → Option Value} {mg mb : Str → Option Value} {g h : Heap} {L : Addr} {m : Str → Option Value} (T : Top p loose mean mg mb g) (F : Fr g L h m) : h.NoLimit := T.nolimit.keeps F.keep
def PairCall (prog : Program) (w : World) (K : Frag) (p : Program) (loose : List Str) (mean : ExcName → Option Value) (mg mb : Str → Option Value) (f : Addr) (vs : List Value) (q r : Int) (k : Nat) : Prop :=
  ∀ (dp un : Nat) (gd : Option (List Code)) (cn : Str) (cs : Scope) (a : Addr) (ccd : Value) (cl : List (Str × Addr)) (outer : List Env) (A₀ : Around) (base h₀ : Heap) (L : Addr) (m : Str → Option Value) (news : List (Addr × Obj)) (s : Shared)
    (Q E : Value → Shared → Prop),
    Below A₀ base outer h₀ → Fr h₀ L s.heap m → K.In h₀ → News h₀ L s.heap news → Top p loose mean mg mb h₀ → cs.kind = .function → dp + k + 104 < recursionLimit → un + 8 * k + 100 < cLine →
    (∀ D t1 t2 c h' tk', Fr h₀ L h' m → News h₀ L h' ((D, pairO q r t1 t2 c) :: news) → AllLt D news → Q (.ref D) { s with heap := h', toks := tk' }) →
    wpAny (model prog w) (ktrTop dp un gd cn cs L a ccd cl outer) (call (.ref f) vs) Q E s

theorem pair_use {prog : Program} {w : World} {K : Frag} {p : Program} {loose : List Str} {mean : ExcName → Option Value} {mg mb : Str → Option Value} {f : Addr} {vs : List Value} {q r : Int} {k : Nat}
   {dp un : Nat} {gd : Option (List Code)} {cn : Str} {cs : Scope} {a : Addr} {ccd : Value} {cl : List (Str × Addr)} {outer : List Env} {A₀ : Around} {base h₀ : Heap} {L : Addr} {m : Str → Option Value} {news : List (Addr × Obj)} {s : Shared} {Q E : Value → Shared → Prop}
   (B : Below A₀ base outer h₀) (F : Fr h₀ L s.heap m) (X : K.In h₀) (N : News h₀ L s.heap news) (T : Top p loose mean mg mb h₀) (hk : cs.kind = .function) (C : PairCall prog w K p loose mean mg mb f vs q r k)
   (hd : dp + k + 104 < recursionLimit) (hu : un + 8 * k + 100 < cLine)
   (ret : ∀ D t1 t2 c h' tk', Fr h₀ L h' m → News h₀ L h' ((D, pairO q r t1 t2 c) :: news) → AllLt D news → Q (.ref D) { s with heap := h', toks := tk' }) :
    wpAny (model prog w) (ktrTop dp un gd cn cs L a ccd cl outer) (call (.ref f) vs) Q E s := C _ _ _ _ _ _ _ _ _ _ _ _ _ _ _ _ _ _ B F X N T hk hd hu ret

section
variable (w : World) (mean : ExcName → Option Value) (mg mb : Str → Option Value)
abbrev PC := PairCall PySem.Challenge.rw_dn0134_08.row.prog w (hd.heap_39 w.params) prog0 (looseW hd.view_39 [] ++ List.map (fun x => x.name) (recsOf hd.view_39) ++ List.map (fun x => x.fst) (litsOf hd.view_39) ++ List.map (fun x => x.name) (clssOf hd.view_39 (looseW hd.view_39 []))) mean mg mb
def Div2 (k : Nat) : Prop := ∀ (a b n q r : Int) (t u v : Tok), Pre2 a b n q r → n ≤ 2 ^ k → k ≤ 19 → PC w mean mg mb 21 [.int a t, .int b u, .int n v] q r (2 * k + 2)
def Div3 (k : Nat) : Prop := ∀ (a12 a3 b b1 b2 n q r : Int) (t1 t2 t3 t4 t5 t6 : Tok), Pre3 a12 a3 b b1 b2 n q r → n ≤ 2 ^ k → k ≤ 19 → PC w mean mg mb 28 [.int a12 t1, .int a3 t2, .int b t3, .int b1 t4, .int b2 t5, .int n t6] q r (2 * k + 3)
end
end Mine
namespace Mine
open PySem.Builtin.Int (intBits)
local macro_rules | `(tactic| bits_by_make) => `(tactic| with_reducible assumption)
local macro_rules | `(tactic| walk_at "exec While Compare cons cons") => `(tactic| k_extra "mywhile")
local macro_rules | `(tactic| walk_at "exec While Compare cons nil") => `(tactic| k_extra "mywhile")
set_option maxRecDepth 100000 in
set_option maxHeartbeats 8000000 in
theorem div3_step (w : World) (mean : ExcName → Option Value) (mg mb : Str → Option Value) (k : Nat) (H : Div2 w mean mg mb k) : Div3 w mean mg mb k := by
  (have hh : PySem.Challenge.rw_dn0134_08 = PySem.Challenge.rw_dn0134_08 ∧ hd.heap_39 = hd.heap_39 := by (k_fill; exact ⟨rfl, rfl⟩))
  clear hh
  w_top off
  k_with_none
  intro a12 a3 b b1 b2 n q r t1 t2 t3 t4 t5 t6 P hn hk19
  have hn19 : n ≤ 524288 := Int.le_trans hn (pmono hk19)
  have hn1 := P.n1
  have hbp : intBits ((2 : Int) ^ n.toNat) ≤ 600000 := Nat.le_trans (bits_of_lt (k := n.toNat + 1) (Int.le_of_lt (ppos _)) (by rw [Int.pow_succ]; have := ppos n.toNat; omega)) (by omega)
  have hbb1 : intBits b1 ≤ 600000 := Nat.le_trans (bits_of_lt (by have := ppos (n.toNat - 1); have := P.b10; omega) P.b11) (by omega)
  have hbb2 : intBits b2 ≤ 600000 := Nat.le_trans (bits_of_lt P.b20 P.b21) (by omega)
  have hba : intBits a12 ≤ 5000000 := bits_of_natAbs_le (b := b) (by have := P.a12b; omega) (by rw [P.e]; exact Nat.le_trans (bits_add (bits_mul hbb1 hbp) hbb2) (by decide))
  unfold PC PairCall
  intro dp un gd cn cs a ccd cl outer A₀ base h₀ L m news s Q E B F X N T hk hd hu hret
  k_with "call ref" => (
    obtain ⟨q', r', hP'⟩ := P.neCase (by rw [← fdivP]; assumption)
    have hbr : intBits r' ≤ 600000 := Nat.le_trans (bits_of_lt hP'.r0 (Int.lt_trans hP'.r1 hP'.b2)) (by omega)
    have hbq : intBits q' ≤ 600000 := Nat.le_trans (bits_of_lt hP'.q0 hP'.q1) (by omega)
    (refine' pair_use ?k1 ?k2 ?k3 ?k4 ?k5 ?kK (H _ _ _ q' r' _ _ _ hP' hn hk19) ?kd ?ku ?_)
    (case k1 => k_asm)
    (case k2 => k_asm)
    (case k3 => k_asm)
    (case k4 => k_asm)
    (case k5 => k_asm)
    (case kK => exact rfl)
    (case kd => ktr_room)
    (case ku => ktr_units)
    intro D' x1 x2 c' h' tk' F' N' l'
    (try dsimp only)
    (try k_fold))
  k_with "mywhile" => (k_while (fun _ x y => y * b + x = q * b + r ∧ x < b) (fun _ x y => (- x).toNat) "r" "q")
  k_with "state" => (first | exact P.start1 (by assumption) | exact P.start2 (by assumption) | exact d3_turn ⟨by assumption, by assumption⟩ (by assumption))
  have hb0 : 0 < b := by have := P.r0; have := P.r1; omega
  refine wpAny_call ?_
  k_dflt ktr_enter
  k_steps
  all_goals (
    obtain ⟨e1, e2⟩ := P.fin (by assumption) (by assumption) (by assumption)
    subst e1
    subst e2
    refine hret _ _ _ _ _ _ (by k_asm) (news_sub (by k_asm) (sub0 (sub1 subr))) ?_
    first | assumption | exact And.right (by assumption))
end Mine
namespace Mine
open PySem.Builtin.Int (intBits)
local macro_rules | `(tactic| bits_by_make) => `(tactic| with_reducible assumption)
local macro_rules | `(tactic| walk_at "binaryOp RShift int int") => `(tactic| k_extra "half")
local macro_rules | `(tactic| walk_at "inplaceOp RShift int int") => `(tactic| with_reducible refine ihalf_z ?_)
local macro_rules | `(tactic| walk_at "inplaceOp LShift int int") => `(tactic| (with_reducible refine ilshift_int ?kbn ?kbs ?_; (case kbn => decide); (case kbs => refine kbm_shl (m := 2000000) (Nat.le_trans (by with_reducible assumption) ?_) ?_ ?_ <;> decide)))
local macro_rules | `(tactic| walk_at "call builtin:divmod") => `(tactic| k_extra "mydiv")
set_option maxRecDepth 100000 in
set_option maxHeartbeats 8000000 in
theorem div2_step (w : World) (mean : ExcName → Option Value) (mg mb : Str → Option Value) (k : Nat) (H : ∀ j, k = j + 1 → Div3 w mean mg mb j) : Div2 w mean mg mb k := by
  (have hh : PySem.Challenge.rw_dn0134_08 = PySem.Challenge.rw_dn0134_08 ∧ hd.heap_39 = hd.heap_39 := by (k_fill; exact ⟨rfl, rfl⟩))
  clear hh
  w_top off
  k_with_none
  intro a b n q r t1 t2 t3 P hn hk19
  have hn19 : n ≤ 524288 := Int.le_trans hn (pmono hk19)
  have hn1 := P.n1
  have hba : intBits a ≤ 1200000 := Nat.le_trans (bits_of_lt P.a0 P.alt) (by omega)
  have hbb : intBits b ≤ 600000 := Nat.le_trans (bits_of_lt (by have := P.r0; have := P.r1; omega) P.b2) (by omega)
  have hb0 : b ≠ 0 := by have := P.r0; have := P.r1; omega
  unfold PC PairCall
  intro dp un gd cn cs aa ccd cl outer A₀ base h₀ L m news s Q E B F X N T hk hd hu hret
  k_with "half" => (first
    | (with_reducible refine half_z (halves0 (by assumption)) ?_; intro hz ez)
    | (with_reducible refine half_z (halves1 (by assumption)) ?_; intro hz ez))
  k_with "mydiv" => (
    (refine' divmod_D ?k1 ?k2 hb0 P.fdm (PySem.PylongRoom.of (room_of (by assumption) (by assumption)) ?kd) ?_)
    (case k1 => k_asm)
    (case k2 => k_asm)
    (case kd => (simp only [Builtin.pylongFrames]; ktr_room))
    intro D' x1 x2 h' tk' F' N' l'
    (try dsimp only)
    (try k_fold))
  k_with "call ref" => (first
    | (
      (refine' pair_use ?k1 ?k2 ?k3 ?k4 ?k5 ?kK (hJ _ _ _ _ _ _ q2 _ _ _ _ _ _ _ h2 hjz hj19) ?kd ?ku ?_)
      (case k1 => k_asm)
      (case k2 => k_asm)
      (case k3 => k_asm)
      (case k4 => k_asm)
      (case k5 => k_asm)
      (case kK => exact rfl)
      (case kd => ktr_room)
      (case ku => ktr_units)
      intro D' x1 x2 c' h' tk' F' N' l'
      (try dsimp only)
      (try k_fold))
    | (
      obtain ⟨j, hj⟩ : ∃ j, k = j + 1 := ⟨k - 1, by have := P.big (by assumption); have : k ≠ 0 := (by intro e; subst e; simp at hn; omega); omega⟩
      have hJ := H j hj
      have hj19 : j ≤ 19 := by omega
      have hjz : hz ≤ 2 ^ j := halfLe ez (by rw [← hj]; omega)
      obtain ⟨q1, r1, q2, h1, h2, h3⟩ := (by first | exact P.halvesT ez | exact P.padT.halvesT ez : ∃ q1 r1 q2, _ ∧ _ ∧ _)
      have hbq1 : intBits q1 ≤ 600000 := Nat.le_trans (bits_of_lt h1.q0 h1.q1) (by omega)
      (refine' pair_use ?k1 ?k2 ?k3 ?k4 ?k5 ?kK (hJ _ _ _ _ _ _ q1 r1 _ _ _ _ _ _ h1 hjz hj19) ?kd ?ku ?_)
      (case k1 => k_asm)
      (case k2 => k_asm)
      (case k3 => k_asm)
      (case k4 => k_asm)
      (case k5 => k_asm)
      (case kK => exact rfl)
      (case kd => ktr_room)
      (case ku => ktr_units)
      intro D' x1 x2 c' h' tk' F' N' l'
      (try dsimp only)
      (try k_fold)))
  refine wpAny_call ?_
  k_dflt ktr_enter
  k_steps
  all_goals (first
    | exact absurd ‹Builtin.bitAnd n 1 = 0› ‹Builtin.bitAnd n 1 ≠ 0›
    | exact hret _ _ _ _ _ _ (by k_asm) (by k_asm) (by assumption)
    | (subst h3; refine hret _ _ _ _ _ _ (by k_asm) (news_sub (by k_asm) (sub0 (sub1 (sub1 (sub1 subr))))) ?_; exact (And.right (And.right (And.right (by assumption))))))
theorem div_all (w : World) (mean : ExcName → Option Value) (mg mb : Str → Option Value) : ∀ k, Div2 w mean mg mb k ∧ Div3 w mean mg mb k
  | 0 => have h := div2_step w mean mg mb 0 (fun j e => by omega); ⟨h, div3_step w mean mg mb 0 h⟩
  | k + 1 => have h := div2_step w mean mg mb (k + 1) (fun j e => by obtain rfl : k = j := by omega
                                                                     exact (div_all w mean mg mb k).2); ⟨h, div3_step w mean mg mb (k + 1) h⟩
theorem use2 {w : World} {mean : ExcName → Option Value} {mg mb : Str → Option Value} {a b n q r : Int} {t u v : Tok} (h : Pre2 a b n q r) (hn : n ≤ 262144) : PC w mean mg mb 21 [.int a t, .int b u, .int n v] q r 38 := (div_all w mean mg mb 18).1 a b n q r t u v h hn (by decide)
theorem use3 {w : World} {mean : ExcName → Option Value} {mg mb : Str → Option Value} {a12 a3 b b1 b2 n q r : Int} {t1 t2 t3 t4 t5 t6 : Tok} (h : Pre3 a12 a3 b b1 b2 n q r) (hn : n ≤ 262144) : PC w mean mg mb 28 [.int a12 t1, .int a3 t2, .int b t3, .int b1 t4, .int b2 t5, .int n t6] q r 39 := (div_all w mean mg mb 18).2 a12 a3 b b1 b2 n q r t1 t2 t3 t4 t5 t6 h hn (by decide)
end Mine
namespace Mine
def RelCall (prog : Program) (w : World) (K : Frag) (p : Program) (loose : List Str) (mean : ExcName → Option Value) (mg mb : Str → Option Value) (f : Addr) (vs : List Value) (R : Int → Prop) (k : Nat) : Prop :=
  ∀ (dp un : Nat) (gd : Option (List Code)) (cn : Str) (cs : Scope) (a : Addr) (ccd : Value) (cl : List (Str × Addr)) (outer : List Env) (A₀ : Around) (base h₀ : Heap) (L : Addr) (m : Str → Option Value) (news : List (Addr × Obj)) (s : Shared)
    (Q E : Value → Shared → Prop),
    Below A₀ base outer h₀ → Fr h₀ L s.heap m → K.In h₀ → News h₀ L s.heap news → Top p loose mean mg mb h₀ → cs.kind = .function → dp + k + 104 < recursionLimit → un + 8 * k + 100 < cLine →
    (∀ z t h' tk', R z → Fr h₀ L h' m → News h₀ L h' news → Q (.int z t) { s with heap := h', toks := tk' }) →
    wpAny (model prog w) (ktrTop dp un gd cn cs L a ccd cl outer) (call (.ref f) vs) Q E s
theorem rel_use {prog : Program} {w : World} {K : Frag} {p : Program} {loose : List Str} {mean : ExcName → Option Value} {mg mb : Str → Option Value} {f : Addr} {vs : List Value} {R : Int → Prop} {k : Nat}
   {dp un : Nat} {gd : Option (List Code)} {cn : Str} {cs : Scope} {a : Addr} {ccd : Value} {cl : List (Str × Addr)} {outer : List Env} {A₀ : Around} {base h₀ : Heap} {L : Addr} {m : Str → Option Value} {news : List (Addr × Obj)} {s : Shared} {Q E : Value → Shared → Prop}
   (B : Below A₀ base outer h₀) (F : Fr h₀ L s.heap m) (X : K.In h₀) (N : News h₀ L s.heap news) (T : Top p loose mean mg mb h₀) (hk : cs.kind = .function) (C : RelCall prog w K p loose mean mg mb f vs R k)
   (hd : dp + k + 104 < recursionLimit) (hu : un + 8 * k + 100 < cLine)
   (ret : ∀ z t h' tk', R z → Fr h₀ L h' m → News h₀ L h' news → Q (.int z t) { s with heap := h', toks := tk' }) :
    wpAny (model prog w) (ktrTop dp un gd cn cs L a ccd cl outer) (call (.ref f) vs) Q E s := C _ _ _ _ _ _ _ _ _ _ _ _ _ _ _ _ _ _ B F X N T hk hd hu ret
section
variable (w : World) (mean : ExcName → Option Value) (mg mb : Str → Option Value)
abbrev RC := RelCall PySem.Challenge.rw_dn0134_08.row.prog w (hd.heap_39 w.params) prog0 (looseW hd.view_39 [] ++ List.map (fun x => x.name) (recsOf hd.view_39) ++ List.map (fun x => x.fst) (litsOf hd.view_39) ++ List.map (fun x => x.name) (clssOf hd.view_39 (looseW hd.view_39 []))) mean mg mb
end
end Mine
namespace Mine
open PySem.Builtin.Int (intBits)
/-- what a row of digits is worth -/
def evalD (P : Int) : List Int → Int
  | [] => 0
  | d :: r => d + P * evalD P r
theorem evalD_append (P : Int) (xs ys : List Int) : evalD P (xs ++ ys) = evalD P xs + P ^ xs.length * evalD P ys := by
  induction xs with
  | nil => simp [evalD]
  | cons d r ih =>
    rw [List.cons_append, evalD, evalD, ih, List.length_cons, Int.pow_succ]
    grind
/-- the digits from place l on to place r -/
def cutD (ns : List Int) (l r : Nat) : List Int := (ns.drop l).take (r - l)
theorem cutD_one {ns : List Int} {l : Nat} (h : l < ns.length) : cutD ns l (l + 1) = [ns.getD l 0] := by
  unfold cutD
  have e : l + 1 - l = 1 := by omega
  rw [e, List.drop_eq_getElem_cons h, List.getD_eq_getElem?_getD, List.getElem?_eq_getElem h]
  rfl
theorem cutD_split {ns : List Int} {l m r : Nat} (h1 : l ≤ m) (h2 : m ≤ r) (h3 : r ≤ ns.length) : cutD ns l r = cutD ns l m ++ cutD ns m r := by
  unfold cutD
  have e : r - l = (m - l) + (r - m) := by omega
  rw [e, List.take_add, List.drop_drop]
  congr 2
  congr 1
  omega
theorem cutD_len {ns : List Int} {l r : Nat} (h1 : l ≤ r) (h3 : r ≤ ns.length) : (cutD ns l r).length = r - l := by
  unfold cutD
  rw [List.length_take, List.length_drop]; omega
theorem cutD_all (ns : List Int) : cutD ns 0 ns.length = ns := by
  unfold cutD
  rw [List.drop_zero, Nat.sub_zero, List.take_length]
/-- the worth of a part by its two halves, as the program takes it -/
theorem inner_val {ns : List Int} {n l m r : Int} (n0 : 0 ≤ n) (l0 : 0 ≤ l) (h1 : l ≤ m) (h2 : m ≤ r) (h3 : r ≤ ns.length) :
    evalD (2 ^ n.toNat) (cutD ns m.toNat r.toNat) * 2 ^ ((m - l) * n).toNat + evalD (2 ^ n.toNat) (cutD ns l.toNat m.toNat) = evalD (2 ^ n.toNat) (cutD ns l.toNat r.toNat) := by
  rw [cutD_split (l := l.toNat) (m := m.toNat) (r := r.toNat) (by omega) (by omega) (by omega), evalD_append, cutD_len (by omega) (by omega)]
  have e : ((m - l) * n).toNat = n.toNat * (m.toNat - l.toNat) := by
    have h : ((n.toNat * (m.toNat - l.toNat) : Nat) : Int) = (m - l) * n := by
      rw [Int.natCast_mul, Int.toNat_of_nonneg n0, Int.natCast_sub (by omega), Int.toNat_of_nonneg (by omega), Int.toNat_of_nonneg l0, Int.mul_comm]
    omega
  rw [e, Int.pow_mul]
  generalize (2 : Int) ^ n.toNat = P
  rw [Int.mul_comm]; omega
/-- bits of a part -/
theorem inner_bits {ns : List Int} {n : Int} {B : Nat} (n0 : 0 ≤ n) (hb : ∀ x ∈ ns, intBits x ≤ B) : ∀ k l : Nat, l + k + 1 ≤ ns.length → intBits (evalD (2 ^ n.toNat) (cutD ns l (l + (k + 1)))) ≤ B + n.toNat * k + k := by
  intro k
  induction k with
  | zero =>
    intro l h
    rw [show l + (0 + 1) = l + 1 from rfl, cutD_one (by omega), evalD, evalD, Int.mul_zero, Int.add_zero]
    have : ns.getD l 0 ∈ ns := by
      rw [List.getD_eq_getElem?_getD, List.getElem?_eq_getElem (by omega)]
      exact List.getElem_mem _
    have := hb _ this
    omega
  | succ k ih =>
    intro l h
    rw [cutD_split (m := l + 1) (by omega) (by omega) (by omega), evalD_append, cutD_one (by omega)]
    have h1 := ih (l + 1) (by omega)
    have e : l + 1 + (k + 1) = l + (k + 1 + 1) := by omega
    rw [e] at h1
    have h2 : intBits (evalD (2 ^ n.toNat) [ns.getD l 0]) ≤ B := by
      rw [evalD, evalD, Int.mul_zero, Int.add_zero]
      have : ns.getD l 0 ∈ ns := by
        rw [List.getD_eq_getElem?_getD, List.getElem?_eq_getElem (by omega)]
        exact List.getElem_mem _
      exact hb _ this
    rw [show [ns.getD l 0].length = 1 from rfl, Int.pow_succ, Int.pow_zero, Int.one_mul]
    generalize evalD (2 ^ n.toNat) (cutD ns (l + 1) (l + (k + 1 + 1))) = v at *
    have h3 : intBits (2 ^ n.toNat * v) ≤ n.toNat + (B + n.toNat * k + k) := by
      by_cases hv : v = 0
      · rw [hv, Int.mul_zero]; exact Nat.zero_le _
      refine intBits_le_iff.mpr ?_
      rw [Int.natAbs_mul, abs2, Nat.pow_add]
      exact Nat.mul_lt_mul_of_pos_left (intBits_le_iff.mp h1) (Nat.two_pow_pos _)
    refine Nat.le_trans (bits_add h2 h3) ?_
    rw [Nat.mul_succ]
    omega
theorem inner_bits' {ns : List Int} {n l r : Int} {B N : Nat} (n0 : 0 ≤ n) (hb : ∀ x ∈ ns, intBits x ≤ B) (l0 : 0 ≤ l) (h1 : l < r) (h2 : r ≤ ns.length) (hN : (B : Int) + n * ns.length + ns.length ≤ N) :
    intBits (evalD (2 ^ n.toNat) (cutD ns l.toNat r.toNat)) ≤ N := by
  have h := inner_bits n0 hb (r.toNat - l.toNat - 1) l.toNat (by omega)
  have e : l.toNat + (r.toNat - l.toNat - 1 + 1) = r.toNat := by omega
  rw [e] at h
  refine Nat.le_trans h ?_
  have h3 : n.toNat * (r.toNat - l.toNat - 1) ≤ n.toNat * ns.length := Nat.mul_le_mul_left _ (by omega)
  have h4 : ((n.toNat * ns.length : Nat) : Int) = n * ns.length := by rw [Int.natCast_mul, Int.toNat_of_nonneg n0]
  omega
theorem mid_bounds {l r : Int} (h : l + 1 < r) (l0 : 0 ≤ l) : l < (l + r) / 2 ∧ (l + r) / 2 < r := by omega
end Mine
namespace Mine
open PySem.Builtin.Int (intBits)
theorem ne_rest {d e : Addr} {l : List (Addr × Obj)} (h : AllLt d l) (hde : @LE.le Nat _ d e) : ∀ p ∈ l, p.1 ≠ e := fun p hp => Nat.ne_of_lt (Nat.lt_of_lt_of_le (kst_ltOf h p hp) hde)
def InnerC (prog : Program) (w : World) (K : Frag) (p : Program) (loose : List Str) (mean : ExcName → Option Value) (mg mb : Str → Option Value) (fI : Addr) (pre : List (Addr × Obj)) (ns : List Int) (n : Int) (k : Nat) : Prop :=
  ∀ (l r : Int) (t u : Tok) (dp un : Nat) (gd : Option (List Code)) (cn : Str) (cs : Scope) (a : Addr) (ccd : Value) (cl : List (Str × Addr)) (outer : List Env) (A₀ : Around) (base h₀ : Heap) (L : Addr) (m : Str → Option Value) (rest : List (Addr × Obj)) (s : Shared)
    (Q E : Value → Shared → Prop), 0 ≤ l → l < r → r ≤ ns.length → r - l ≤ 2 ^ k →
    Below A₀ base outer h₀ → Fr h₀ L s.heap m → K.In h₀ → News h₀ L s.heap (pre ++ rest) → Top p loose mean mg mb h₀ → cs.kind = .function → dp + k + 104 < recursionLimit → un + 8 * k + 100 < cLine →
    (∀ t' h' tk', Fr h₀ L h' m → News h₀ L h' (pre ++ rest) → Q (.int (evalD (2 ^ n.toNat) (cutD ns l.toNat r.toNat)) t') { s with heap := h', toks := tk' }) →
    wpAny (model prog w) (ktrTop dp un gd cn cs L a ccd cl outer) (call (.ref fI) [.int l t, .int r u]) Q E s
section
variable {prog : Program} {w : World} {K : Frag} {p : Program} {loose : List Str} {mean : ExcName → Option Value} {mg mb : Str → Option Value} {fI : Addr} {pre : List (Addr × Obj)} {ns : List Int} {n : Int}
theorem inner_all (step : ∀ k, (∀ j, k = j + 1 → InnerC prog w K p loose mean mg mb fI pre ns n j) → InnerC prog w K p loose mean mg mb fI pre ns n k) : ∀ k, InnerC prog w K p loose mean mg mb fI pre ns n k
  | 0 => step 0 fun j e => by omega
  | k + 1 => step (k + 1) fun j e => by
      obtain rfl : k = j := by omega
      exact inner_all step k
theorem inner_use {k : Nat} {l r : Int} {t u : Tok} {dp un : Nat} {gd : Option (List Code)} {cn : Str} {cs : Scope} {a : Addr} {ccd : Value} {cl : List (Str × Addr)} {outer : List Env} {A₀ : Around} {base h₀ : Heap} {L : Addr} {m : Str → Option Value} {news : List (Addr × Obj)} {s : Shared}
    {Q E : Value → Shared → Prop} (C : InnerC prog w K p loose mean mg mb fI pre ns n k) (l0 : 0 ≤ l) (lr : l < r) (hr : r ≤ ns.length) (hk2 : r - l ≤ 2 ^ k)
    (B : Below A₀ base outer h₀) (F : Fr h₀ L s.heap m) (X : K.In h₀) (N : News h₀ L s.heap news) (hp : ∀ p ∈ pre, p ∈ news) (T : Top p loose mean mg mb h₀) (hk : cs.kind = .function) (hdp : dp + k + 104 < recursionLimit) (hu : un + 8 * k + 100 < cLine)
    (ret : ∀ t' h' tk', Fr h₀ L h' m → News h₀ L h' news → Q (.int (evalD (2 ^ n.toNat) (cutD ns l.toNat r.toNat)) t') { s with heap := h', toks := tk' }) :
    wpAny (model prog w) (ktrTop dp un gd cn cs L a ccd cl outer) (call (.ref fI) [.int l t, .int r u]) Q E s :=
  C l r t u dp un gd cn cs a ccd cl outer A₀ base h₀ L m news s Q E l0 lr hr hk2 B F X (fun q hq => by
    rcases List.mem_append.mp hq with hq | hq
    · exact N q (hp q hq)
    · exact N q hq) T hk hdp hu fun t' h' tk' F' N' => ret t' h' tk' F' fun q hq => N' q (List.mem_append.mpr (.inr hq))
theorem inner_use6 {nm ql : Str} {prm : Arguments} {bd : List Stmt} {sc : Scope} {clo : List (Str × Addr)} {doc pm ct : Value} {c2 c3 c4 c5 c6 : Addr} {o2 o3 o4 o5 o6 : Obj} {k : Nat} {l r : Int} {t u : Tok} {dp un : Nat} {gd : Option (List Code)} {cn : Str} {cs : Scope} {a : Addr} {ccd : Value} {cl : List (Str × Addr)} {outer : List Env} {A₀ : Around} {base h₀ : Heap} {L : Addr} {m : Str → Option Value} {news : List (Addr × Obj)} {s : Shared}
    {Q E : Value → Shared → Prop} (N : News h₀ L s.heap news) (m1 : (fI, fnMade nm ql prm bd sc clo doc pm c2 ct) ∈ news) (m2 : (c2, o2) ∈ news) (m3 : (c3, o3) ∈ news) (m4 : (c4, o4) ∈ news) (m5 : (c5, o5) ∈ news) (m6 : (c6, o6) ∈ news)
    (C : InnerC prog w K p loose mean mg mb fI [(fI, fnMade nm ql prm bd sc clo doc pm c2 ct), (c2, o2), (c3, o3), (c4, o4), (c5, o5), (c6, o6)] ns n k) (l0 : 0 ≤ l) (lr : l < r) (hr : r ≤ ns.length) (hk2 : r - l ≤ 2 ^ k)
    (B : Below A₀ base outer h₀) (F : Fr h₀ L s.heap m) (X : K.In h₀) (T : Top p loose mean mg mb h₀) (hk : cs.kind = .function) (hdp : dp + k + 104 < recursionLimit) (hu : un + 8 * k + 100 < cLine)
    (ret : ∀ t' h' tk', Fr h₀ L h' m → News h₀ L h' news → Q (.int (evalD (2 ^ n.toNat) (cutD ns l.toNat r.toNat)) t') { s with heap := h', toks := tk' }) :
    wpAny (model prog w) (ktrTop dp un gd cn cs L a ccd cl outer) (call (.ref fI) [.int l t, .int r u]) Q E s :=
  inner_use C l0 lr hr hk2 B F X N (List.forall_mem_cons.mpr ⟨m1, List.forall_mem_cons.mpr ⟨m2, List.forall_mem_cons.mpr ⟨m3, List.forall_mem_cons.mpr ⟨m4, List.forall_mem_cons.mpr ⟨m5, List.forall_mem_cons.mpr ⟨m6, List.forall_mem_nil _⟩⟩⟩⟩⟩⟩) T hk hdp hu ret
end
section
variable {prog : Program} {w : World} {A : Around} {E : Value → Shared → Prop} {s : Shared} {h₀ : Heap} {L : Addr} {news : List (Addr × Obj)} {l : Addr} {vs : List Value} {ns : List Int} {c : Nat}
theorem truth_z {Q : Bool → Shared → Prop} (N : News h₀ L s.heap news) (hm : (l, listOf vs.toArray c) ∈ news) (hi : IntsAre vs ns) (hlen : ns.length ≤ 1000000)
    (h1 : ns ≠ [] → ∀ tk, Q true { s with toks := tk }) (h2 : ns = [] → ∀ tk, Q false { s with toks := tk }) : wpAny (model prog w) A (truthy (.ref l)) Q E s := by
  have hl : s.heap.IsList l vs.toArray := ⟨_, (N _ hm).1, rfl, c, rfl⟩
  have e := hi.length
  refine wpAny_truthy_list hl (by rw [List.size_toArray, e]; omega) ?_
  cases ns with
  | nil =>
    have : vs = [] := List.length_eq_zero_iff.mp (by rw [e]; rfl)
    subst this
    exact h2 rfl _
  | cons x r =>
    cases vs with
    | nil => simp at e
    | cons v vr => exact h1 (by simp) _
end
/-- the table of a def's inner defs: empty, or with the one code object -/
def TabS (P : Addr) (line col : Nat) (ql : Str) (X : Obj) (C : Addr) (Y : Obj) : Prop :=
  (X = tabObj #[] ∧ C = P ∧ Y = X) ∨ (X = tabObj #[rawInt line, rawInt col, .ref C] ∧ C ≠ P ∧ ∃ vs t, Y.data = .fields vs ∧ vs[1]? = some (.str ql t))
theorem TabS.grown {P : Addr} {line col : Nat} {ql : Str} {X Y : Obj} {C : Addr} (h : TabS P line col ql X C Y) : ∃ ps, X = tabObj ps := by
  rcases h with h | h
  · exact ⟨_, h.1⟩
  · exact ⟨_, h.1⟩
/-- the table with the one code object -/
def TabF (P : Addr) (line col : Nat) (ql : Str) (X : Obj) (C : Addr) (Y : Obj) : Prop :=
  X = tabObj #[rawInt line, rawInt col, .ref C] ∧ C ≠ P ∧ ∃ vs t, Y.data = .fields vs ∧ vs[1]? = some (.str ql t)
theorem TabF.toS {P : Addr} {line col : Nat} {ql : Str} {X Y : Obj} {C : Addr} (h : TabF P line col ql X C Y) : TabS P line col ql X C Y := .inr h
theorem TabF.grown {P : Addr} {line col : Nat} {ql : Str} {X Y : Obj} {C : Addr} (h : TabF P line col ql X C Y) : ∃ ps, X = tabObj ps := ⟨_, h.1⟩
/-- its code object lies apart from what is no record -/
theorem TabF.off {P : Addr} {line col : Nat} {ql : Str} {X Y o : Obj} {C a : Addr} {h₀ h : Heap} {L : Addr} {news : List (Addr × Obj)} (H : TabF P line col ql X C Y) (N : News h₀ L h news) (hC : (C, Y) ∈ news) (hO : (a, o) ∈ news) (ho : ∀ vs, o.data ≠ .fields vs) : C ≠ a := by
  obtain ⟨_, _, vs, t, e1, _⟩ := H
  intro e
  have g1 := (N _ hC).1
  have g2 := (N _ hO).1
  rw [e, g2] at g1
  have g3 : o = Y := Option.some.inj g1
  exact ho vs (by rw [g3]; exact e1)
theorem TabS.start (P : Addr) (line col : Nat) (ql : Str) : TabS P line col ql (tabObj #[]) P (tabObj #[]) := .inl ⟨rfl, rfl, rfl⟩
theorem tab_fin {P C' lst : Addr} {line col : Nat} {ql : Str} {X' Y' ol : Obj} {full rest : List (Addr × Obj)} {vs : Array Value} {t : Tok} {h₀ h : Heap} {L : Addr} (N : News h₀ L h full) (hX : (P, X') ∈ full) (e : X' = tabObj #[rawInt line, rawInt col, .ref C']) (hY : (C', Y') ∈ full) (hne : C' ≠ P) (h1 : Y'.data = .fields vs) (h2 : vs[1]? = some (.str ql t))
    (hl : (lst, ol) ∈ full) (hs : ∀ q ∈ rest, q ∈ full) : TabF P line col ql X' C' Y' ∧ News h₀ L h ((P, X') :: (C', Y') :: (lst, ol) :: rest) :=
  ⟨⟨e, hne, vs, t, h1, h2⟩, fun q hq => N q (by
    rcases List.mem_cons.mp hq with rfl | hq
    · exact hX
    rcases List.mem_cons.mp hq with rfl | hq
    · exact hY
    rcases List.mem_cons.mp hq with rfl | hq
    · exact hl
    exact hs q hq)⟩
end Mine
namespace Mine
open PySem.Builtin.Int (intBits)
section
variable {prog : Program} {w : World} {A : Around} {E : Value → Shared → Prop} {s : Shared} {a b : Int} {t u : Tok} {Q : Value → Shared → Prop}
theorem half_p (h : ∀ z, z = a / 2 → Q (.int z s.toks) { s with toks := s.toks + 1 }) : wpAny (model prog w) A (binaryOp .RShift (.int a t) (.int 1 u)) Q E s := by
  refine rshift_int (by decide) (h _ ?_)
  have e : (2 : Int) ^ (1 : Int).toNat = 2 := by decide
  rw [e, Int.fdiv_eq_ediv_of_nonneg _ (by decide)]
theorem mulS_p (a0 : 0 ≤ a) (a1 : a ≤ 1000000) (b0 : 0 ≤ b) (b1 : b ≤ 10000000) (h : ∀ z, z = a * b → Q (.int z s.toks) { s with toks := s.toks + 1 }) : wpAny (model prog w) A (binaryOp .Mult (.int a t) (.int b u)) Q E s :=
  mul_p (m := 20) (n := 24) (bits_of_lt a0 (by have : (2 : Int) ^ 20 = 1048576 := by decide
                                               omega)) (bits_of_lt b0 (by have : (2 : Int) ^ 24 = 16777216 := by decide
                                                                          omega)) (by decide) (h _ rfl)
theorem shlD_p {x e : Int} (h0 : 0 ≤ e) (h1 : e ≤ 10000000) (hx : intBits x ≤ 10000000) (h : ∀ z, z = x * 2 ^ e.toNat → Q (.int z s.toks) { s with toks := s.toks + 1 }) : wpAny (model prog w) A (binaryOp .LShift (.int x t) (.int e u)) Q E s :=
  shl_p (N := 10000000) (m := 10000000) h0 hx h1 (by decide) fun z _ e _ => h z e
end
section
variable {prog : Program} {w : World} {A : Around} {E : Value → Shared → Prop} {s : Shared} {h₀ : Heap} {L : Addr} {news : List (Addr × Obj)} {value slice : Expr} {l : Addr} {vs : List Value} {ns : List Int} {c : Nat} {k : Int} {u : Tok} {Q : Value → Shared → Prop}
theorem itemD (N : News h₀ L s.heap news) (hm : (l, listOf vs.toArray c) ∈ news) (hi : IntsAre vs ns) (h0 : 0 ≤ k) (h1 : k < (ns.length : Int)) (h2 : (ns.length : Int) ≤ 1000000) (h : ∀ t, Q (.int (ns.getD k.toNat 0) t) s)
    (hs : subscripted slice false (.ref l) (.int k u) = operate [.ref l, .int k u] (getItem (.ref l) (.int k u)) := by with_unfolding_all rfl) (hg : ∀ r, letTemporaryGo value (.ref l) r = pure () := by intro _; with_unfolding_all rfl) :
    wpAny (model prog w) A (subscriptTail value slice (.ref l) (.int k u)) Q E s :=
  item_list_ints ⟨_, (N _ hm).1, rfl, c, rfl⟩ hi h0 h1 (by omega) h hs hg
end
theorem half_le {l r : Int} {k : Nat} (h : r - l ≤ 2 ^ k) (h1 : l + 1 < r) : ∃ j, k = j + 1 ∧ r - (l + r) / 2 ≤ 2 ^ j ∧ (l + r) / 2 - l ≤ 2 ^ j := by
  cases k with
  | zero => simp at h; omega
  | succ j => exact ⟨j, rfl, by rw [Int.pow_succ] at h; omega, by rw [Int.pow_succ] at h; omega⟩
theorem shift_le {l m r n : Int} {ns : List Int} {B : Nat} (n0 : 0 ≤ n) (l0 : 0 ≤ l) (h1 : l ≤ m) (h2 : m ≤ r) (h3 : r ≤ ns.length) (hN : (B : Int) + n * ns.length + ns.length ≤ 10000000) : 0 ≤ (m - l) * n ∧ (m - l) * n ≤ 10000000 := by
  have h4 : (m - l) * n ≤ ns.length * n := mul_le_of n0 (by omega)
  rw [Int.mul_comm (ns.length : Int)] at h4
  have : 0 ≤ n * ns.length := Int.mul_nonneg n0 (by omega)
  exact ⟨Int.mul_nonneg (by omega) n0, by omega⟩
theorem evalD_one (P x : Int) : evalD P [x] = x := by rw [evalD, evalD, Int.mul_zero, Int.add_zero]
local macro_rules | `(tactic| k_all) => `(tactic| first | assumption | exact ne_rest (by assumption) (by omega))
local macro_rules | `(tactic| walk_at "truthy ref") => `(tactic| k_extra "truth")
local macro_rules | `(tactic| walk_at "call ref") => `(tactic| k_extra "mycall")
local macro_rules | `(tactic| walk_at "eval Name") => `(tactic| (k_here; k_dflt (refine' nameX_F ?N ?c ?m ?d ?_ ?a ?b; (case a => rfl); (case b => rfl); (case N => k_asm); (case c => rfl); (case m => k_mem); (case d => k_asm); k_whole)))
local macro_rules | `(tactic| walk_at "binaryOp RShift int int") => `(tactic| k_extra "half")
local macro_rules | `(tactic| walk_at "binaryOp Mult int int") => `(tactic| k_extra "mul")
local macro_rules | `(tactic| walk_at "binaryOp LShift int int") => `(tactic| k_extra "shl")
local macro_rules | `(tactic| walk_at "subscriptTail Name Name ref int") => `(tactic| k_extra "item")
set_option maxRecDepth 100000 in
set_option maxHeartbeats 8000000 in
theorem dig_c (w : World) (mean : ExcName → Option Value) (mg mb : Str → Option Value) {n : Int} {vs : List Value} {ns : List Int} {c Bd : Nat} {lst : Addr} {t : Tok} {Xo Yo : Obj} {Co : Addr} (hI : IntsAre vs ns) (hlen : ns.length ≤ 1000000) (n0 : 0 ≤ n) (hB : ∀ x ∈ ns, intBits x ≤ Bd) (hN : (Bd : Int) + n * ns.length + ns.length ≤ 10000000) (n1 : n ≤ 10000000)
    {dp un : Nat} {gd : Option (List Code)} {cn : Str} {cs : Scope} {a : Addr} {ccd : Value} {cl : List (Str × Addr)} {outer : List Env} {A₀ : Around} {base h₀ : Heap} {L : Addr} {m : Str → Option Value} {rest : List (Addr × Obj)} {s : Shared}
    {Q E : Value → Shared → Prop} (B : Below A₀ base outer h₀) (F : Fr h₀ L s.heap m) (X : (hd.heap_39 w.params).In h₀) (N : News h₀ L s.heap ((30, Xo) :: (Co, Yo) :: (lst, listOf vs.toArray c) :: rest)) (T : Top prog0 (looseW hd.view_39 [] ++ List.map (fun x => x.name) (recsOf hd.view_39) ++ List.map (fun x => x.fst) (litsOf hd.view_39) ++ List.map (fun x => x.name) (clssOf hd.view_39 (looseW hd.view_39 []))) mean mg mb h₀) (hC : CodeHd h₀ 34 30) (hr : ∀ p ∈ rest, p.1 ≠ 30) (hlp : lst ≠ 30) (hTab : TabS 30 31 4 (Str.ofString "_digits2int.<locals>.inner") Xo Co Yo) (hk : cs.kind = .function) (hdp : dp + 22 + 104 < recursionLimit) (hu : un + 8 * 22 + 100 < cLine)
    (hret : ∀ X' C' Y' t' h' tk', TabF 30 31 4 (Str.ofString "_digits2int.<locals>.inner") X' C' Y' → Fr h₀ L h' m → News h₀ L h' ((30, X') :: (C', Y') :: (lst, listOf vs.toArray c) :: rest) → Q (.int (evalD (2 ^ n.toNat) ns) t') { s with heap := h', toks := tk' }) :
    wpAny (model PySem.Challenge.rw_dn0134_08.row.prog w) (ktrTop dp un gd cn cs L a ccd cl outer) (call (.ref 35) [.ref lst, .int n t]) Q E s := by
  (have hh : PySem.Challenge.rw_dn0134_08 = PySem.Challenge.rw_dn0134_08 ∧ hd.heap_39 = hd.heap_39 := by (k_fill; exact ⟨rfl, rfl⟩))
  clear hh
  w_top off
  k_with_none
  k_with "truth" => (k_dflt (refine' truth_z ?zN ?zm hI hlen ?_ ?_; (case zN => k_asm); (case zm => k_mem)); rotate_left; (intro hnil tk1); rotate_left; (intro hne tk1; have hpos := List.length_pos_iff.mpr hne))
  k_with "half" => ((with_reducible refine half_p ?_); intro mid hmid)
  k_with "mul" => ((with_reducible refine' mulS_p ?za ?zb n0 n1 ?_); (case za => omega); (case zb => omega); intro sh hsh)
  k_with "shl" => (have hsl := shift_le (l := il) (m := mid) (r := ir) n0 (by omega) (by omega) (by omega) (by omega) hN; rw [← hsh] at hsl; (k_dflt (refine' shlD_p hsl.1 hsl.2 (inner_bits' (N := 10000000) n0 hB ?za ?zb ?zc (by exact hN)) ?_)); (case za => omega); (case zb => omega); (case zc => omega); intro zl hzl)
  k_with "item" => (k_dflt (refine' itemD ?zN ?zm hI ?za ?zb ?zc ?_; (case zN => k_asm); (case zm => k_mem); (case za => omega); (case zb => omega); (case zc => omega)); intro ti)
  k_with "mycall" => (first
    | (obtain ⟨j, hj, hj1, hj2⟩ := half_le (l := il) (r := ir) ik (by omega)
       k_dflt (refine' inner_use6 (k := j) ?zN ?zm1 ?zm2 ?zm3 ?zm4 ?zm5 ?zm6 (hIH j hj) ?l0 ?lr ?hr2 ?hk2 ?zB ?zF ?zX ?zT ?kK ?zd ?zu ?_)
       (case zN => k_asm)
       (case zm1 => k_dflt k_mem)
       (case zm2 => k_dflt k_mem)
       (case zm3 => k_dflt k_mem)
       (case zm4 => k_dflt k_mem)
       (case zm5 => k_dflt k_mem)
       (case zm6 => k_dflt k_mem)
       (case l0 => omega)
       (case lr => omega)
       (case hr2 => omega)
       (case hk2 => omega)
       (case zB => k_asm)
       (case zF => k_asm)
       (case zX => k_asm)
       (case zT => k_asm)
       (case kK => exact rfl)
       (case zd => ktr_room)
       (case zu => ktr_units)
       intro ti h' tk' F' N'
       (try dsimp only)
       (try k_fold))
    | ((fail_if_success (have h9 := hIH)); k_dflt (refine' inner_use6 (c3 := L' + 1 + 1 + 1) (c4 := L' + 1 + 1) (c5 := L' + 1) (c6 := lst) (o6 := listOf vs.toArray c) (ns := ns) (n := n) (k := 20) ?zN ?zm1 ?zm2 ?zm3 ?zm4 ?zm5 ?zm6 (inner_all ?step 20) ?l0 ?lr ?hr2 ?hk2 ?zB ?zF ?zX ?zT ?kK ?zd ?zu ?_)
       (case zN => k_asm)
       (case zm1 => k_dflt k_mem)
       (case zm2 => k_dflt k_mem)
       (case zm3 => k_dflt k_mem)
       (case zm4 => k_dflt k_mem)
       (case zm5 => k_dflt k_mem)
       (case zm6 => k_dflt k_mem)
       (case l0 => decide)
       (case lr => omega)
       (case hr2 => omega)
       (case hk2 => (simp; omega))
       (case zB => k_asm)
       (case zF => k_asm)
       (case zX => k_asm)
       (case zT => k_asm)
       (case kK => exact rfl)
       (case zd => ktr_room)
       (case zu => ktr_units)
       (case step => (
         intro k hIH
         unfold InnerC
         intro il ir ti ui dp2 un2 gd2 cn2 cs2 a2 ccd2 cl2 outer2 A2 base2 h2 L2 m2 rest2 s2 Q2 E2 il0 ilr irn ik IB IF IX IN IT Ik Id Iu Iret
         simp only [List.cons_append, List.nil_append] at IN Iret
         refine wpAny_call ?_
         k_dflt (refine' code_nest ?k1 ?k2 ?k3 ?k4 ?k5 ?kA ?kF ?kK ?k6 ?k7 ?k8 ?k9 ?kB ?_ ?c2 ?c3 ?c4 ?c5; (case kA => exact rfl); (case kF => exact rfl); (case kK => assumption); (case k1 => k_asm); (case k2 => k_asm); (case k3 => k_asm); (case k4 => k_asm); (case k5 => k_asm); (case k6 => k_mem); (case k7 => exact codeRec_news (by k_asm) (by k_mem) (by assumption) (by assumption)); (case k8 => ktr_room); (case k9 => exact BindsTo.of_eq rfl); (case c5 => decide); (case kB => exact locs rfl); (case c2 => exact rfl); (case c3 => exact rfl); (case c4 => exact rfl); k_whole; intro g2' L2' h2' FG2' F2' N2' B2' X2' T2'; (try dsimp only); (try k_fold))
         k_dflt (k_steps)
         all_goals (first
           | ((have e9 : evalD (2 ^ n.toNat) (cutD ns il.toNat ir.toNat) = ns.getD il.toNat 0 := by rw [show ir.toNat = il.toNat + 1 by omega, cutD_one (by omega), evalD_one]); rw [← e9]; exact Iret _ _ _ (by k_asm) (by k_asm))
           | ((have e9 := inner_val (ns := ns) (l := il) (m := mid) (r := ir) n0 il0 (by omega) (by omega) irn); rw [← hsh] at e9; rw [hzl, e9]; exact Iret _ _ _ (by k_asm) (by k_asm)))))
       intro ti h' tk' F' N'
       (try dsimp only)
       (try k_fold)))
  rcases hTab with ⟨rfl, rfl, rfl⟩ | ⟨rfl, hCne, vsC, tC, hY1, hY2⟩
  · replace N := news_sub N (sub0 (sub1 subr))
    refine wpAny_call ?_
    k_dflt (refine' code_defC ?k1 ?k2 ?k3 ?k4 ?k5 ?kA ?kF ?kK ?k6 ?k7 ?k8 ?k9 ?kB ?kD ?_ ?c2 ?c3 ?c4; (case kA => exact rfl); (case kF => exact rfl); (case kK => assumption); (case k1 => k_asm); (case k2 => k_asm); (case k3 => k_asm); (case k4 => k_asm); (case k5 => k_asm); (case k6 => k_is); (case k7 => k_is); (case k8 => ktr_room); (case k9 => exact BindsTo.of_eq rfl); (case kB => exact rfl); (case kD => decide); (case c2 => exact rfl); (case c3 => exact rfl); (case c4 => exact rfl); k_whole; intro g' L' h' tk' cells' FG' F' N' Y' B' X' T' l1)
    (try k_lt l1); (first | obtain ⟨l1a, l1e, l1b, l1c⟩ := l1 | obtain ⟨l1a, l1b, l1c⟩ := l1); have hC' := hC.keeps FG'.keep; k_cells Y'; (try simp only [List.cons_append, List.nil_append] at N'); (try dsimp only); (try k_fold)
    k_steps
    all_goals (
      (obtain ⟨hf1, hf2⟩ := tab_fin (P := 30) (line := 31) (col := 4) (ql := Str.ofString "_digits2int.<locals>.inner") (h₀ := h₀) (L := L) (lst := lst) (ol := listOf vs.toArray c) (rest := rest) (by k_asm) (by k_mem) rfl (by k_mem) (by first | assumption | k_ne) (by assumption) (by assumption) (by k_mem) (by (repeat' (first | exact subr | (refine sub1 ?_)))))
      first
        | ((have e9 : evalD (2 ^ n.toNat) (cutD ns (Int.toNat 0) ((ns.length : Int)).toNat) = evalD (2 ^ n.toNat) ns := (by rw [Int.toNat_natCast]; exact congrArg _ (cutD_all ns))); rw [e9]; exact hret _ _ _ _ _ _ hf1 (by k_asm) hf2)
        | (subst hnil; exact hret _ _ _ _ _ _ hf1 (by k_asm) hf2))
  ·
    refine wpAny_call ?_
    k_dflt (refine' code_defC ?k1 ?k2 ?k3 ?k4 ?k5 ?kA ?kF ?kK ?k6 ?k7 ?k8 ?k9 ?kB ?kD ?_ ?c2 ?c3 ?c4; (case kA => exact rfl); (case kF => exact rfl); (case kK => assumption); (case k1 => k_asm); (case k2 => k_asm); (case k3 => k_asm); (case k4 => k_asm); (case k5 => k_asm); (case k6 => k_is); (case k7 => k_is); (case k8 => ktr_room); (case k9 => exact BindsTo.of_eq rfl); (case kB => exact rfl); (case kD => decide); (case c2 => exact rfl); (case c3 => exact rfl); (case c4 => exact rfl); k_whole; intro g' L' h' tk' cells' FG' F' N' Y' B' X' T' l1)
    (try k_lt l1); (first | obtain ⟨l1a, l1e, l1b, l1c⟩ := l1 | obtain ⟨l1a, l1b, l1c⟩ := l1); have hC' := hC.keeps FG'.keep; k_cells Y'; (try simp only [List.cons_append, List.nil_append] at N'); (try dsimp only); (try k_fold)
    k_steps
    all_goals (
      (obtain ⟨hf1, hf2⟩ := tab_fin (P := 30) (line := 31) (col := 4) (ql := Str.ofString "_digits2int.<locals>.inner") (h₀ := h₀) (L := L) (lst := lst) (ol := listOf vs.toArray c) (rest := rest) (by k_asm) (by k_mem) rfl (by k_mem) (by first | assumption | k_ne) (by assumption) (by assumption) (by k_mem) (by (repeat' (first | exact subr | (refine sub1 ?_)))))
      first
        | ((have e9 : evalD (2 ^ n.toNat) (cutD ns (Int.toNat 0) ((ns.length : Int)).toNat) = evalD (2 ^ n.toNat) ns := (by rw [Int.toNat_natCast]; exact congrArg _ (cutD_all ns))); rw [e9]; exact hret _ _ _ _ _ _ hf1 (by k_asm) hf2)
        | (subst hnil; exact hret _ _ _ _ _ _ hf1 (by k_asm) hf2))
end Mine
namespace Mine
open PySem.Builtin.Int (intBits)
theorem dig_use {w : World} {mean : ExcName → Option Value} {mg mb : Str → Option Value} {n : Int} {vs : List Value} {ns : List Int} {c Bd : Nat} {lst : Addr} {t : Tok} {Xo Yo : Obj} {Co : Addr} (hI : IntsAre vs ns) (hlen : ns.length ≤ 1000000) (n0 : 0 ≤ n) (hB : ∀ x ∈ ns, intBits x ≤ Bd) (hN : (Bd : Int) + n * ns.length + ns.length ≤ 10000000) (n1 : n ≤ 10000000)
    {dp un : Nat} {gd : Option (List Code)} {cn : Str} {cs : Scope} {a : Addr} {ccd : Value} {cl : List (Str × Addr)} {outer : List Env} {A₀ : Around} {base h₀ : Heap} {L : Addr} {m : Str → Option Value} {news : List (Addr × Obj)} {g : Obj → List (Addr × Obj)} {s : Shared}
    {Q E : Value → Shared → Prop} (B : Below A₀ base outer h₀) (F : Fr h₀ L s.heap m) (X : (hd.heap_39 w.params).In h₀) (N : News h₀ L s.heap news) (U : UpdF 30 Xo news g) (hY : (Co, Yo) ∈ news) (hl : (lst, listOf vs.toArray c) ∈ news) (T : Top prog0 (looseW hd.view_39 [] ++ List.map (fun x => x.name) (recsOf hd.view_39) ++ List.map (fun x => x.fst) (litsOf hd.view_39) ++ List.map (fun x => x.name) (clssOf hd.view_39 (looseW hd.view_39 []))) mean mg mb h₀) (hC : CodeHd h₀ 34 30) (hTab : TabS 30 31 4 (Str.ofString "_digits2int.<locals>.inner") Xo Co Yo) (hk : cs.kind = .function) (hdp : dp + 22 + 104 < recursionLimit) (hu : un + 8 * 22 + 100 < cLine)
    (hret : ∀ X' C' Y' t' h' tk', TabF 30 31 4 (Str.ofString "_digits2int.<locals>.inner") X' C' Y' → Fr h₀ L h' m → News h₀ L h' ((C', Y') :: g X') → Q (.int (evalD (2 ^ n.toNat) ns) t') { s with heap := h', toks := tk' }) :
    wpAny (model PySem.Challenge.rw_dn0134_08.row.prog w) (ktrTop dp un gd cn cs L a ccd cl outer) (call (.ref 35) [.ref lst, .int n t]) Q E s := by
  obtain ⟨pre, post, rfl, hg, h1, h2⟩ := U.split
  have hP := N (30, Xo) (List.mem_append_right _ (.head _))
  have hlp : lst ≠ 30 := by
    intro e
    obtain ⟨ps, e2⟩ := hTab.grown
    have e3 := (N _ hl).1
    rw [e, hP.1, e2] at e3
    cases e3
  refine dig_c w mean mg mb (c := c) (rest := pre ++ post) (Xo := Xo) (Yo := Yo) (Co := Co) hI hlen n0 hB hN n1 B F X ?_ T hC ?_ hlp hTab hk hdp hu ?_
  · intro q hq
    rcases List.mem_cons.mp hq with rfl | hq
    · exact hP
    rcases List.mem_cons.mp hq with rfl | hq
    · exact N _ hY
    rcases List.mem_cons.mp hq with rfl | hq
    · exact N _ hl
    rcases List.mem_append.mp hq with hq | hq
    · exact N q (List.mem_append_left _ hq)
    · exact N q (List.mem_append_right _ (.tail _ hq))
  · intro q hq
    rcases List.mem_append.mp hq with hq | hq
    · exact h1 q hq
    · exact h2 q hq
  · intro X' C' Y' t' h' tk' hT' F' N'
    refine hret X' C' Y' t' h' tk' hT' F' (fun q hq => ?_)
    rcases List.mem_cons.mp hq with rfl | hq
    · exact N' _ (.tail _ (.head _))
    rw [hg] at hq
    rcases List.mem_append.mp hq with hq | hq
    · exact N' _ (.tail _ (.tail _ (.tail _ (List.mem_append_left _ hq))))
    rcases List.mem_cons.mp hq with rfl | hq
    · exact N' _ (.head _)
    · exact N' _ (.tail _ (.tail _ (.tail _ (List.mem_append_right _ hq))))
end Mine
namespace Mine
section
variable {prog : Program} {w : World} {A : Around} {E : Value → Shared → Prop} {s : Shared} {h₀ : Heap} {L l : Addr} {m : Str → Option Value} {news : List (Addr × Obj)} {value slice : PySem.Expr} {vs : List Value} {ns : List Int} {x y : Int} {t u : Tok} {Q : Value → Shared → Prop}
theorem cutL_from (F : Fr h₀ L s.heap m) (N : News h₀ L s.heap news) (hl : s.heap.IsList l vs.toArray) (hi : IntsAre vs ns) (x0 : 0 ≤ x) (hz : ns.length ≤ 1000000)
    (h : ∀ D ws h', Fr h₀ L h' m → News h₀ L h' ((D, listOf (List.toArray ws) 0) :: news) → (∀ p ∈ news, p.1 < D) → IntsAre ws (ns.drop x.toNat) → Q (.ref D) { s with heap := h' })
    (hs : subscripted slice false (.ref l) (.ref s.heap.objs.size) = operate [.ref s.heap.objs.size, .ref l] (getItem (.ref l) (.ref s.heap.objs.size)) := by with_unfolding_all rfl) :
    wpAny (model prog w) A (subscriptTail value slice (.ref l) (.ref s.heap.objs.size)) Q E { s with heap := s.heap.push { cls := .type "slice", data := .fields #[.int x t, .none, .none] } } :=
  kba_turn (value' := PySem.Expr.Name (PySem.Str.ofString "_") ⟨0, 0, 0, 0⟩) (fun _ => rfl) (kmk_slice_ints F N hl (.int _ _) .none hi (kmk_from hi x0) rfl (fun D ws h' F' N' l' I' _ _ => h D ws h' F' N' l' I') hs (fun _ => rfl) (by rw [List.size_toArray, hi.length]; exact Nat.le_trans hz (by decide)))
theorem cutL_upto (F : Fr h₀ L s.heap m) (N : News h₀ L s.heap news) (hl : s.heap.IsList l vs.toArray) (hi : IntsAre vs ns) (x0 : 0 ≤ x) (hz : ns.length ≤ 1000000)
    (h : ∀ D ws h', Fr h₀ L h' m → News h₀ L h' ((D, listOf (List.toArray ws) 0) :: news) → (∀ p ∈ news, p.1 < D) → IntsAre ws (ns.take x.toNat) → Q (.ref D) { s with heap := h' })
    (hs : subscripted slice false (.ref l) (.ref s.heap.objs.size) = operate [.ref s.heap.objs.size, .ref l] (getItem (.ref l) (.ref s.heap.objs.size)) := by with_unfolding_all rfl) :
    wpAny (model prog w) A (subscriptTail value slice (.ref l) (.ref s.heap.objs.size)) Q E { s with heap := s.heap.push { cls := .type "slice", data := .fields #[.none, .int x t, .none] } } :=
  kba_turn (value' := PySem.Expr.Name (PySem.Str.ofString "_") ⟨0, 0, 0, 0⟩) (fun _ => rfl) (kmk_slice_ints F N hl .none (.int _ _) hi (kmk_upto hi x0) rfl (fun D ws h' F' N' l' I' _ _ => h D ws h' F' N' l' I') hs (fun _ => rfl) (by rw [List.size_toArray, hi.length]; exact Nat.le_trans hz (by decide)))
theorem cutL_run (F : Fr h₀ L s.heap m) (N : News h₀ L s.heap news) (hl : s.heap.IsList l vs.toArray) (hi : IntsAre vs ns) (x0 : 0 ≤ x) (y0 : 0 ≤ y) (hz : ns.length ≤ 1000000)
    (h : ∀ D ws h', Fr h₀ L h' m → News h₀ L h' ((D, listOf (List.toArray ws) 0) :: news) → (∀ p ∈ news, p.1 < D) → IntsAre ws ((ns.drop x.toNat).take (min y.toNat ns.length - x.toNat)) → Q (.ref D) { s with heap := h' })
    (hs : subscripted slice false (.ref l) (.ref s.heap.objs.size) = operate [.ref s.heap.objs.size, .ref l] (getItem (.ref l) (.ref s.heap.objs.size)) := by with_unfolding_all rfl) :
    wpAny (model prog w) A (subscriptTail value slice (.ref l) (.ref s.heap.objs.size)) Q E { s with heap := s.heap.push { cls := .type "slice", data := .fields #[.int x t, .int y u, .none] } } :=
  kba_turn (value' := PySem.Expr.Name (PySem.Str.ofString "_") ⟨0, 0, 0, 0⟩) (fun _ => rfl) (kmk_slice_ints F N hl (.int _ _) (.int _ _) hi (kmk_run hi x0 y0) rfl (fun D ws h' F' N' l' I' _ _ => h D ws h' F' N' l' I') hs (fun _ => rfl) (by rw [List.size_toArray, hi.length]; exact Nat.le_trans hz (by decide)))
end
/-- a script's first numbers, the written ones where it has none -/
theorem len3 {l : List Int} (h : l.length = 3) : ∃ a b c, l = [a, b, c] := by
  match l, h with
  | [a, b, c], _ => exact ⟨a, b, c, rfl⟩
theorem len2 {l : List Int} (h : l.length = 2) : ∃ a b, l = [a, b] := by
  match l, h with
  | [a, b], _ => exact ⟨a, b, rfl⟩
theorem head3 (s : List Int) (a b c : Int) : ∃ x y z, List.take (3 : Int).toNat (s ++ List.drop ((s.length : Int)).toNat [a, b, c]) = [x, y, z] := by
  refine len3 ?_
  rw [Int.toNat_natCast, List.length_take, List.length_append, List.length_drop]
  show min 3 (s.length + (3 - s.length)) = 3
  omega
theorem head2 (s : List Int) (a b : Int) : ∃ x y, List.take (2 : Int).toNat (s ++ List.drop ((s.length : Int)).toNat [a, b]) = [x, y] := by
  refine len2 ?_
  rw [Int.toNat_natCast, List.length_take, List.length_append, List.length_drop]
  show min 2 (s.length + (2 - s.length)) = 2
  omega
theorem head_bits {s l ys : List Int} {k j : Nat} (h : PyData.layable0 (.list (s.map .int)) = true) (hl : ∀ x ∈ l, PySem.Builtin.Int.intBits x ≤ 1048576) (e : List.take k (s ++ List.drop j l) = ys) : ∀ x ∈ ys, PySem.Builtin.Int.intBits x ≤ 1048576 := by
  subst e
  intro x hx
  rcases List.mem_append.mp (List.mem_of_mem_take hx) with hx | hx
  · exact intBits_le_of_item hx h
  · exact hl x (List.mem_of_mem_drop hx)
theorem ints3 {vs : List Value} {a b c : Int} (h : IntsAre vs [a, b, c]) : ∃ t u v, vs = [.int a t, .int b u, .int c v] := by
  obtain ⟨t, v1, e1, h1⟩ := h.cons_inv
  obtain ⟨u, v2, e2, h2⟩ := h1.cons_inv
  obtain ⟨v, v3, e3, h3⟩ := h2.cons_inv
  exact ⟨t, u, v, by rw [e1, e2, e3, h3.nil_inv]⟩
theorem ints2 {vs : List Value} {a b : Int} (h : IntsAre vs [a, b]) : ∃ t u, vs = [.int a t, .int b u] := by
  obtain ⟨t, v1, e1, h1⟩ := h.cons_inv
  obtain ⟨u, v2, e2, h2⟩ := h1.cons_inv
  exact ⟨t, u, by rw [e1, e2, h2.nil_inv]⟩
end Mine
namespace Mine
open PySem.Builtin.Int (intBits)
/-- the same by the divisor -/
def Cg (d a b : Int) : Prop := ∃ k, a = b + k * d
theorem Cg.rfl' (d a : Int) : Cg d a a := ⟨0, by omega⟩
theorem Cg.symm {d a b : Int} (h : Cg d a b) : Cg d b a := by
  obtain ⟨k, h⟩ := h
  exact ⟨-k, by rw [Int.neg_mul]; omega⟩
theorem Cg.trans {d a b c : Int} (h : Cg d a b) (h2 : Cg d b c) : Cg d a c := by
  obtain ⟨k, h⟩ := h
  obtain ⟨j, h2⟩ := h2
  exact ⟨k + j, by rw [Int.add_mul]; omega⟩
theorem Cg.mul {d a b x y : Int} (h : Cg d a b) (h2 : Cg d x y) : Cg d (a * x) (b * y) := by
  obtain ⟨k, h⟩ := h
  obtain ⟨j, h2⟩ := h2
  exact ⟨b * j + k * y + k * j * d, by rw [h, h2]; grind⟩
theorem Cg.eq {d a b : Int} (h : Cg d a b) (a0 : 0 ≤ a) (a1 : a < d) (b0 : 0 ≤ b) (b1 : b < d) : a = b := by
  obtain ⟨k, h⟩ := h
  have := uniqNN (b := d) (q := 0) (r := a) (q' := k) (r' := b) (by omega) a0 a1 b0 b1
  exact this.2
/-- an odd divisor below the power of two, and its inverse -/
structure Mont (d P inv : Int) : Prop where
  d0 : 0 < d
  dP : d < P
  iv : ∃ j, inv * d = 1 + j * P
theorem Mont.cancel {d P inv a b : Int} (H : Mont d P inv) (h : Cg d (a * P) (b * P)) : Cg d a b := by
  obtain ⟨j, hj⟩ := H.iv
  obtain ⟨k, hk⟩ := h
  refine ⟨(a - b) * inv - j * k, ?_⟩
  have e : (a - b) * (inv * d) = (a - b) + j * (a * P - b * P) := by rw [hj]; grind
  have e2 : a * P - b * P = k * d := by omega
  rw [e2] at e
  grind
/-- what a step down tells -/
structure Redc (d P N r : Int) : Prop where
  r0 : 0 ≤ r
  r1 : r < d
  c : Cg d (r * P) N
theorem Mont.redc {d P inv N times made : Int} (H : Mont d P inv) (n0 : 0 ≤ N) (n1 : N < d * P) (ht : times = (-(N * inv)) % P) (hm : made = (N + times * d) / P) :
    (made ≥ d → Redc d P N (made - d)) ∧ (¬ made ≥ d → Redc d P N made) := by
  obtain ⟨d0, dP, j, hj⟩ := H
  have hP : 0 < P := by omega
  have t0 : 0 ≤ times := by rw [ht]; exact Int.emod_nonneg _ (by omega)
  have t1 : times < P := by rw [ht]; exact Int.emod_lt_of_pos _ hP
  have t2 := Int.mul_ediv_add_emod (-(N * inv)) P
  rw [← ht] at t2
  generalize -(N * inv) / P = t at t2
  have key : N + times * d = (-(N * j) - t * d) * P := by
    have e1 : times = -(N * inv) - P * t := by omega
    have e2 : N * (inv * d) = N + N * j * P := by rw [hj]; grind
    rw [e1]
    grind
  have hm' : made = -(N * j) - t * d := by rw [hm, key]; exact Int.mul_ediv_cancel _ (by omega)
  rw [← hm'] at key
  have td : 0 ≤ times * d := Int.mul_nonneg t0 (by omega)
  have td1 : times * d ≤ (P - 1) * d := mul_le_of (by omega) (by omega)
  have td2 : (P - 1) * d = d * P - d := by grind
  have m0 : 0 ≤ made := by
    have : (-1) * P < made * P := by omega
    have := lt_of_mul hP this
    omega
  have m1 : made < 2 * d := by
    refine lt_of_mul hP ?_
    have : 2 * d * P = d * P + d * P := by grind
    omega
  refine ⟨fun h => ⟨by omega, by omega, times - P, ?_⟩, fun h => ⟨m0, by omega, times, by omega⟩⟩
  rw [Int.sub_mul, Int.sub_mul, Int.mul_comm P d]; omega
theorem Redc.bits {d P N r : Int} (H : Redc d P N r) {n : Nat} (h : intBits d ≤ n) : intBits r ≤ n :=
  bits_of_natAbs_le (b := d) (by have := H.r0; have := H.r1; omega) h
/-- the next product -/
theorem Mont.next {d P inv rest other shape kept shape' rest' : Int} (H : Mont d P inv) (h1 : Cg d shape (rest * P)) (h2 : Cg d kept (other * P)) (h3 : Redc d P (shape * kept) shape') (h4 : Redc d P shape' rest') :
    Cg d shape' (rest' * P) ∧ Cg d rest' (rest * other) := by
  refine ⟨h4.c.symm, ?_⟩
  refine H.cancel (H.cancel ?_)
  have e1 := h4.c.mul (Cg.rfl' d P)
  have e2 := h3.c
  have e3 := h1.mul h2
  have e4 : rest * P * (other * P) = rest * other * P * P := by grind
  rw [e4] at e3
  exact e1.trans (e2.trans e3)
/-- the quotient by the low end -/
theorem Mont.quot {d P inv N rest quotient : Int} (H : Mont d P inv) (c : Cg d rest N) (r0 : 0 ≤ rest) (r1 : rest < d) (n0 : 0 ≤ N) (n1 : N < d * P) (hq : quotient = ((N - rest) * inv) % P) :
    N = quotient * d + rest ∧ 0 ≤ quotient ∧ quotient < P := by
  obtain ⟨d0, dP, j, hj⟩ := H
  have hP : 0 < P := by omega
  obtain ⟨k, hk⟩ := c.symm
  have e : (N - rest) * inv = k + k * j * P := by
    have : N - rest = k * d := by omega
    rw [this]
    have : k * d * inv = k * (inv * d) := by grind
    rw [this, hj]; grind
  have k0 : 0 ≤ k := by
    have : (-1) * d < k * d := by omega
    have := lt_of_mul d0 this
    omega
  have k1 : k < P := by
    refine lt_of_mul d0 ?_
    rw [Int.mul_comm P]; omega
  have hk2 : quotient = k := by
    rw [hq, e, Int.add_mul_emod_self_right]; exact Int.emod_eq_of_lt k0 k1
  rw [hk2]
  exact ⟨by omega, k0, k1⟩
/-- a turn of the inverse -/
theorem inv_turn {d f j K : Int} (h : d * f = 1 + j * K) : d * (f * (2 - d * f)) = 1 + -(j * j) * (K * K) := by
  have : d * (f * (2 - d * f)) = (d * f) * (2 - d * f) := by grind
  rw [this, h]; grind
theorem inv_mod {d g j K : Int} (h : d * g = 1 + j * K) : ∃ j', d * (g % K) = 1 + j' * K := by
  have := Int.mul_ediv_add_emod g K
  refine ⟨j - d * (g / K), ?_⟩
  have e : g % K = g - K * (g / K) := by omega
  rw [e, Int.mul_sub, h]; grind
end Mine
namespace Mine
open PySem.Builtin.Int (intBits)
theorem evalD_set (P : Int) : ∀ (ns : List Int) (k : Nat) (z : Int), k < ns.length → evalD P (ns.set k (ns.getD k 0 + z)) = evalD P ns + P ^ k * z
  | d :: r, 0, z, _ => by
    show (d + z) + P * evalD P r = d + P * evalD P r + P ^ 0 * z
    rw [Int.pow_zero, Int.one_mul]; omega
  | d :: r, k + 1, z, h => by
    show d + P * evalD P (r.set k (r.getD k 0 + z)) = d + P * evalD P r + P ^ (k + 1) * z
    rw [evalD_set P r k z (by simp at h; omega), Int.pow_succ]
    grind
theorem evalD_zeros (P : Int) : ∀ n : Nat, evalD P (List.replicate n 0) = 0
  | 0 => rfl
  | n + 1 => by
    rw [List.replicate_succ, evalD, evalD_zeros P n]; simp
theorem evalD_take (P : Int) {xs : List Int} {i : Nat} (h : i < xs.length) : evalD P (xs.take (i + 1)) = evalD P (xs.take i) + P ^ i * xs.getD i 0 := by
  have e : xs.take (i + 1) = xs.take i ++ [xs.getD i 0] := by
    rw [List.take_add_one, List.getElem?_eq_getElem h, List.getD_eq_getElem?_getD, List.getElem?_eq_getElem h]; rfl
  rw [e, evalD_append, evalD_one, List.length_take]
  congr 2
  congr 1
  omega
theorem mem_set {row : List Int} {k : Nat} {z d : Int} (h : d ∈ row.set k z) : d = z ∨ d ∈ row := by
  rcases List.mem_or_eq_of_mem_set h with h | h
  · exact .inr h
  · exact .inl h
theorem getD_all8 {ns : List Int} {p : Int → Prop} (h : ∀ x ∈ ns, p x) {k : Nat} (hk : k < ns.length) : p (ns.getD k 0) := by
  rw [List.getD_eq_getElem?_getD, List.getElem?_eq_getElem hk]; exact h _ (List.getElem_mem hk)
theorem Cg8.add {d a b x y : Int} (h : Cg d a b) (h2 : Cg d x y) : Cg d (a + x) (b + y) := by
  obtain ⟨k, h⟩ := h
  obtain ⟨j, h2⟩ := h2
  exact ⟨k + j, by rw [Int.add_mul]; omega⟩
/-- the wrapped row so far -/
structure Wr8 (P b : Int) (xs ys : List Int) (M : Int) (i j : Nat) (row : List Int) : Prop where
  len : row.length = xs.length
  e : Cg b (evalD P row) (evalD P (xs.take i) * evalD P ys + P ^ i * xs.getD i 0 * evalD P (ys.take j))
  b : ∀ d ∈ row, -(((i * ys.length + j : Nat) : Int) * M) ≤ d ∧ d ≤ ((i * ys.length + j : Nat) : Int) * M
theorem Wr8.start {P b : Int} {xs ys : List Int} {M : Int} : Wr8 P b xs ys M 0 0 (List.replicate xs.length 0) := by
  refine ⟨List.length_replicate, ?_, fun d hd => ?_⟩
  · rw [evalD_zeros, List.take_zero, List.take_zero, evalD, Int.zero_mul, Int.mul_zero, Int.add_zero]
    exact Cg.rfl' _ _
  · rw [List.eq_of_mem_replicate hd]; simp
theorem Wr8.next {P b : Int} {xs ys row : List Int} {M : Int} {i : Nat} (H : Wr8 P b xs ys M i ys.length row) (hi : i < xs.length) : Wr8 P b xs ys M (i + 1) 0 row := by
  refine ⟨H.len, ?_, fun d hd => ?_⟩
  · have h := H.e
    rw [List.take_length] at h
    rw [List.take_zero, evalD, Int.mul_zero, Int.add_zero, evalD_take P hi, Int.add_mul]
    exact h
  · have h := H.b d hd
    have e : i * ys.length + ys.length = (i + 1) * ys.length + 0 := by rw [Nat.add_mul]; omega
    rw [e] at h
    exact h
theorem Wr8.step {P b : Int} {xs ys row : List Int} {M z v : Int} {i j k : Nat} (H : Wr8 P b xs ys M i j row) (hj : j < ys.length) (hk : k < xs.length) (hz : z = xs.getD i 0 * ys.getD j 0) (hv : Cg b (P ^ k * v) (P ^ (i + j) * z)) (v0 : -M ≤ v) (vM : v ≤ M) : Wr8 P b xs ys M i (j + 1) (row.set k (row.getD k 0 + v)) := by
  have hl : k < row.length := by rw [H.len]; exact hk
  have hbk := getD_all8 H.b hl
  have e1 : ((i * ys.length + (j + 1) : Nat) : Int) * M = ((i * ys.length + j : Nat) : Int) * M + M := by
    rw [← Nat.add_assoc, Int.natCast_add, Int.add_mul]; simp
  refine ⟨by rw [List.length_set]; exact H.len, ?_, fun d hd => ?_⟩
  · rw [evalD_set P row k v hl]
    have h2 := Cg8.add H.e hv
    have e2 : evalD P (xs.take i) * evalD P ys + P ^ i * xs.getD i 0 * evalD P (ys.take j) + P ^ (i + j) * z = evalD P (xs.take i) * evalD P ys + P ^ i * xs.getD i 0 * evalD P (ys.take (j + 1)) := by
      rw [evalD_take P hj, hz, Int.pow_add]
      grind
    rw [e2] at h2
    exact h2
  · rw [e1]
    rcases mem_set hd with e | hd
    · rw [e]; omega
    · have := H.b d hd; omega
theorem Wr8.low {P b : Int} {xs ys row : List Int} {M v : Int} {i j k : Nat} (H : Wr8 P b xs ys M i j row) (hj : j < ys.length) (hk : k = i + j) (hk2 : k < xs.length) (hz : v = xs.getD i 0 * ys.getD j 0) (v0 : -M ≤ v) (vM : v ≤ M) : Wr8 P b xs ys M i (j + 1) (row.set k (row.getD k 0 + v)) :=
  H.step hj hk2 hz (by rw [hk]; exact Cg.rfl' _ _) v0 vM
theorem Wr8.high {P b sg : Int} {xs ys row : List Int} {M v z : Int} {i j k : Nat} (H : Wr8 P b xs ys M i j row) (hj : j < ys.length) (hk : k + xs.length = i + j) (hk2 : k < xs.length) (hz : z = xs.getD i 0 * ys.getD j 0) (hv : v = sg * z) (hP : Cg b (P ^ xs.length) sg) (v0 : -M ≤ v) (vM : v ≤ M) : Wr8 P b xs ys M i (j + 1) (row.set k (row.getD k 0 + v)) := by
  refine H.step hj hk2 hz ?_ v0 vM
  rw [← hk, hv, Int.pow_add]
  have h := (Cg.rfl' b (P ^ k)).mul (hP.symm.mul (Cg.rfl' b z))
  have e : P ^ k * P ^ xs.length * z = P ^ k * (P ^ xs.length * z) := by rw [Int.mul_assoc]
  rw [e]; exact h
theorem Wr8.done {P b : Int} {xs ys row : List Int} {M : Int} (H : Wr8 P b xs ys M xs.length 0 row) : Cg b (evalD P row) (evalD P xs * evalD P ys) ∧ row.length = xs.length ∧ ∀ d ∈ row, -(((xs.length * ys.length : Nat) : Int) * M) ≤ d ∧ d ≤ ((xs.length * ys.length : Nat) : Int) * M := by
  refine ⟨?_, H.len, fun d hd => ?_⟩
  · have h := H.e
    rw [List.take_length, List.take_zero, evalD, Int.mul_zero, Int.add_zero] at h
    exact h
  · have := H.b d hd
    rw [Nat.add_zero] at this; exact this
theorem bits8 {k : Nat} {d : Int} (h0 : -((k : Int) * 2 ^ 4802) ≤ d) (h1 : d ≤ (k : Int) * 2 ^ 4802) (hk : k ≤ 64) : intBits d ≤ 4810 := by
  have hp := ppos 4802
  have h2 : (k : Int) * 2 ^ 4802 ≤ 64 * 2 ^ 4802 := mul_le_of (by omega) (by omega)
  have e : (2 : Int) ^ 4810 = 256 * 2 ^ 4802 := by
    rw [show (4810 : Nat) = 8 + 4802 from rfl, Int.pow_add]; rfl
  refine intBits_le_iff.mpr ?_
  have e3 := kbt_cast 4810
  omega
theorem mul8 {x y sg : Int} (x0 : 0 ≤ x) (y0 : 0 ≤ y) (hx : intBits x ≤ 2401) (hy : intBits y ≤ 2401) (hs : sg = 1 ∨ sg = -1) : -(2 ^ 4802) ≤ x * y ∧ x * y ≤ 2 ^ 4802 ∧ -(2 ^ 4802) ≤ sg * (x * y) ∧ sg * (x * y) ≤ 2 ^ 4802 := by
  have h := lt_of_bits (k := 4802) (bits_mul hx hy)
  have h0 := Int.mul_nonneg x0 y0
  have hp := ppos 4802
  rcases hs with e | e <;> subst e <;> refine ⟨?_, ?_, ?_, ?_⟩ <;> omega
/-- the places of a slice by twos -/
theorem filterMap_len {ns : List Int} : ∀ {js : List Nat}, (∀ j ∈ js, j < ns.length) → (js.filterMap (ns[·]?)).length = js.length
  | [], _ => rfl
  | j :: r, h => by
    rw [List.filterMap_cons, List.getElem?_eq_getElem (h j (.head _))]
    simp only [List.length_cons, filterMap_len fun x hx => h x (.tail _ hx)]
theorem pick2 {ns : List Int} {x y : Int} (x0 : 0 ≤ x) (xy : x ≤ y) (hy : y ≤ ns.length) : (pickNums ns (some x) (some y) (some 2)).length = ((y - x + 1) / 2).toNat ∧ ∀ d ∈ pickNums ns (some x) (some y) (some 2), d ∈ ns := by
  have hb : sliceBounds (some x) (some y) (some 2) ns.length = (x, y, 2) := by
    simp only [sliceBounds, Option.getD_some, show (2 : Int) > 0 by decide, if_true, if_neg (show ¬ x < 0 by omega), if_neg (show ¬ y < 0 by omega)]
    congr 1
    · omega
    · congr 1; omega
  refine ⟨?_, fun d hd => ?_⟩
  · unfold pickNums
    rw [hb]
    have hc : (sliceRange x y 2).length = ((y - x + 1) / 2).toNat := by
      unfold sliceRange
      simp only [List.length_map, List.length_range, show (2 : Int) > 0 by decide, if_true]
      by_cases h : x < y
      · simp only [h, if_true]
        omega
      · simp only [h, if_false]
        omega
    rw [filterMap_len, hc]
    intro j hj
    unfold sliceRange at hj
    simp only [show (2 : Int) > 0 by decide, if_true] at hj
    obtain ⟨i, hi, rfl⟩ := List.mem_map.mp hj
    have hi2 := List.mem_range.mp hi
    by_cases h : x < y
    · simp only [h, if_true] at hi2
      omega
    · simp only [h, if_false] at hi2
      omega
  · unfold pickNums at hd
    obtain ⟨j, _, hj⟩ := List.mem_filterMap.mp hd
    exact List.mem_of_getElem? hj
end Mine
namespace Mine
open PyProof.Rows.LCg
section
variable {prog : Program} {w : World} {A : Around} {E : Value → Shared → Prop} {s : Shared} {h₀ : Heap} {L : Addr} {m : Str → Option Value} {env : Env}
/-- a comprehension of ints over a list of ints -/
theorem srcI_map {elt : Expr} {x : Str} {scope : Scope} {cl : List (Str × Addr)} {Fin : Shared → List Value → List (Addr × Obj) → Prop} {ax : Addr} {vs : List Value} {ns : List Int} {k : Nat} {news : List (Addr × Obj)} {s₁ : Shared} (f : Int → Int)
    (hh : A.handled = none) (F : Fr h₀ L s₁.heap m) (N : News h₀ L s₁.heap news) (hm : (ax, listOf vs.toArray k) ∈ news) (hi : IntsAre vs ns) (hz : ns.length ≤ 1000000)
    (turn : ∀ n t I oI C oC D m₂ h tk ys (E' Q' : Value → Shared → Prop), n ∈ ns → NsObj oC m₂ → m₂ x = some (.int n t) → Fr h₀ L h m → News h₀ L h ((I, oI) :: (C, oC) :: (D, lst ys) :: news) → Off3 I C D news → ((@Ne Nat I C) ∧ (@Ne Nat I D) ∧ (@Ne Nat C D)) →
      (∀ t' h' tk', Fr h₀ L h' m → News h₀ L h' ((I, oI) :: (C, oC) :: (D, lst ys) :: news) → Q' (.int (f n) t') { s₁ with heap := h', toks := tk' }) →
      wpAny (model prog w) A (eval elt (compEnvC scope cl C env)) Q' E' { s₁ with heap := h, toks := tk })
    (fin : ∀ g ys, IntsAre ys (ns.map f) → Fin { s₁ with heap := g } ys news) : CompSrc prog w A h₀ L m env elt x scope cl Fin (.ref ax) s₁ := by
  have hS : SrcAt h₀ ax vs.toArray news := .inr ⟨_, hm, rfl, _, rfl⟩
  have hzs : vs.toArray.size = ns.length := by rw [List.size_toArray, hi.length]
  refine CompSrc.ledger hh F N hm (by rw [hzs]; exact Nat.le_trans hz (by decide)) fun g => ?_
  have key : ∀ j i ys, i + j = ns.length → IntsAre ys ((ns.take i).map f) → CompRest prog w A h₀ L m env elt x scope cl { s₁ with heap := g } (SrcAt h₀ ax vs.toArray) (fun i v => vs.toArray[i]? = some v) (Fin { s₁ with heap := g }) j i ys news := by
    intro j
    induction j with
    | zero =>
      intro i ys e hy
      rw [List.take_of_length_le (by omega)] at hy
      exact CompRest.zero (fin g ys hy)
    | succ j ih =>
      intro i ys e hy
      refine CompRest.succ fun v I oI C oC D m₂ h tk E' hv hC hx F' N' off ne => ?_
      have hil : i < ns.length := by omega
      obtain ⟨t, e2⟩ := hi.get i (ns[i]'hil) (List.getElem?_eq_getElem hil)
      have hv2 : vs[i]? = some v := by simpa using hv
      have ev : v = .int (ns[i]'hil) t := by rw [e2] at hv2; exact (Option.some.inj hv2).symm
      subst ev
      refine turn _ t I oI C oC D m₂ h tk ys E' _ (List.getElem_mem hil) hC hx F' N' off ne fun t' h' tk' F'' N'' => ?_
      refine ⟨h', tk', news, rfl, F'', N'', off, hS, ih (i + 1) _ (by omega) ?_⟩
      have hs : ns.take (i + 1) = ns.take i ++ [ns[i]'hil] := by rw [List.take_add_one, List.getElem?_eq_getElem hil]; rfl
      rw [hs, List.map_append]
      exact hy.append (.cons _ _ .nil)
  rw [hzs]
  exact key _ _ _ (by omega) .nil
theorem off1_mem {D : Addr} : ∀ {l : List (Addr × Obj)}, Off1 D l → ∀ p ∈ l, @Ne Nat p.1 D
  | [], _, _, h => nomatch h
  | _ :: _, x, p, h => by
    rcases List.mem_cons.mp h with rfl | h
    · exact x.1
    · exact off1_mem x.2 p h
end
end Mine
namespace Mine
open PySem.Builtin.Int (intBits)
theorem itemE {prog : Program} {w : World} {A : Around} {E : Value → Shared → Prop} {s : Shared} {h₀ : Heap} {L : Addr} {news : List (Addr × Obj)} {value slice : Expr} {l : Addr} {vs : List Value} {ns : List Int} {c : Nat} {k x : Int} {u : Tok} {Q : Value → Shared → Prop}
    (N : News h₀ L s.heap news) (hm : (l, listOf vs.toArray c) ∈ news) (hi : IntsAre vs ns) (h0 : 0 ≤ k) (h1 : k < (ns.length : Int)) (h2 : (ns.length : Int) ≤ 1000000) (hx : ns.getD k.toNat 0 = x) (h : ∀ t, Q (.int x t) s)
    (hs : subscripted slice false (.ref l) (.int k u) = operate [.ref l, .int k u] (getItem (.ref l) (.int k u)) := by with_unfolding_all rfl) (hg : ∀ r, letTemporaryGo value (.ref l) r = pure () := by intro _; with_unfolding_all rfl) :
    wpAny (model prog w) A (subscriptTail value slice (.ref l) (.int k u)) Q E s := itemD N hm hi h0 h1 h2 (fun t => by rw [hx]; exact h t) hs hg
theorem led_in {A own X : List (Addr × Obj)} (h : ∀ q ∈ A ++ own, q ∈ X) : ∀ p ∈ A, p ∈ X := fun p hp => h p (List.mem_append_left _ hp)
theorem own_in {A own X : List (Addr × Obj)} (h : ∀ q ∈ A ++ own, q ∈ X) : ∀ p ∈ own, p ∈ X := fun p hp => h p (List.mem_append_right _ hp)
theorem rszN (k : Nat) : Builtin.Range.rangeSize 0 (k : Int) 1 = ((k : Nat) : Int) := by
  rw [rangeSize_pos (by decide) (by omega)]
  omega
theorem wr_c0 {P b : Int} {xs ys : List Int} {M : Int} : Wr8 P b xs ys M 0 0 (xs.map fun _ => 0) := by
  have e : xs.map (fun _ => (0 : Int)) = List.replicate xs.length 0 := by
    induction xs with
    | nil => rfl
    | cons x r ih => rw [List.map_cons, ih, List.length_cons, List.replicate_succ]
  rw [e]; exact Wr8.start
theorem wr_in {P b : Int} {xs ys row : List Int} {M : Int} {i : Nat} (H : Wr8 P b xs ys M i 0 row) : Wr8 P b xs ys M i ([] : List Int).length row := H
theorem wr_out {P b : Int} {xs ys row : List Int} {M k : Int} {pre : List Int} (H : Wr8 P b xs ys M pre.length (rangeKs 0 ys.length).length row) (hi : pre.length < xs.length) : Wr8 P b xs ys M (pre ++ [k]).length 0 row := by
  rw [rangeKs_length] at H
  have e : (pre ++ [k]).length = pre.length + 1 := by simp
  rw [e]; exact H.next hi
theorem wr_low {P b : Int} {xs ys row : List Int} {M x y : Int} {i : Nat} {kI kJ k9 : Int} {pre : List Int} (H : Wr8 P b xs ys M i pre.length row) (hj : pre.length < ys.length) (eI : kI = (i : Int)) (eJ : kJ = (pre.length : Int)) (hk : kI + kJ < (xs.length : Int)) (ha : xs.getD kI.toNat 0 = x) (hb : ys.getD kJ.toNat 0 = y) (z0 : -M ≤ x * y) (zM : x * y ≤ M) :
    Wr8 P b xs ys M i (pre ++ [k9]).length (row.set (kI + kJ).toNat (row.getD (kI + kJ).toNat 0 + x * y)) := by
  have e : (pre ++ [k9]).length = pre.length + 1 := by simp
  have e2 : kI.toNat = i := by omega
  have e3 : kJ.toNat = pre.length := by omega
  rw [e]
  rw [e2] at ha
  rw [e3] at hb
  exact H.low hj (by omega) (by omega) (by rw [ha, hb]) z0 zM
theorem wr_high {P b sg : Int} {xs ys row : List Int} {M x y : Int} {i : Nat} {kI kJ k9 : Int} {pre : List Int} (H : Wr8 P b xs ys M i pre.length row) (hi : i < xs.length) (hj : pre.length < ys.length) (hxy : ys.length = xs.length) (eI : kI = (i : Int)) (eJ : kJ = (pre.length : Int)) (hk : ¬ kI + kJ < (xs.length : Int)) (ha : xs.getD kI.toNat 0 = x) (hb : ys.getD kJ.toNat 0 = y) (hP : Cg b (P ^ xs.length) sg) (z0 : -M ≤ sg * (x * y)) (zM : sg * (x * y) ≤ M) :
    Wr8 P b xs ys M i (pre ++ [k9]).length (row.set (kI + kJ - (xs.length : Int)).toNat (row.getD (kI + kJ - (xs.length : Int)).toNat 0 + sg * x * y)) := by
  have e : (pre ++ [k9]).length = pre.length + 1 := by simp
  have e2 : kI.toNat = i := by omega
  have e3 : kJ.toNat = pre.length := by omega
  rw [e, Int.mul_assoc]
  rw [e2] at ha
  rw [e3] at hb
  exact H.high hj (by omega) (by omega) rfl (by rw [ha, hb]) hP z0 zM
local macro_rules | `(tactic| walk_at "exec Assign cons ListComp") => `(tactic| (k_here; k_dflt (refine PyProof.Rows.LCg.Assign_ListComp_U (F₀ := by k_asm) (by rfl) (by with_unfolding_all rfl) (by with_unfolding_all rfl) (by decide) (by rfl) (by decide) (by rfl) (by rfl) (by rfl) ?_)))
local macro_rules | `(tactic| walk_at "CompSrc") => `(tactic| k_extra "src0")
local macro_rules | `(tactic| walk_at "pyIter ref") => `(tactic| k_extra "myiter")
local macro_rules | `(tactic| kc_close) => `(tactic| k_extra "good")
local macro_rules | `(tactic| walk_at "exec For Name Call cons nil") => `(tactic| (k_here; (rename Fr _ _ _ _ => lF'); (with_unfolding_all refine' For_invVF lF' ?k1 ?k2 ?_; (case k1 => exact rfl); (case k2 => exact rfl); k_whole)))
local macro_rules | `(tactic| walk_at "subscriptTail Name BinOp ref int") => `(tactic| k_extra "itemR")
local macro_rules | `(tactic| walk_at "subscriptTail Name Name ref int") => `(tactic| k_extra "itemX")
local macro_rules | `(tactic| walk_at "setItem ref int int") => `(tactic| k_extra "set")
local macro_rules | `(tactic| walk_at "binaryOp Mult int int") => `(tactic| ((with_reducible refine' mul_p ?kb1 ?kb2 ?kb3 ?_); (case kb1 => bits_by_make); (case kb2 => bits_by_make); (case kb3 => decide)))
local macro_rules | `(tactic| bits_by_make) => `(tactic| with_reducible assumption)
local macro_rules | `(tactic| walk_at "call builtin:len") => `(tactic| k_extra "len")
set_option maxRecDepth 100000 in
set_option maxHeartbeats 8000000 in
theorem wrapped_c (w : World) (mean : ExcName → Option Value) (mg mb : Str → Option Value) {xv yv : List Value} {xs ys : List Int} {c1 c2 : Nat} {lx ly : Addr} {sg P b : Int} {t9 : Tok} (hX : IntsAre xv xs) (hY : IntsAre yv ys) (hxy : ys.length = xs.length) (lx1 : 1 ≤ xs.length) (lx2 : xs.length ≤ 8) (hbx : ∀ x ∈ xs, 0 ≤ x ∧ intBits x ≤ 2401) (hby : ∀ x ∈ ys, 0 ≤ x ∧ intBits x ≤ 2401) (hsg : sg = 1 ∨ sg = -1) (hP : Cg b (P ^ xs.length) sg)
    {dp un : Nat} {gd : Option (List Code)} {cn : Str} {cs : Scope} {a : Addr} {ccd : Value} {cl : List (Str × Addr)} {outer : List Env} {A₀ : Around} {base h₀ : Heap} {L : Addr} {m : Str → Option Value} {news : List (Addr × Obj)} {s : Shared}
    {Q E : Value → Shared → Prop} (B : Below A₀ base outer h₀) (F : Fr h₀ L s.heap m) (X : (hd.heap_39 w.params).In h₀) (N : News h₀ L s.heap news) (hmx : (lx, listOf xv.toArray c1) ∈ news) (hmy : (ly, listOf yv.toArray c2) ∈ news) (T : Top prog0 (looseW hd.view_39 [] ++ List.map (fun x => x.name) (recsOf hd.view_39) ++ List.map (fun x => x.fst) (litsOf hd.view_39) ++ List.map (fun x => x.name) (clssOf hd.view_39 (looseW hd.view_39 []))) mean mg mb h₀) (hk : cs.kind = .function) (hdp : dp + 2 + 104 < recursionLimit) (hu : un + 8 * 2 + 100 < cLine)
    (hret : ∀ D ws ms c h' tk', Cg b (evalD P ms) (evalD P xs * evalD P ys) → ms.length = xs.length → (∀ d ∈ ms, intBits d ≤ 4810) → IntsAre ws ms → Fr h₀ L h' m → News h₀ L h' ((D, listOf (List.toArray ws) c) :: news) → (∀ p ∈ news, @Ne Nat p.1 D) → Q (.ref D) { s with heap := h', toks := tk' }) :
    wpAny (model PySem.Challenge.rw_dn0134_08.row.prog w) (ktrTop dp un gd cn cs L a ccd cl outer) (call (.ref 40) [.ref lx, .ref ly, .int sg t9]) Q E s := by
  (have hh : PySem.Challenge.rw_dn0134_08 = PySem.Challenge.rw_dn0134_08 ∧ hd.heap_39 = hd.heap_39 := by (k_fill; exact ⟨rfl, rfl⟩))
  clear hh
  w_top off
  k_with_none
  k_with "len" => (first
    | k_dflt (refine' kst_len (k := xs.length) ?zN ?zm ?ze ?zf ?_; (case zN => k_asm); (case zm => (repeat' (first | exact hmx | exact List.mem_append_left _ hmx | exact List.mem_append_left _ (List.mem_append_left _ hmx) | (refine List.Mem.tail _ ?_)))); (case ze => exact hX.length); (case zf => omega))
    | k_dflt (refine' kst_len (k := ys.length) ?zN ?zm ?ze ?zf ?_; (case zN => k_asm); (case zm => (repeat' (first | exact hmy | exact List.mem_append_left _ hmy | exact List.mem_append_left _ (List.mem_append_left _ hmy) | (refine List.Mem.tail _ ?_)))); (case ze => exact hY.length); (case zf => omega)))
  have hsgb : intBits sg ≤ 2 := (by rcases hsg with e | e <;> subst e <;> decide)
  have hys : (ys.length : Int) = (xs.length : Int) := (by omega)
  k_with "src0" => (
    k_dflt (refine' srcI_map (fun _ => 0) ?ch ?cF ?cN ?cm hX ?cz ?ct ?_)
    (case ch => (with_unfolding_all exact rfl))
    (case cF => k_asm)
    (case cN => k_asm)
    (case cm => (repeat' (first | exact hmx | (refine List.Mem.tail _ ?_))))
    (case cz => omega)
    (case ct => (
      intro x9 t9 I9 oI9 C9 oC9 D9 m9 h9 tk9 ys9 E9 Q9 hx8 hC9 hx9 F9 N9 off9 ne9 hQ9
      k_dflt (k_steps)
      all_goals (exact hQ9 _ _ _ (by k_asm) (by k_asm))))
    (intro g' vsA hI0)
    (unfold PyProof.Rows.LCg.FinA)
    (intro lst h' tk' F' N' o1')
    (have lA := off1_mem o1')
    (try dsimp only))
  k_with "myiter" => (first
    | ((fail_if_success (have := hOut))
       (rename Fr _ _ _ _ => lF')
       (rename News _ _ _ _ => lN')
       (rename IsRange _ _ _ _ _ _ _ _ => rgX)
       (with_unfolding_all refine' kst_range (n := xs.length) (σ := List Value × List Int × Nat) (fun c => (lst, listOf (List.toArray c.1) c.2.2) :: news) (fun _ => []) (fun c => IntsAre c.1 c.2.1) [Str.ofString "j"] (fun pre c => Wr8 P b xs ys (2 ^ 4802) pre.length 0 c.2.1) (vsA, _, _) (by rfl) rgX ?ksm ?ksn lF' lN' hI0 ?kk wr_c0 ?_ ?_)
       (case ksm => (exact small_one (by omega) (by omega) (by omega) (by omega)))
       (case ksn => (exact rszN _))
       (case kk => kst_all)
       (all_goals (try clear lF' lN'))
       rotate_left
       (
         rintro ⟨rv, row, nr⟩ kU kH kTk kFacts kInv kFr kNews
         have hOut : True := True.intro
         have kMark := kstMark
         dsimp only [kstB] at kFr
         dsimp only at kNews kInv kFacts)
       rotate_left
       (
         rintro ⟨rv, row, nr⟩ kPre iN kT kU kH kTk kOwn kEq kLtI kOff kFacts kInv kFr kNews
         have hOut : True := True.intro
         have kMark := kstMark
         dsimp only [kstB] at kFr
         dsimp only at kNews kInv kFacts
         simp only [List.nil_append, List.cons_append, List.append_assoc] at kNews
         have aiN : Abs iN := .mk)
       (all_goals (try dsimp only))
       (all_goals (try k_fold)))
    | ((rename Fr _ _ _ _ => lF')
       (rename News _ _ _ _ => lN')
       (rename IsRange _ _ _ _ _ _ _ _ => rgX)
       (with_unfolding_all refine' kst_range (n := ys.length) (σ := List Value × List Int × Nat) (fun c => (lst, listOf (List.toArray c.1) c.2.2) :: (news ++ kOwn)) (fun _ => []) (fun c => IntsAre c.1 c.2.1) [] (fun pre c => Wr8 P b xs ys (2 ^ 4802) kPre.length pre.length c.2.1) (rv, row, nr) (by rfl) rgX ?ksm ?ksn lF' lN' kFacts ?kk (wr_in kInv) ?_ ?_)
       (case ksm => (exact small_one (by omega) (by omega) (by omega) (by omega)))
       (case ksn => (exact rszN _))
       (case kk => kst_all)
       (all_goals (try clear lF' lN'))
       rotate_left
       (
         rintro ⟨rv2, row2, nr2⟩ kU2 kH2 kTk2 kFacts2 kInv2 kFr2 kNews2
         have kMark := kstMark
         dsimp only [kstB] at kFr2
         dsimp only at kNews2 kInv2 kFacts2)
       rotate_left
       (
         rintro ⟨rv2, row2, nr2⟩ kPre2 jN kT2 kU2 kH2 kTk2 kOwn2 kEq2 kLtJ kOff2 kFacts2 kInv2 kFr2 kNews2
         have hIn : True := True.intro
         have kMark := kstMark
         dsimp only [kstB] at kFr2
         dsimp only at kNews2 kInv2 kFacts2
         simp only [List.nil_append, List.cons_append] at kNews2
         have ajN : Abs jN := .mk
         have hrl := kInv2.len
         obtain ⟨xa, hxa⟩ : ∃ z, xs.getD iN.toNat 0 = z := ⟨_, rfl⟩
         obtain ⟨yb, hyb⟩ : ∃ z, ys.getD jN.toNat 0 = z := ⟨_, rfl⟩
         have hxb := getD_all8 hbx (k := iN.toNat) (by omega)
         have hyb2 := getD_all8 hby (k := jN.toNat) (by omega)
         rw [hxa] at hxb
         rw [hyb] at hyb2
         have bxa := hxb.2
         have byb := hyb2.2
         have axa : Abs xa := .mk
         have ayb : Abs yb := .mk)
       (all_goals (try dsimp only))
       (all_goals (try k_fold))))
  k_with "itemR" => (
    (k_dflt (refine' itemD ?zN ?zm kFacts2 ?za ?zb ?zc ?_; (case zN => k_asm); (case zm => k_mem); (case za => omega); (case zb => omega); (case zc => omega)))
    intro ti)
  k_with "itemX" => (first
    | ((with_reducible show wpAny _ _ (subscriptTail (Expr.Name (Str.ofString "xs") _) _ _ _) _ _ _)
       (k_dflt (refine' itemE (x := xa) ?zN ?zm hX ?za ?zb ?zc hxa ?_; (case zN => k_asm); (case zm => (repeat' (first | exact hmx | exact List.mem_append_left _ hmx | exact List.mem_append_left _ (List.mem_append_left _ hmx) | (refine List.Mem.tail _ ?_)))); (case za => omega); (case zb => omega); (case zc => omega)))
       intro ti)
    | ((with_reducible show wpAny _ _ (subscriptTail (Expr.Name (Str.ofString "ys") _) _ _ _) _ _ _)
       (k_dflt (refine' itemE (x := yb) ?zN ?zm hY ?za ?zb ?zc hyb ?_; (case zN => k_asm); (case zm => (repeat' (first | exact hmy | exact List.mem_append_left _ hmy | exact List.mem_append_left _ (List.mem_append_left _ hmy) | (refine List.Mem.tail _ ?_)))); (case za => omega); (case zb => omega); (case zc => omega)))
       intro ti))
  k_with "set" => (
    k_dflt (refine' ksa_set ?k1 ?k2 ?k3 kFacts2 ?k5 ?k6 ?k7 ?_; (case k1 => k_asm); (case k2 => k_asm); (case k3 => with_unfolding_all (exact Upd.head (List.forall_mem_append.mpr ⟨List.forall_mem_append.mpr ⟨lA, fun p hp => kOff p hp _ (List.Mem.head _)⟩, fun p hp => kOff2 p hp _ (List.Mem.head _)⟩))); (case k5 => omega); (case k6 => omega); (case k7 => omega))
    intro h' F' N' hi9 hl9 hs9)
  k_with "good" => (first
    | ((have := hIn)
       (with_reducible show InvEndN _ _ _ _ _ _ _)
       (rename News _ _ _ _ => nE')
       (rename Fr _ _ _ _ => fE')
       have hzz := mul8 (sg := sg) hxb.1 hyb2.1 bxa byb hsg
       obtain ⟨hz1, hz2, hz3, hz4⟩ := hzz
       have hei : iN = (kPre.length : Int) := by omega
       have hej : jN = (kPre2.length : Int) := by omega
       have hpt := (by first | exact wr_low (k9 := jN) kInv2 kLtJ hei hej (by assumption) hxa hyb hz1 hz2 | exact wr_high (k9 := jN) kInv2 kLtI kLtJ hxy hei hej (by assumption) hxa hyb hP hz3 hz4 : Wr8 P b xs ys (2 ^ 4802) kPre.length (kPre2 ++ [jN]).length _)
       (apply kst_end ⟨_, _, _⟩)
       (case F => k_dflt (exact fE'))
       (case N => k_dflt (exact nE'))
       (case hn => with_unfolding_all (refine led_in (own := kOwn2) ?_; (repeat' (first | exact subr | (refine sub1 ?_)))))
       (case ho => (repeat' (first | exact (fun q hq => List.mem_append_right _ hq) | (refine sub1 ?_))))
       (case ha => rfl)
       (case hf => exact hi9)
       (case hk => kst_all)
       (case hr => kst_same)
       (case hp => (exact hpt)))
    | ((with_reducible show InvEndN _ _ _ _ _ _ _)
       (rename News _ _ _ _ => nE')
       (rename Fr _ _ _ _ => fE')
       (apply kst_end ⟨_, _, _⟩)
       (case F => k_dflt (exact fE'))
       (case N => k_dflt (exact nE'))
       (case hn => with_unfolding_all (refine led_in (own := kOwn) ?_; (repeat' (first | exact subr | (refine sub1 ?_)))))
       (case ho => (repeat' (first | exact (fun q hq => List.mem_append_right _ hq) | (refine sub1 ?_))))
       (case ha => rfl)
       (case hf => exact kFacts2)
       (case hk => kst_all)
       (case hr => kst_same)
       (case hp => (exact wr_out kInv2 kLtI))))
  refine wpAny_call ?_
  k_dflt ktr_enter
  k_steps
  (rename News h₀ L _ _ => N9)
  (rename Fr h₀ L _ m => F9)
  rw [rangeKs_length] at kInv
  obtain ⟨e1, e2, e3⟩ := kInv.done
  exact hret _ _ _ _ _ _ e1 e2 (fun d hd => bits8 (e3 d hd).1 (e3 d hd).2 (Nat.le_trans (Nat.mul_le_mul lx2 (hxy ▸ lx2)) (by decide))) kFacts F9 N9 lA
end Mine
namespace Mine
/-- no record with a text in its second place -/
def IterO (o : Obj) : Prop := ∀ vs (ql : Str) (t : Tok), o.data = .fields vs → vs[1]? ≠ some (.str ql t)
theorem TabS.offI {P : Addr} {line col : Nat} {ql : Str} {X Y : Obj} {C : Addr} {h₀ h : Heap} {L : Addr} {news : List (Addr × Obj)} {p : Addr × Obj} (H : TabS P line col ql X C Y) (N : News h₀ L h news) (hC : (C, Y) ∈ news) (hp : p ∈ news) (hI : IterO p.2) (hP : p.1 ≠ P) : p.1 ≠ C := by
  rcases H with ⟨_, h1, _⟩ | ⟨_, _, vs, t, e1, e2⟩
  · rw [h1]; exact hP
  · intro e
    have g1 := (N _ hC).1
    have g2 := (N _ hp).1
    rw [← e, g2] at g1
    have g3 : p.2 = Y := Option.some.inj g1
    exact hI vs ql t (by rw [g3]; exact e1) e2
/-- the state of a loop whose ledger's addresses may turn -/
def KxS {σ : Type} (Led : σ → List (Addr × Obj)) (ps : σ → List (Str × Value)) (Facts : σ → Prop) (x : Str) (stored : List Str) (m₀ : Str → Option Value) (P : Nat → σ → Prop) (i : Nat) (m : Str → Option Value) (nx : List (Addr × Obj)) : Prop :=
  ∃ c : σ, nx = Led c ∧ Facts c ∧ (∀ p ∈ ps c, m p.1 = some p.2) ∧ (∀ z, z ≠ x → (∀ p ∈ ps c, z ≠ p.1) → stored.contains z = false → m z = m₀ z) ∧ P i c
section
variable {prog : Program} {w : World} {A : Around} {E : Value → Shared → Prop} {s : Shared} {env : Env} {h₀ : Heap} {x : Str} {body : List Stmt} {Q : Flow → Shared → Prop}
theorem kx_range {σ : Type} {r : Addr} {a₀ b₀ st : Int} {t₀ u₀ v₀ : Tok} {n : Nat} {m₀ : Str → Option Value} (Led : σ → List (Addr × Obj)) (ps : σ → List (Str × Value)) (Facts : σ → Prop) (stored : List Str) (P : Nat → σ → Prop) (c₀ : σ)
    (hh : A.handled = none) (hr : IsRange s.heap r a₀ b₀ st t₀ u₀ v₀) (hsmall : Builtin.Range.small a₀ b₀ st = true) (hn : Builtin.Range.rangeSize a₀ b₀ st = (n : Int)) (F : Fr h₀ env.locals s.heap m₀) (N : News h₀ env.locals s.heap (Led c₀)) (hf : Facts c₀) (hk : ∀ p ∈ ps c₀, m₀ p.1 = some p.2) (hp : P 0 c₀)
    (turn : ∀ (c : σ) (i : Nat) (k : Int) t (u : Str → Option Value) h tk own, i < n → k = a₀ + i * st → (∀ p ∈ own, IterO p.2) → OwnOff own ((Led c).map (·.1)) → Facts c → P i c →
      Fr h₀ env.locals h (fun y => if y = x then some (.int k t) else kstB (fun z => if stored.contains z then u z else m₀ z) (ps c) y) → News h₀ env.locals h (Led c ++ own) →
      wpAny (model prog w) A (execs body env) (InvPostG h₀ env.locals (KxS Led ps Facts x stored m₀ P (i + 1)) own { s with heap := h, toks := tk } Q) E { s with heap := h, toks := tk })
    (done : ∀ (c : σ) (u : Str → Option Value) h tk, Facts c → P n c → Fr h₀ env.locals h (fun y => if y = x then u y else kstB (fun z => if stored.contains z then u z else m₀ z) (ps c) y) → News h₀ env.locals h (Led c) → Q .next { s with heap := h, toks := tk }) :
    wpAny (model prog w) A (pyIter (.ref r)) (fun it s₂ => LoopAtV prog w A h₀ env x body Q E it s₂) E s := by
  refine wpAny_pyIter_range hr hsmall ?_
  have W : Walks prog w A s.heap.objs.size [s.heap.objs.size] [s.heap.objs.size] n (fun i v => i < n ∧ ∃ t, v = .int (a₀ + i * st) t)
      (fun i h => IsRangeIter h s.heap.objs.size (a₀ + (i : Nat) * st) ((n : Int) - (i : Nat)) st) := (Walks.range hh _ a₀ st n).bound
  refine ⟨s.heap.objs.size, _, _, n, _, _, m₀, Led c₀, (fun i m nx => KxS Led ps Facts x stored m₀ P i m nx), rfl, W, ?_, ?_, ?_, ?_, F.push _, fun q hq => ⟨Heap.get?_push_of_some _ (N q hq).1, (N q hq).2⟩, ⟨c₀, rfl, hf, hk, fun _ _ _ _ => rfl, hp⟩, ?_, ?_⟩
  · intro hm
    exact absurd F.ns.lt ((List.mem_singleton.mp hm) ▸ Nat.lt_irrefl _)
  · intro b hb
    rw [List.mem_singleton.mp hb]
    exact next_is_new F
  · intro q hq hI
    exact absurd (Heap.lt_size (N q hq).1) ((List.mem_singleton.mp hI) ▸ Nat.lt_irrefl _)
  · show IsRangeIter _ _ _ _ _
    rw [hn]
    simpa using Heap.get?_push_size _ rfl
  · rintro i v m₁ news₁ s₁ own ⟨hh', tk', rfl⟩ hin ⟨_, t, rfl⟩ ⟨c, rfl, hf', h1, h2, hp'⟩ hoff hown _ hmem hst' F₁ N₁
    have hst9 : hh'.get? s.heap.objs.size = some _ := hst'
    have hio : ∀ q ∈ own, IterO q.2 := by
      intro q hq vs ql t9 e1 e2
      have e3 := (N₁ q (List.mem_append_left _ hq)).1
      rw [List.mem_singleton.mp (hown q hq), hst9] at e3
      rw [← Option.some.inj e3] at e1
      cases e1
      cases e2
    have hsep : OwnOff own ((Led c).map (·.1)) := by
      intro q hq b hb e
      obtain ⟨q2, hq2, rfl⟩ := List.mem_map.mp hb
      exact hoff q2 hq2 (e ▸ hown q hq)
    have N₂ : News h₀ env.locals hh' (Led c ++ own) := fun q hq => N₁ q ((List.mem_append.mp hq).elim (fun h => List.mem_append.mpr (.inr h)) fun h => List.mem_append.mpr (.inl h))
    refine wpAny_mono (turn c i _ t m₁ hh' tk' own hin rfl hio hsep hf' hp' (kst_fr h1 h2 F₁) N₂) (fun f s₂ q => ?_) fun _ _ e => e
    have fin : InvEndG h₀ env.locals (KxS Led ps Facts x stored m₀ P (i + 1)) own { s with heap := hh', toks := tk' } s₂ → LoopStepU h₀ env.locals [s.heap.objs.size] own (KxS Led ps Facts x stored m₀ P (i + 1)) { s with heap := hh', toks := tk' } .next s₂ := by
      rintro ⟨h', tk, m', news', nx, e, F', N', hn', ho, ha, hm⟩
      refine ⟨rfl, h', tk, m', nx, e, F', fun q hq => N' q ((List.mem_append.mp hq).elim (ho q) (hn' q)), fun q hq hb => ?_, hm⟩
      exact ha _ (hmem _ (List.mem_singleton.mpr rfl) (next_is_new F) _ hst9) q.1 (List.mem_map.mpr ⟨q, hq, rfl⟩) (List.mem_singleton.mp hb).symm
    cases f with
    | ret v => exact .ret q
    | brk => exact .brk q
    | next => exact .next (fin q)
    | cont => exact .cont (fin q)
  · rintro h' tk m' news' F' N' _ ⟨c, rfl, hf', h1, h2, hp'⟩
    exact done c m' h' tk hf' hp' (kst_frOut h1 h2 F') N'
theorem kx_end {σ : Type} {Led : σ → List (Addr × Obj)} {ps : σ → List (Str × Value)} {Facts : σ → Prop} {stored : List Str} {m₀ : Str → Option Value} {P : Nat → σ → Prop} {i : Nat} (c : σ) {L : Addr} {m' : Str → Option Value} {own news' : List (Addr × Obj)} {s₁ : Shared} {h' : Heap} {tk : Nat}
    (F : Fr h₀ L h' m') (N : News h₀ L h' news') (hn : ∀ p ∈ Led c, p ∈ news') (ho : ∀ p ∈ own, p ∈ news') (ha : OwnOff own ((Led c).map (·.1))) (hf : Facts c) (hk : ∀ p ∈ ps c, m' p.1 = some p.2) (hr : ∀ z, z ≠ x → (∀ p ∈ ps c, z ≠ p.1) → stored.contains z = false → m' z = m₀ z) (hp : P i c) :
    InvEndG h₀ L (KxS Led ps Facts x stored m₀ P i) own s₁ { s₁ with heap := h', toks := tk } :=
  ⟨h', tk, m', news', Led c, rfl, F, N, hn, ho, ha, c, rfl, hf, hk, hr, hp⟩
end
section
variable {prog : Program} {w : World} {A : Around} {E : Value → Shared → Prop} {s : Shared} {h₀ : Heap} {L l : Addr} {m : Str → Option Value} {news : List (Addr × Obj)} {value slice : PySem.Expr} {vs : List Value} {ns : List Int} {x y : Int} {t u v : Tok} {Q : Value → Shared → Prop}
/-- a slice by twos -/
theorem cutL_two (F : Fr h₀ L s.heap m) (N : News h₀ L s.heap news) (hl : s.heap.IsList l vs.toArray) (hi : IntsAre vs ns) (x0 : 0 ≤ x) (xy : x ≤ y) (hy : y ≤ ns.length) (hz : ns.length ≤ 1000000)
    (h : ∀ D ws ms h', Fr h₀ L h' m → News h₀ L h' ((D, listOf (List.toArray ws) 0) :: news) → (∀ p ∈ news, p.1 < D) → IntsAre ws ms → ms.length = ((y - x + 1) / 2).toNat → (∀ d ∈ ms, d ∈ ns) → Q (.ref D) { s with heap := h' })
    (hs : subscripted slice false (.ref l) (.ref s.heap.objs.size) = operate [.ref l, .ref s.heap.objs.size] (getItem (.ref l) (.ref s.heap.objs.size)) := by with_unfolding_all rfl) :
    wpAny (model prog w) A (subscriptTail value slice (.ref l) (.ref s.heap.objs.size)) Q E { s with heap := s.heap.push { cls := .type "slice", data := .fields #[.int x t, .int y u, .int 2 v] } } := by
  refine kba_turn (value' := PySem.Expr.Name (PySem.Str.ofString "_") ⟨0, 0, 0, 0⟩) (fun _ => rfl) ?_
  refine slice_list3 F N hl (.int _ _) (.int _ _) (.int _ _) (by decide) (fun h' F' N' => ?_) hs (fun _ => rfl) (by rw [List.size_toArray, hi.length]; exact Nat.le_trans hz (by decide))
  have hpk := pick2 (ns := ns) x0 xy hy
  refine h _ (slicePick vs.toArray (some x) (some y) (some 2)).toList _ h' F' ?_ (fun p hp => Nat.lt_succ_of_lt (Heap.lt_size (N p hp).1)) (hi.pick _ _ _) hpk.1 hpk.2
  rw [Array.toArray_toList]
  exact N'
end
end Mine
namespace Mine
open PySem.Builtin.Int (intBits)
theorem bits_range8 {x : Int} (h : 0 < x) : 1 ≤ intBits x ∧ 2 ^ (intBits x - 1) ≤ x ∧ x < 2 ^ intBits x := by
  have h1 := lt_of_bits (Nat.le_refl (intBits x))
  have h0 : 1 ≤ intBits x := by
    rcases Nat.eq_zero_or_pos (intBits x) with e | e
    · rw [e, Int.pow_zero] at h1; omega
    · exact e
  refine ⟨h0, ?_, h1⟩
  rcases Int.lt_or_le x (2 ^ (intBits x - 1)) with h2 | h2
  · have := bits_of_lt (Int.le_of_lt h) h2; omega
  · exact h2
theorem Cg8.mod {d a b : Int} (h : Cg d a b) : a % d = b % d := by
  obtain ⟨k, h⟩ := h
  rw [h, Int.add_mul_emod_self_right]
theorem evalD_range8 {P : Int} (hP : 0 < P) : ∀ ds : List Int, (∀ d ∈ ds, 0 ≤ d ∧ d < P) → 0 ≤ evalD P ds ∧ evalD P ds < P ^ ds.length
  | [], _ => ⟨by simp [evalD], by simp [evalD]⟩
  | x :: r, h => by
    have ih := evalD_range8 hP r fun d hd => h d (.tail _ hd)
    have hx := h x (.head _)
    rw [evalD, List.length_cons, Int.pow_succ]
    have h1 : 0 ≤ P * evalD P r := Int.mul_nonneg (by omega) ih.1
    have h2 : evalD P r * P ≤ (P ^ r.length - 1) * P := mul_le_of (by omega) (by omega)
    rw [Int.sub_mul, Int.one_mul, Int.mul_comm (evalD P r)] at h2
    exact ⟨by omega, by omega⟩
/-- the division of a turn -/
theorem pre8 {X x y B b sg : Int} (hX : X = x * y) (x0 : 0 ≤ x) (x1 : x < B) (y0 : 0 ≤ y) (y1 : y < B) (hB : 2 ≤ B) (hs : sg = 1 ∨ sg = -1) (hb : b = B - sg) : Pre2 X b (intBits b) (X / b) (X % b) ∧ 0 ≤ X ∧ 1 ≤ b := by
  have hb1 : 1 ≤ b := by rcases hs with e | e <;> subst e <;> omega
  have hbB : B - 1 ≤ b := by rcases hs with e | e <;> subst e <;> omega
  have hr := bits_range8 (x := b) (by omega)
  have hX0 : 0 ≤ X := by rw [hX]; exact Int.mul_nonneg x0 y0
  have h1 : x * y ≤ b * y := mul_le_of y0 (by omega)
  have h2 : b * y ≤ b * b := Int.mul_le_mul_of_nonneg_left (by omega) (by omega)
  have hq : X / b ≤ b := by
    have h3 : X / b < b + 1 := Int.ediv_lt_of_lt_mul (by omega) (by rw [Int.add_mul, hX]; omega)
    omega
  refine ⟨⟨by omega, (Int.ediv_mul_add_emod X b).symm, Int.ediv_nonneg hX0 (by omega), ?_, Int.emod_nonneg _ (by omega), Int.emod_lt_of_pos _ (by omega), ?_, ?_⟩, hX0, hb1⟩
  · rw [Int.toNat_natCast]; omega
  · rw [Int.toNat_natCast]; exact hr.2.1
  · rw [Int.toNat_natCast]; exact hr.2.2
theorem pow8 {n k : Int} {j : Nat} (n1 : 1 ≤ n) (k1 : 1 ≤ k) (hj : (j : Int) = k) : (2 : Int) ^ (n * k).toNat = (2 ^ n.toNat) ^ j ∧ (2 : Int) ≤ 2 ^ (n * k).toNat := by
  have e : (n * k).toNat = n.toNat * j := by
    have h : ((n.toNat * j : Nat) : Int) = n * k := by rw [Int.natCast_mul, Int.toNat_of_nonneg (by omega), hj]
    omega
  rw [e]
  refine ⟨by rw [Int.pow_mul], ?_⟩
  have h1 : 1 ≤ n.toNat * j := by
    have := Nat.mul_le_mul (show 1 ≤ n.toNat by omega) (show 1 ≤ j by omega)
    omega
  have := pmono (i := 1) (j := n.toNat * j) h1
  simpa using this
theorem cg8 {B sg b : Int} (hb : b = B - sg) : Cg b B sg := ⟨1, by omega⟩
theorem fin8 {b X q r w m z P : Int} {ms xs ys : List Int} (hq : q = X / b) (hr : r = X % b) (hw : Cg b (evalD P ms) (evalD P xs * evalD P ys)) (hX : X = evalD P xs * evalD P ys) (b1 : 1 ≤ b) (hz : z = evalD P ms) (hm : m = z.fmod b) : r = m ∧ q * b + r = X := by
  refine ⟨?_, by rw [hq, hr]; exact Int.ediv_mul_add_emod X b⟩
  rw [hm, fmodE _ (by omega), hz, Cg8.mod hw, ← hX, hr]
theorem rng8 {len k : Int} {i n9 : Nat} (k1 : 1 ≤ k) (hl : 2 * k ≤ len) (hn : Builtin.Range.rangeSize 0 (len - 2 * k + 1) (2 * k) = (n9 : Int)) (hi : i < n9) : 0 ≤ 0 + (i : Int) * (2 * k) ∧ 0 + (i : Int) * (2 * k) + 2 * k ≤ len := by
  rw [rangeSize_pos (by omega) (by omega)] at hn
  have h0 : 0 ≤ (i : Int) * (2 * k) := Int.mul_nonneg (by omega) (by omega)
  refine ⟨by omega, ?_⟩
  have h1 : (i : Int) + 1 ≤ (len - 2 * k + 1 + 2 * k - 1) / (2 * k) := by omega
  have h2 : ((i : Int) + 1) * (2 * k) ≤ len - 2 * k + 1 + 2 * k - 1 := by
    have h3 := Int.mul_le_mul_of_nonneg_right h1 (show 0 ≤ 2 * k by omega)
    have h4 : (len - 2 * k + 1 + 2 * k - 1) / (2 * k) * (2 * k) ≤ len - 2 * k + 1 + 2 * k - 1 := Int.ediv_mul_le _ (by omega)
    omega
  rw [Int.add_mul, Int.one_mul] at h2
  omega
end Mine
namespace Mine
section
variable {prog : Program} {w : World} {A : Around} {E : Value → Shared → Prop} {s : Shared} {env : Env} {h₀ : Heap} {x : Str} {body : List Stmt} {Q : Flow → Shared → Prop}
/-- kx_range for a list of the ledger -/
theorem kx_list {σ : Type} {l : Addr} {vs : List Value} {ns : List Int} {nn : Nat} {m₀ : Str → Option Value} (Led : σ → List (Addr × Obj)) (ps : σ → List (Str × Value)) (Facts : σ → Prop) (stored : List Str) (P : Nat → σ → Prop) (c₀ : σ)
    (hh : A.handled = none) (hl : ∀ c, (l, listOf vs.toArray nn) ∈ Led c) (hi : IntsAre vs ns) (F : Fr h₀ env.locals s.heap m₀) (N : News h₀ env.locals s.heap (Led c₀)) (hf : Facts c₀) (hk : ∀ p ∈ ps c₀, m₀ p.1 = some p.2) (hp : P 0 c₀)
    (turn : ∀ (c : σ) (i : Nat) (k : Int) t (u : Str → Option Value) h tk own, ns[i]? = some k → (∀ p ∈ own, IterO p.2) → OwnOff own ((Led c).map (·.1)) → Facts c → P i c →
      Fr h₀ env.locals h (fun y => if y = x then some (.int k t) else kstB (fun z => if stored.contains z then u z else m₀ z) (ps c) y) → News h₀ env.locals h (Led c ++ own) →
      wpAny (model prog w) A (execs body env) (InvPostG h₀ env.locals (KxS Led ps Facts x stored m₀ P (i + 1)) own { s with heap := h, toks := tk } Q) E { s with heap := h, toks := tk })
    (done : ∀ (c : σ) (u : Str → Option Value) h tk, Facts c → P ns.length c → Fr h₀ env.locals h (fun y => if y = x then u y else kstB (fun z => if stored.contains z then u z else m₀ z) (ps c) y) → News h₀ env.locals h (Led c) → Q .next { s with heap := h, toks := tk }) :
    wpAny (model prog w) A (pyIter (.ref l)) (fun it s₂ => LoopAtV prog w A h₀ env x body Q E it s₂) E s := by
  have hol : s.heap.get? l = some (listOf vs.toArray nn) := (N _ (hl c₀)).1
  have hls : s.heap.IsList l vs.toArray := ⟨_, hol, rfl, nn, rfl⟩
  have hne : l ≠ s.heap.objs.size := Nat.ne_of_lt (Heap.lt_size hol)
  refine wpAny_pyIter_list hls ?_
  have W := Walks.list (prog := prog) (w := w) hh s.heap.objs.size l hne vs.toArray
  have hlen : vs.toArray.size = ns.length := by simp [hi.length]
  rw [hlen] at W
  refine ⟨_, _, _, ns.length, _, _, m₀, Led c₀, (fun i m nx => KxS Led ps Facts x stored m₀ P i m nx), rfl, W, ?_, ?_, ?_, ⟨⟨_, Heap.get?_push_size _ rfl, rfl, rfl⟩, hls.at fun o e => Heap.get?_push_of_some _ e⟩, F.push _, (fun p hp => ⟨Heap.get?_push_of_some _ (N p hp).1, (N p hp).2⟩), ⟨c₀, rfl, hf, hk, fun _ _ _ _ => rfl, hp⟩, ?_, ?_⟩
  · intro hm
    rcases List.mem_cons.mp hm with e | hm
    · exact absurd F.ns.lt (e ▸ Nat.lt_irrefl _)
    · exact (N _ (hl c₀)).2.1 ((List.mem_singleton.mp hm).symm)
  · intro b hb
    rw [List.mem_singleton.mp hb]
    exact next_is_new F
  · intro p hp hI
    exact absurd (Heap.lt_size (N p hp).1) ((List.mem_singleton.mp hI) ▸ Nat.lt_irrefl _)
  · rintro i v m₁ news₁ s₁ own ⟨hh', tk', rfl⟩ hin hP ⟨c, rfl, hf', h1, h2, hp'⟩ hoff hown hget hmem hst' F₁ N₁
    obtain ⟨oI, hoI, _, hdI⟩ := hst'.1
    have hio : ∀ q ∈ own.filter (fun p => decide (p.1 = s.heap.objs.size)), IterO q.2 := by
      intro q hq vs' ql t9 e1 e2
      have h1 : q.1 = s.heap.objs.size := by simpa using (List.mem_filter.mp hq).2
      have e3 := hget q (List.mem_filter.mp hq).1
      rw [h1, hoI] at e3
      rw [← Option.some.inj e3, hdI] at e1
      cases e1
      cases e2
    have hsep : OwnOff (own.filter fun p => decide (p.1 = s.heap.objs.size)) ((Led c).map (·.1)) := by
      intro q hq b hb e
      obtain ⟨q2, hq2, rfl⟩ := List.mem_map.mp hb
      have h1 : q.1 = s.heap.objs.size := by simpa using (List.mem_filter.mp hq).2
      exact hoff q2 hq2 (List.mem_singleton.mpr (e ▸ h1))
    have hlt' : i < ns.length := hin
    obtain ⟨t, hx⟩ := hi.get i ns[i] (by simp [hlt'])
    have hv : v = .int ns[i] t := by
      have hP' : vs[i]? = some v := by simpa using hP
      rw [hx] at hP'; exact (Option.some.inj hP').symm
    subst hv
    have N₂ : News h₀ env.locals hh' (Led c ++ own.filter fun p => decide (p.1 = s.heap.objs.size)) := fun p hp => N₁ p ((List.mem_append.mp hp).elim (fun h => List.mem_append.mpr (.inr h)) fun h => List.mem_append.mpr (.inl ((List.mem_filter.mp h).1)))
    have hlo : hh'.get? l = some (listOf vs.toArray nn) := (N₁ _ (List.mem_append.mpr (.inr (hl c)))).1
    refine wpAny_mono (turn c i ns[i] t m₁ hh' tk' _ (by simp [hlt']) hio hsep hf' hp' (kst_fr h1 h2 F₁) N₂) (fun f s₂ p => ?_) fun _ _ e => e
    have fin : InvEndG h₀ env.locals (KxS Led ps Facts x stored m₀ P (i + 1)) (own.filter fun p => decide (p.1 = s.heap.objs.size)) { s with heap := hh', toks := tk' } s₂ →
        LoopStepU h₀ env.locals [s.heap.objs.size] own (KxS Led ps Facts x stored m₀ P (i + 1)) { s with heap := hh', toks := tk' } .next s₂ := by
      rintro ⟨h', tk, m', news', nx, e, F', N', hn, ho, ha, hm⟩
      have hln : (l, listOf vs.toArray nn) ∈ nx := by
        obtain ⟨c', rfl, _⟩ := hm
        exact hl c'
      refine ⟨rfl, h', tk, m', nx, e, F', fun p hp => ?_, fun p hp hb => ?_, hm⟩
      · rcases List.mem_append.mp hp with h | h
        · by_cases hI : p.1 = s.heap.objs.size
          · exact N' p (ho p (List.mem_filter.mpr ⟨h, by simpa using hI⟩))
          · have h1 : p.1 = l := by
              rcases List.mem_cons.mp (hown p h) with h2 | h2
              · exact absurd h2 hI
              · exact List.mem_singleton.mp h2
            have h2 : hh'.get? p.1 = some p.2 := hget p h
            rw [h1, hlo] at h2
            have h3 : p = (l, listOf vs.toArray nn) := Prod.ext h1 (Option.some.inj h2).symm
            rw [h3]
            exact N' _ (hn _ hln)
        · exact N' p (hn p h)
      · have hI2 := hmem s.heap.objs.size (.head _) (next_is_new F) _ hoI
        exact ha _ (List.mem_filter.mpr ⟨hI2, by simp⟩) p.1 (List.mem_map.mpr ⟨p, hp, rfl⟩) (List.mem_singleton.mp hb).symm
    cases f with
    | ret v => exact .ret p
    | brk => exact .brk p
    | next => exact .next (fin p)
    | cont => exact .cont (fin p)
  · rintro h' tk m' news' F' N' _ ⟨c, rfl, hf', h1, h2, hp'⟩
    exact done c m' h' tk hf' hp' (kst_frOut h1 h2 F') N'
end
end Mine
-- PARTS: math.txt math_rev.txt nest.txt div.txt call.txt dig.txt dig2.txt dig3.txt dig4.txt slice.txt mont.txt law08a.txt comp5.txt law08b.txt loopx.txt law08c.txt loopy.txt
namespace Mine
open PySem.Builtin.Int (intBits)
theorem small8 {b c : Int} (hc : 1 ≤ c) (c2 : c ≤ 1000) (b0 : 0 ≤ b) (b1 : b ≤ 1000000) : Builtin.Range.small 0 b c = true := by
  have h0 : 0 ≤ (b + c - 1) / c := Int.ediv_nonneg (by omega) (by omega)
  have h1 : (b + c - 1) / c ≤ b + c - 1 := Int.ediv_le_self _ (by omega)
  unfold Builtin.Range.small
  rw [rangeSize_pos hc b0]
  simp only [Builtin.Range.rangeFitsLong, Bool.and_eq_true, Bool.or_eq_true, decide_eq_true_eq, beq_iff_eq, if_pos (show c > 0 by omega)]
  refine ⟨⟨⟨⟨⟨?_, ?_⟩, ?_, ?_⟩, ?_, ?_⟩, ?_, ?_⟩, ?_⟩ <;> omega
theorem gen8 {vs : List Value} {l : List Int} {n : Int} {k : Int} (h : IntsAre vs (List.map (fun z => (-1 - z).fmod (2 ^ n.toNat)) l)) (h1 : 2 * k ≤ (l.length : Int)) (h2 : l.length ≤ 1000) : ∃ ds, IntsAre vs ds ∧ (∀ d ∈ ds, 0 ≤ d ∧ d < 2 ^ n.toNat) ∧ 2 * k ≤ (ds.length : Int) ∧ ds.length ≤ 1000 := by
  refine ⟨_, h, fun d hd => ?_, by rw [List.length_map]; exact h1, by rw [List.length_map]; exact h2⟩
  obtain ⟨x, _, rfl⟩ := List.mem_map.mp hd
  exact fmodB _ (ppos _)
/-- the table of _digits2int's inner def in the loop: empty, or with its code object -/
def Fc8 (P : Addr) (line : Nat) (ql : Str) (c : Obj × List (Addr × Obj)) : Prop := (c.1 = tabObj #[] ∧ c.2 = []) ∨ ∃ C Y, c.2 = [(C, Y)] ∧ TabF P line 4 ql c.1 C Y
theorem Fc8.tab {P : Addr} {line : Nat} {ql : Str} {X : Obj} {cs R : List (Addr × Obj)} (h : Fc8 P line ql (X, cs)) : ∃ C Y, TabS P line 4 ql X C Y ∧ (C, Y) ∈ (P, X) :: (cs ++ R) := by
  rcases h with ⟨e1, e2⟩ | ⟨C, Y, e2, h⟩
  · have e1' : X = tabObj #[] := e1
    subst e1'
    exact ⟨P, tabObj #[], TabS.start _ _ _ _, .head _⟩
  · have e2' : cs = [(C, Y)] := e2
    subst e2'
    exact ⟨C, Y, h.toS, .tail _ (.head _)⟩
theorem led8 {h₀ h : Heap} {L PD Co aD aN : Addr} {X Yo oD oN : Obj} {cs own : List (Addr × Obj)} (N : News h₀ L h (((PD, X) :: (cs ++ [(aD, oD), (aN, oN)])) ++ own)) (hC : (Co, Yo) ∈ (PD, X) :: (cs ++ [(aD, oD), (aN, oN)])) : News h₀ L h ((PD, X) :: (Co, Yo) :: (aD, oD) :: (aN, oN) :: own) := by
  intro p hp
  rcases List.mem_cons.mp hp with rfl | hp
  · exact N _ (.head _)
  rcases List.mem_cons.mp hp with rfl | hp
  · exact N _ (List.mem_append_left _ hC)
  rcases List.mem_cons.mp hp with rfl | hp
  · exact N _ (List.mem_append_left _ (.tail _ (List.mem_append_right _ (.head _))))
  rcases List.mem_cons.mp hp with rfl | hp
  · exact N _ (List.mem_append_left _ (.tail _ (List.mem_append_right _ (.tail _ (.head _)))))
  · exact N _ (List.mem_append_right _ hp)
theorem off8 {PD aD aN : Addr} {X oD oN : Obj} {cs own : List (Addr × Obj)} (h : OwnOff own ((((PD, X) :: (cs ++ [(aD, oD), (aN, oN)])) : List (Addr × Obj)).map (·.1))) : (∀ p ∈ own, p.1 ≠ PD) ∧ (∀ p ∈ own, p.1 ≠ aD) ∧ (∀ p ∈ own, p.1 ≠ aN) :=
  ⟨fun p hp => h p hp _ (List.mem_map.mpr ⟨(PD, X), .head _, rfl⟩), fun p hp => h p hp _ (List.mem_map.mpr ⟨(aD, oD), .tail _ (List.mem_append_right _ (.head _)), rfl⟩), fun p hp => h p hp _ (List.mem_map.mpr ⟨(aN, oN), .tail _ (List.mem_append_right _ (.tail _ (.head _))), rfl⟩)⟩
theorem nl8 {n k : Int} {l B : Nat} (n1 : 1 ≤ n) (n2 : n ≤ 2400) (k2 : k ≤ 8) (hl : (l : Int) = k) (hB : B ≤ 4810) : (B : Int) + n * l + l ≤ 10000000 := by
  have h := Int.mul_le_mul_of_nonneg_right n2 (show (0 : Int) ≤ l by omega)
  omega
theorem ex8 {n k : Int} {ds dg : List Int} (n1 : 1 ≤ n) (n2 : n ≤ 2400) (k2 : k ≤ 8) (hl : (ds.length : Int) = k) (hm : ∀ d ∈ ds, d ∈ dg) (hd : ∀ d ∈ dg, 0 ≤ d ∧ d < 2 ^ n.toNat) : ∃ e, evalD (2 ^ n.toNat) ds = e ∧ 0 ≤ e ∧ e < (2 ^ n.toNat) ^ ds.length ∧ intBits e ≤ 19200 := by
  have h := evalD_range8 (ppos n.toNat) ds fun d hx => hd d (hm d hx)
  refine ⟨_, rfl, h.1, h.2, ?_⟩
  have h2 := h.2
  rw [← Int.pow_mul] at h2
  have h3 := bits_of_lt h.1 h2
  have h4 : n.toNat * ds.length ≤ 2400 * 8 := Nat.mul_le_mul (by omega) (by omega)
  omega
theorem b8 {n : Int} {ds dg : List Int} (n1 : 1 ≤ n) (n2 : n ≤ 2400) (hm : ∀ d ∈ ds, d ∈ dg) (hd : ∀ d ∈ dg, 0 ≤ d ∧ d < 2 ^ n.toNat) : ∀ d ∈ ds, 0 ≤ d ∧ intBits d ≤ 2401 := fun d hx => by
  have h := hd d (hm d hx)
  have := bits_of_lt h.1 h.2
  exact ⟨h.1, by omega⟩
theorem perm8x {h₀ h : Heap} {L : Addr} {t y x p c : Addr × Obj} {r : List (Addr × Obj)} (N : News h₀ L h (t :: y :: x :: p :: c :: r)) : News h₀ L h (p :: c :: x :: t :: y :: r) := fun q hq => N q (by
  simp only [List.mem_cons] at hq ⊢
  rcases hq with h | h | h | h | h | h <;> simp [h])
theorem perm8y {h₀ h : Heap} {L : Addr} {t y x p c : Addr × Obj} {r : List (Addr × Obj)} (N : News h₀ L h (p :: c :: x :: t :: y :: r)) : News h₀ L h (p :: c :: y :: t :: x :: r) := fun q hq => N q (by
  simp only [List.mem_cons] at hq ⊢
  rcases hq with h | h | h | h | h | h <;> simp [h])
theorem permL {h₀ h : Heap} {L : Addr} {t p c : Addr × Obj} {r : List (Addr × Obj)} (N : News h₀ L h (t :: p :: c :: r)) : News h₀ L h (p :: c :: t :: r) := fun q hq => N q (by
  simp only [List.mem_cons] at hq ⊢
  rcases hq with h | h | h | h <;> simp [h])
theorem ints8 (t u : Tok) : IntsAre [Value.int 1 t, Value.int (-1) u] [1, -1] := .cons 1 t (.cons (-1) u .nil)
theorem nk8 {n k : Int} (n1 : 1 ≤ n) (n2 : n ≤ 2400) (k1 : 1 ≤ k) (k2 : k ≤ 8) : 1 ≤ n * k ∧ n * k ≤ 19200 := by
  have h1 := Int.mul_le_mul_of_nonneg_right n2 (show (0 : Int) ≤ k by omega)
  have h2 := Int.mul_le_mul_of_nonneg_right n1 (show (0 : Int) ≤ k by omega)
  omega
theorem sg8 {i : Nat} {sg : Int} (h : ([1, -1] : List Int)[i]? = some sg) : sg = 1 ∨ sg = -1 := by
  rcases i with _ | _ | i
  · exact .inl (Option.some.inj h).symm
  · exact .inr (Option.some.inj h).symm
  · cases h
theorem bb8 {z m sg : Int} (hz : z = 2 ^ m.toNat) (hs : sg = 1 ∨ sg = -1) (hm : 1 ≤ m ∧ m ≤ 19200) : intBits (z - sg) ≤ 19210 := by
  have h1 : (2 : Int) ≤ 2 ^ m.toNat := by
    have := pmono (i := 1) (j := m.toNat) (by omega)
    simpa using this
  have h3 : (2 : Int) ^ (m.toNat + 1) = 2 ^ m.toNat * 2 := Int.pow_succ _ _
  rw [← hz] at h1 h3
  have h4 : z - sg < z * 2 ∧ 0 ≤ z - sg := by rcases hs with e | e <;> subst e <;> omega
  rw [← h3] at h4
  have h := bits_of_lt h4.2 h4.1
  omega
theorem permw {h₀ h : Heap} {L : Addr} {t y p c : Addr × Obj} {r : List (Addr × Obj)} (N : News h₀ L h (t :: y :: p :: c :: r)) : News h₀ L h (p :: c :: t :: y :: r) := fun q hq => N q (by
  simp only [List.mem_cons] at hq ⊢
  rcases hq with h | h | h | h | h <;> simp [h])
theorem alt_hd {d : Nat} {p : Addr × Obj} {r : List (Addr × Obj)} (h : AllLt d (p :: r)) : @LT.lt Nat _ p.1 d := h.1
theorem offhd {own tl : List (Addr × Obj)} {p : Addr × Obj} (h : OwnOff own ((p :: tl).map (·.1))) : ∀ q ∈ own, q.1 ≠ p.1 := fun q hq => h q hq _ (List.mem_map.mpr ⟨p, .head _, rfl⟩)
theorem hn8 {t y l w q a b c d e : Addr × Obj} {own own2 : List (Addr × Obj)} : ∀ p ∈ t :: y :: l :: a :: b :: c :: d :: e :: own, p ∈ t :: y :: w :: q :: l :: a :: b :: c :: d :: e :: (own ++ own2) := by
  intro p hp
  simp only [List.mem_cons, List.mem_append] at hp ⊢
  rcases hp with h | h | h | h | h | h | h | h | h <;> simp [h]
theorem ho8 {t y l w q a b c d e : Addr × Obj} {own own2 : List (Addr × Obj)} : ∀ p ∈ own2, p ∈ t :: y :: w :: q :: l :: a :: b :: c :: d :: e :: (own ++ own2) := by
  intro p hp
  simp only [List.mem_cons, List.mem_append]
  simp [hp]
theorem hn8o {t y l a b c d e : Addr × Obj} {own : List (Addr × Obj)} : ∀ p ∈ t :: ([y] ++ [d, e]), p ∈ t :: y :: l :: a :: b :: c :: d :: e :: own := by
  intro p hp
  simp only [List.mem_cons, List.mem_append, List.not_mem_nil, or_false] at hp ⊢
  rcases hp with h | h | h | h <;> simp [h]
theorem ho8o {t y l a b c d e : Addr × Obj} {own : List (Addr × Obj)} : ∀ p ∈ own, p ∈ t :: y :: l :: a :: b :: c :: d :: e :: own := by
  intro p hp
  simp only [List.mem_cons]
  simp [hp]
theorem oo8 {own tl : List (Addr × Obj)} {P C5 C6 : Addr} {X5 Y5 X6 Y6 : Obj} (h : OwnOff own (((P, X5) :: (C5, Y5) :: tl).map (·.1))) (hC : ∀ p ∈ own, p.1 ≠ C6) : OwnOff own (((P, X6) :: (C6, Y6) :: tl).map (·.1)) := by
  intro p hp b hb
  rcases List.mem_cons.mp hb with rfl | hb
  · exact h p hp _ (.head _)
  rcases List.mem_cons.mp hb with rfl | hb
  · exact hC p hp
  · exact h p hp _ (.tail _ (.tail _ hb))
theorem oo8o {own : List (Addr × Obj)} {P C aD aN : Addr} {X Y oD oN : Obj} (hP : ∀ p ∈ own, p.1 ≠ P) (hC : ∀ p ∈ own, p.1 ≠ C) (hD : ∀ p ∈ own, p.1 ≠ aD) (hN : ∀ p ∈ own, p.1 ≠ aN) : OwnOff own (((P, X) :: ([(C, Y)] ++ [(aD, oD), (aN, oN)])).map (·.1)) := by
  intro p hp b hb
  rcases List.mem_cons.mp hb with rfl | hb
  · exact hP p hp
  rcases List.mem_cons.mp hb with rfl | hb
  · exact hC p hp
  rcases List.mem_cons.mp hb with rfl | hb
  · exact hD p hp
  rcases List.mem_cons.mp hb with rfl | hb
  · exact hN p hp
  · cases hb
theorem Fc8.grown {P : Addr} {line : Nat} {ql : Str} {X : Obj} {cs : List (Addr × Obj)} (h : Fc8 P line ql (X, cs)) : ∃ ps, X = tabObj ps := by
  obtain ⟨_, _, h1, _⟩ := h.tab (R := [])
  exact h1.grown
theorem ne_f {prog : Program} {w : World} {A : Around} {E : Value → Shared → Prop} {s : Shared} {a b : Int} {t u : Tok} {Q : Value → Shared → Prop} (e : a = b) (h : Q (.bool false) s) : wpAny (model prog w) A (compareOp .NotEq (.int a t) (.int b u)) Q E s :=
  ne_int (by rw [e]; simpa using h)
local macro_rules | `(tactic| bits_by_make) => `(tactic| with_reducible assumption)
local macro_rules | `(tactic| walk_at "storeName") => `(tactic| ((fail_if_success (with_reducible rename KPfMark => zMk)); (fail_if_success ((with_reducible refine abs_skip ?ka ?kb); (case ka => with_reducible assumption))); k_extra "abs"))
local macro_rules | `(tactic| walk_at "binaryOp Pow int int") => `(tactic| ((fail_if_success (with_reducible rename KPfMark => zMk)); (with_reducible refine' pow3_z ?ka ?kb ?_); (case ka => bits_by_make); (case kb => decide); k_extra "intro3"))
local macro_rules | `(tactic| walk_at "binaryOp Pow int int") => `(tactic| ((fail_if_success (with_reducible rename KPfMark => zMk)); (with_reducible refine pow2_p (N := 20000) ?kb1 ?kb2 ?kb3 ?_); (case kb1 => omega); (case kb2 => omega); (case kb3 => decide); k_extra "introP"))
local macro_rules | `(tactic| walk_at "binaryOp Mod int int") => `(tactic| ((fail_if_success (with_reducible rename KPfMark => zMk)); (with_reducible refine' mod_p ?ka ?kb ?_); (case ka => first | decide | assumption | k_extra "pos"); (case kb => bits_by_make); k_extra "introM"))
local macro_rules | `(tactic| walk_at "call ref") => `(tactic| k_extra "mycall")
local macro_rules | `(tactic| walk_at "binaryOp LShift int int") => `(tactic| ((fail_if_success (with_reducible rename KPfMark => zMk)); (with_reducible refine' shl_p (N := 40000) ?kb1 ?kb2 ?kb3 ?kb4 ?_); (case kb1 => omega); (case kb2 => bits_by_make); (case kb3 => omega); (case kb4 => decide); k_extra "introS"))
local macro_rules | `(tactic| walk_at "binaryOp RShift int int") => `(tactic| ((fail_if_success (with_reducible rename KPfMark => zMk)); (with_reducible refine' shr_p ?kb1 ?kb2 ?_); (case kb1 => omega); (case kb2 => bits_by_make); k_extra "introS"))
local macro_rules | `(tactic| walk_at "execs cons") => `(tactic| ((with_reducible refine gen_toks ?_); intro tk; (with_reducible refine wpAny_execs_cons ?_); try dsimp only))
local macro_rules | `(tactic| walk_at "execs nil") => `(tactic| ((with_reducible refine gen_toks ?_); intro tk; (with_reducible refine wpAny_execs_nil ?_)))
local macro_rules | `(tactic| walk_at "binaryOp Mult int int") => `(tactic| ((with_reducible refine' mul_p ?kb1 ?kb2 ?kb3 ?_); (case kb1 => bits_by_make); (case kb2 => bits_by_make); (case kb3 => decide)))
local macro_rules | `(tactic| walk_at "GrownAll") => `(tactic| k_extra "grown")
local macro_rules | `(tactic| walk_at "compareOp NotEq int int") => `(tactic| k_extra "ne")
local macro_rules | `(tactic| walk_at "InvEndG") => `(tactic| k_extra "endG")
local macro_rules | `(tactic| walk_at "call builtin:len") => `(tactic| k_extra "len")
local macro_rules | `(tactic| walk_at "pyIter ref") => `(tactic| k_extra "myiter")
local macro_rules | `(tactic| walk_at "exec For Name Call cons nil") => `(tactic| (k_here; (rename Fr _ _ _ _ => lF'); (with_unfolding_all refine' For_invVF lF' ?k1 ?k2 ?_; (case k1 => exact rfl); (case k2 => exact rfl); k_whole)))
local macro_rules | `(tactic| walk_at "subscriptTail Name Slice ref ref") => `(tactic| k_extra "cut")
local macro_rules | `(tactic| walk_at "subscriptTail List cons Slice ref ref") => `(tactic| k_extra "cut")
local macro_rules | `(tactic| walk_at "subscriptTail BinOp Name Add Subscript Slice ref ref") => `(tactic| k_extra "cut")
local macro_rules | `(tactic| walk_at "assign Tuple cons ref") => `(tactic| k_extra "unpack")
local macro_rules | `(tactic| walk_at "exec Assign cons ListComp") => `(tactic| (k_here; k_dflt (refine PyProof.Rows.LCg.Assign_ListComp_U (F₀ := by k_asm) (by rfl) (by with_unfolding_all rfl) (by with_unfolding_all rfl) (by decide) (by rfl) (by decide) (by rfl) (by rfl) (by rfl) ?_)))
local macro_rules | `(tactic| walk_at "CompSrc BinOp") => `(tactic| k_extra "srcI")
set_option maxRecDepth 100000 in
set_option maxHeartbeats 8000000 in
theorem X : PySem.Challenge.rw_dn0134_08.Holds := hd (by
  w_top off
  k_with_none
  k_with "abs" => (first
    | ((with_reducible show wpAny _ _ (storeName _ (Str.ofString "n") _) _ _ _); (with_reducible refine' abs_store ?ka ?_); (case ka => bits_by_make); intro n an hn bn; have hn1 : 1 ≤ n := (by omega); have hn2 : n ≤ 2400 := (by omega))
    | ((with_reducible show wpAny _ _ (storeName _ (Str.ofString "k") _) _ _ _); (with_reducible refine' abs_store ?ka ?_); (case ka => bits_by_make); intro k ak hk bk; have hk1 : 1 ≤ k := (by omega); have hk2 : k ≤ 8 := (by omega); have hnk := nk8 hn1 hn2 hk1 hk2)
    | ((with_reducible show wpAny _ _ (storeName _ (Str.ofString "product") _) _ _ _); (with_reducible refine' abs_store ?ka ?_); (case ka => bits_by_make); intro product aprod hprod bprod)
    | ((with_reducible show wpAny _ _ (storeName _ (Str.ofString "b") _) _ _ _); (with_reducible refine' abs_store (N := 19210) ?ka ?_); (case ka => (exact bb8 hzp (sg8 kLt2) hnk)); intro b ab hb bb)
    | ((with_reducible refine' abs_store ?ka ?_); (case ka => bits_by_make); intro z az hz bz))
  k_with "cut" => (
    (with_reducible show wpAny _ _ (subscriptTail _ (PySem.Expr.Slice _ _ _ _) (Value.ref _) (Value.ref _)) _ _ _)
    first
    | ((with_reducible show wpAny _ _ (subscriptTail _ (PySem.Expr.Slice _ _ (some _) _) (Value.ref _) (Value.ref _)) _ _ _); (fail_if_success (have := hIx)); (rename Fr _ _ _ _ => lF'); (rename News _ _ _ _ => lN'); k_dflt (refine' cutL_two lF' lN' ?ql hIdg ?qx ?qxy ?qz ?qb ?_ ?qs; (case ql => kmk_list); (case qs => with_unfolding_all rfl); (case qx => omega); (case qxy => omega); (case qz => omega); (case qb => omega)); (clear lF' lN'); intro Dx xv xs h' F' N' lcx hIx hlx hmx; (try k_lt lcx))
    | ((with_reducible show wpAny _ _ (subscriptTail _ (PySem.Expr.Slice _ _ (some _) _) (Value.ref _) (Value.ref _)) _ _ _); (rename Fr _ _ _ _ => lF'); (rename News _ _ _ _ => lN'); k_dflt (refine' cutL_two lF' lN' ?ql hIdg ?qx ?qxy ?qz ?qb ?_ ?qs; (case ql => kmk_list); (case qs => with_unfolding_all rfl); (case qx => omega); (case qxy => omega); (case qz => omega); (case qb => omega)); (clear lF' lN'); intro Dy yw yd h' F' N' lcy hIy hly hmy; (try k_lt lcy))
    | (k_dflt (refine' cutL_from ?qF ?qN ?ql ?qi ?qx ?qz ?_ ?qs; (case qF => k_asm); (case qN => k_asm); (case ql => kmk_list); (case qi => l_ints); (case qs => with_unfolding_all rfl); (case qx => omega); (case qz => first | omega | (simp only [List.length_append, List.length_cons, List.length_nil, List.length_drop]; omega))); intro Dc wsc h' F' N' lc hIc; (try k_lt lc))
    | (k_dflt (refine' cutL_upto ?qF ?qN ?ql ?qi ?qx ?qz ?_ ?qs; (case qF => k_asm); (case qN => k_asm); (case ql => kmk_list); (case qi => l_ints); (case qs => with_unfolding_all rfl); (case qx => omega); (case qz => first | omega | (simp only [List.length_append, List.length_cons, List.length_nil, List.length_drop]; omega))); intro Dc wsc h' F' N' lc hIc; (try k_lt lc))
    | (k_dflt (refine' cutL_run (s := ⟨_, _, _, _, _⟩) ?qF ?qN ?ql ?qi ?qx ?qy ?qz ?_ ?qs; (case qF => k_asm); (case qN => k_asm); (case ql => kmk_list); (case qi => l_ints); (case qs => with_unfolding_all rfl); (case qx => omega); (case qy => omega); (case qz => first | omega | (simp only [List.length_append, List.length_cons, List.length_nil, List.length_drop]; omega))); intro Dc wsc h' F' N' lc hIc; (try k_lt lc)))
  k_with "unpack" => (
    (fail_if_success (have := h2done))
    obtain ⟨first, second, e3⟩ := head2 _ 0 0
    have hb3 := head_bits (by assumption) (by decide) e3
    have bfirst := hb3 first (.head _)
    have bsecond := hb3 second (.tail _ (.head _))
    have afirst : Abs first := .mk
    have asecond : Abs second := .mk
    rw [e3] at hIc
    obtain ⟨t3, u3, ew3⟩ := ints2 hIc
    subst ew3
    have h2done := hIc)
  k_with "len" => (
    (fail_if_success (have := hdl1))
    (rename IntsAre _ (List.map _ _) => hI9)
    (obtain ⟨dg, hIdg, hdg, hdl1, hdl2⟩ := gen8 (k := k) hI9 (by rw [List.length_append, rangeKs_length]; omega) (by rw [List.length_append, rangeKs_length, List.length_take, List.length_drop]; omega))
    k_dflt (refine' kst_len (k := dg.length) ?zN ?zm ?ze ?zf ?_; (case ze => exact hIdg.length); (case zN => k_asm); (case zm => k_mem); (case zf => omega)))
  k_with "myiter" => (
    first
  | (
    (fail_if_success (have := hOut))
    (rename Fr _ _ _ _ => lF')
    (rename News _ _ _ _ => lN')
    (rename IsRange _ _ _ _ _ _ _ _ => rgX)
    obtain ⟨n9, hn9⟩ : ∃ n9 : Nat, Builtin.Range.rangeSize 0 ((dg.length : Int) - 2 * k + 1) (2 * k) = (n9 : Int) := ⟨_, (Int.toNat_of_nonneg (by rw [rangeSize_pos (by omega) (by omega)]; exact Int.ediv_nonneg (by omega) (by omega))).symm⟩
    (with_unfolding_all refine' kx_range (n := n9) (σ := Obj × List (Addr × Obj)) (fun c => (30, c.1) :: (c.2 ++ [_, _])) (fun _ => []) (Fc8 30 31 (Str.ofString "_digits2int.<locals>.inner")) [Str.ofString "xs", Str.ofString "ys", Str.ofString "product", Str.ofString "sign", Str.ofString "b", Str.ofString "q", Str.ofString "r"] (fun _ _ => True) (tabObj #[], []) (by rfl) rgX ?ksm hn9 lF' (news_sub lN' (List.forall_mem_cons.mpr ⟨.tail _ (.tail _ (.tail _ (.tail _ (.tail _ (.tail _ (.tail _ (.tail _ (.tail _ (.head _))))))))), List.forall_mem_cons.mpr ⟨.head _, List.forall_mem_cons.mpr ⟨.tail _ (.tail _ (.tail _ (.tail _ (.tail _ (.tail _ (.tail _ (.tail _ (.head _)))))))), List.forall_mem_nil _⟩⟩⟩)) (.inl ⟨rfl, rfl⟩) (List.forall_mem_nil _) True.intro ?_ ?_)
    (case ksm => (exact small8 (by omega) (by omega) (by omega) (by omega)))
    (all_goals (try clear lF' lN'))
    rotate_left
    (
      rintro ⟨XD, cs⟩ kU kH kTk kFacts kInv kFr kNews
      have hOut : True := True.intro
      have kMark := kstMark
      dsimp only [kstB] at kFr
      dsimp only at kNews)
    rotate_left
    (
      rintro ⟨XD, cs⟩ iI atN kT kU kH kTk kOwn kLtI kAt kIo kOff kFacts kInv kFr kNews
      have hOut : True := True.intro
      have kMark := kstMark
      dsimp only [kstB] at kFr
      dsimp only at kNews
      (obtain ⟨Co, Yo, hTS, hCo⟩ := kFacts.tab)
      (have kN2 := led8 kNews hCo)
      (obtain ⟨hoP, hoD, hoN⟩ := off8 kOff)
      clear kNews
      (have hat := rng8 hk1 hdl1 hn9 kLtI)
      (rw [← kAt] at hat)
      have aat : Abs atN := .mk)
    (all_goals (try dsimp only))
    (all_goals (try k_fold)))
  | (
    (have := hTyd)
    (fail_if_success (have := hIn))
    (rename Fr _ _ _ _ => lF')
    (rename News _ _ _ _ => lN')
    (with_unfolding_all refine' kx_list (vs := [_, _]) (ns := [1, -1]) (nn := 0) (σ := Obj × Addr × Obj) (fun c => (30, c.1) :: (c.2.1, c.2.2) :: (_, _) :: _) (fun _ => []) (fun c => TabF 30 31 4 (Str.ofString "_digits2int.<locals>.inner") c.1 c.2.1 c.2.2) [Str.ofString "b", Str.ofString "q", Str.ofString "r"] (fun _ _ => True) (Xyd, Cyd, Yyd) (by rfl) (fun _ => .tail _ (.tail _ (.head _))) (ints8 _ _) lF' (permL lN') hTyd (List.forall_mem_nil _) True.intro ?_ ?_)
    (all_goals (try clear lF' lN'))
    rotate_left
    (
      rintro ⟨X5, C5, Y5⟩ kU kH kTk hT5 kInv2 kFr kNews
      have hIn : True := True.intro
      have kMark := kstMark
      dsimp only [kstB] at kFr
      dsimp only at kNews)
    rotate_left
    (
      rintro ⟨X5, C5, Y5⟩ iS sg kT2 kU kH kTk kOwn2 kLt2 kIo2 kOff2 hT5 kInv2 kFr kNews
      have hIn : True := True.intro
      have hTurn : True := True.intro
      have kMark := kstMark
      dsimp only [kstB] at kFr
      dsimp only at kNews
      have asg : Abs sg := .mk)
    (all_goals (try dsimp only))
    (all_goals (try k_fold))))
  k_with "grown" => (
    obtain ⟨psI, hpI⟩ := kFacts.grown
    subst hpI
    (k_dflt (refine And.intro (GrownAt.of (by k_asm) (by k_mem)) True.intro)))
  k_with "mycall" => (first
    | ((with_reducible show wpAny _ _ (call (Value.ref 35) [Value.ref Dx, _] _) _ _ _)
       (rename News _ _ _ _ => lN')
       (have hl9 : ((xs.length : Nat) : Int) = k := (by omega))
       (have hb9 := b8 hn1 hn2 hmx hdg)
       (have lN8 := perm8x lN'; clear lN')
       k_dflt (refine' dig_c (c := 0) (Bd := 2401) _ _ _ _ hIx ?zlen ?zn0 (fun x hx => (hb9 x hx).2) (nl8 hn1 hn2 hk2 hl9 (by decide)) ?zn1 ?k1 ?k2 ?k3 lN8 ?k5 hCD ?kr ?kl hTS ?kK ?kd ?ku ?_)
       (case zlen => omega)
       (case zn0 => omega)
       (case zn1 => omega)
       (case k1 => k_asm)
       (case k2 => k_dflt k_asm)
       (case k3 => k_asm)
       (case k5 => k_asm)
       (case kr => (refine List.forall_mem_cons.mpr ⟨?_, List.forall_mem_cons.mpr ⟨?_, List.forall_mem_cons.mpr ⟨?_, List.forall_mem_cons.mpr ⟨?_, hoP⟩⟩⟩⟩ <;> (refine neN ?_; dsimp only; omega)))
       (case kl => (refine neN ?_; omega))
       (case kK => exact rfl)
       (case kd => ktr_room)
       (case ku => ktr_units)
       intro Xxs Cxs Yxs txs h' tk' hTxs F' N'
       obtain ⟨exs, hexs, exs0, exs1, bexs⟩ := ex8 hn1 hn2 hk2 hl9 hmx hdg
       rw [hexs]
       have aexs : Abs exs := .mk
       have hlxs9 := hl9
       have hbxs9 := hb9
       clear hl9 hb9
       (try dsimp only)
       (try k_fold))
    | ((with_reducible show wpAny _ _ (call (Value.ref 35) [Value.ref Dy, _] _) _ _ _)
       (rename News _ _ _ _ => lN')
       (have hl9 : ((yd.length : Nat) : Int) = k := (by omega))
       (have hb9 := b8 hn1 hn2 hmy hdg)
       (have lN8 := perm8y lN'; clear lN')
       k_dflt (refine' dig_c (c := 0) (Bd := 2401) _ _ _ _ hIy ?zlen ?zn0 (fun x hx => (hb9 x hx).2) (nl8 hn1 hn2 hk2 hl9 (by decide)) ?zn1 ?k1 ?k2 ?k3 lN8 ?k5 hCD ?kr ?kl hTxs.toS ?kK ?kd ?ku ?_)
       (case zlen => omega)
       (case zn0 => omega)
       (case zn1 => omega)
       (case k1 => k_asm)
       (case k2 => k_dflt k_asm)
       (case k3 => k_asm)
       (case k5 => k_asm)
       (case kr => (refine List.forall_mem_cons.mpr ⟨?_, List.forall_mem_cons.mpr ⟨?_, List.forall_mem_cons.mpr ⟨?_, List.forall_mem_cons.mpr ⟨?_, hoP⟩⟩⟩⟩ <;> (refine neN ?_; dsimp only; omega)))
       (case kl => (refine neN ?_; omega))
       (case kK => exact rfl)
       (case kd => ktr_room)
       (case ku => ktr_units)
       intro Xyd Cyd Yyd tyd h' tk' hTyd F' N'
       obtain ⟨eyd, heyd, eyd0, eyd1, beyd⟩ := ex8 hn1 hn2 hk2 hl9 hmy hdg
       rw [heyd]
       have aeyd : Abs eyd := .mk
       have hlyd9 := hl9
       have hbyd9 := hb9
       clear hl9 hb9
       (try dsimp only)
       (try k_fold))
    | ((with_reducible show wpAny _ _ (call (Value.ref 21) [Value.int product _, _, _] _) _ _ _)
       (have hsg := sg8 kLt2)
       (have hpx := pow8 hn1 hk1 hlxs9)
       (have hpy := pow8 hn1 hk1 hlyd9)
       (have hpre := pre8 (B := zp) hprod exs0 (by rw [hzp, hpx.1]; exact exs1) eyd0 (by rw [hzp, hpy.1]; exact eyd1) (by rw [hzp]; exact hpx.2) hsg hb)
       (obtain ⟨q, r, hq, hr, hP2⟩ : ∃ q r, q = product / b ∧ r = product % b ∧ Pre2 product b (intBits b) q r := ⟨_, _, rfl, rfl, hpre.1⟩)
       have aq : Abs q := .mk
       have ar : Abs r := .mk
       have bq := hP2.bq (N := 20000) (by omega)
       have br := hP2.br (N := 20000) (by omega)
       k_dflt (refine' pair_use ?k1 ?k2 ?k3 ?k4 ?k5 ?kK (use2 hP2 ?kn) ?kd ?ku ?_)
       (case k1 => k_asm)
       (case k2 => k_dflt k_asm)
       (case k3 => k_asm)
       (case k4 => k_asm)
       (case k5 => k_asm)
       (case kK => exact rfl)
       (case kd => ktr_room)
       (case ku => ktr_units)
       (case kn => omega)
       intro Dq y1 y2 c' h' tk' F' N' lDq
       (have hDqP : @Ne Nat 30 Dq := (by k_dflt (exact Nat.ne_of_lt (alt_hd (p := (30, X5)) lDq))))
       (try dsimp only)
       (try k_fold))
    | ((with_reducible show wpAny _ _ (call (Value.ref 40) [Value.ref Dx, _, _] _) _ _ _)
       (have hcg : Cg b ((2 ^ n.toNat) ^ xs.length) sg := (by rw [← (pow8 hn1 hk1 hlxs9).1, ← hzp]; exact cg8 hb))
       k_dflt (refine' wrapped_c (c1 := 0) (c2 := 0) _ _ _ _ hIx hIy ?q1 ?q2 ?q3 hbxs9 hbyd9 (sg8 kLt2) hcg ?k1 ?k2 ?k3 ?k4 ?m1 ?m2 ?k5 ?kK ?kd ?ku ?_)
       (case q1 => omega)
       (case q2 => omega)
       (case q3 => omega)
       (case k1 => k_asm)
       (case k2 => k_dflt k_asm)
       (case k3 => k_asm)
       (case k4 => k_asm)
       (case k5 => k_asm)
       (case kK => exact rfl)
       (case kd => ktr_room)
       (case ku => ktr_units)
       (case m1 => k_dflt (refine List.Mem.tail _ (List.mem_append_left _ ?_); repeat' (first | exact List.Mem.head _ | refine List.Mem.tail _ ?_)))
       (case m2 => k_dflt (refine List.Mem.tail _ (List.mem_append_left _ ?_); repeat' (first | exact List.Mem.head _ | refine List.Mem.tail _ ?_)))
       intro Dw wsw ws cw h' tk' hcw hlw hbw hIw F' N' hDw
       (try dsimp only)
       (try k_fold))
    | ((with_reducible show wpAny _ _ (call (Value.ref 35) [Value.ref Dw, _] _) _ _ _)
       (rename News _ _ _ _ => lN')
       (have hl9 : ((ws.length : Nat) : Int) = k := (by omega))
       (simp only [List.cons_append] at lN')
       (have lN8 := permw lN'; clear lN')
       (have hb1 := hpre.2.2); (have hoP2 : ∀ p ∈ kOwn2, p.1 ≠ 30 := offhd kOff2)
       (have hDwP : @Ne Nat 30 Dw := hDw (30, X5) (by k_dflt (exact .tail _ (.head _))))
       k_dflt (refine' dig_c (c := cw) (Bd := 4810) _ _ _ _ hIw ?zlen ?zn0 hbw (nl8 hn1 hn2 hk2 hl9 (by decide)) ?zn1 ?k1 ?k2 ?k3 lN8 ?k5 hCD ?kr ?kl hT5.toS ?kK ?kd ?ku ?_)
       (case zlen => omega)
       (case zn0 => omega)
       (case zn1 => omega)
       (case k1 => k_asm)
       (case k2 => k_dflt k_asm)
       (case k3 => k_asm)
       (case k5 => k_asm)
       (case kK => exact rfl)
       (case kd => ktr_room)
       (case ku => ktr_units)
       (case kr => (refine List.forall_mem_cons.mpr ⟨?_, List.forall_mem_cons.mpr ⟨?_, List.forall_mem_cons.mpr ⟨?_, List.forall_mem_cons.mpr ⟨?_, List.forall_mem_cons.mpr ⟨?_, List.forall_mem_cons.mpr ⟨?_, List.forall_mem_cons.mpr ⟨?_, fun p hp => (List.mem_append.mp hp).elim (hoP p) (hoP2 p)⟩⟩⟩⟩⟩⟩⟩ <;> (refine neN ?_; dsimp only; omega)))
       (case kl => (refine neN ?_; omega))
       intro X6 C6 Y6 t6 h' tk' hT6 F' N'
       obtain ⟨ew, hew⟩ : ∃ e, evalD (2 ^ n.toNat) ws = e := ⟨_, rfl⟩
       rw [hew]
       have aew : Abs ew := .mk
       (try dsimp only)
       (try k_fold)))
  k_with "introP" => (intro zp ap hzp pzp bzp)
  k_with "introM" => (first
    | ((have := hT6); intro m8 am8 hm8 lom8 him8 bm8; (have hX8 : product = evalD (2 ^ n.toNat) xs * evalD (2 ^ n.toNat) yd := (by rw [hexs, heyd]; exact hprod)); (have hfin := fin8 (X := product) (q := q) (r := r) (w := 0) (m := m8) (z := ew) (P := 2 ^ n.toNat) (ms := ws) (xs := xs) (ys := yd) hq hr hcw hX8 hb1 hew.symm hm8))
    | (intro zm am hzm lom him bzm))
  k_with "ne" => (first
    | (refine ne_f ?ka ?_; (case ka => exact hfin.1))
    | (refine ne_f ?ka ?_; (case ka => exact hfin.2)))
  k_with "endG" => (first
    | ((have := hTurn)
       (rename News _ _ _ _ => nE')
       (rename Fr _ _ _ _ => fE')
       (apply kx_end (X6, C6, Y6))
       (case F => k_dflt (exact fE'))
       (case N => k_dflt (exact nE'))
       (case hn => k_dflt (exact hn8))
       (case ho => k_dflt (exact ho8))
       (case ha => k_dflt (exact oo8 kOff2 fun p hp => hT6.toS.offI nE' (.tail _ (.head _)) (ho8 p hp) (kIo2 p hp) (hoP2 p hp)))
       (case hf => exact hT6)
       (case hk => exact List.forall_mem_nil _)
       (case hr => kst_same)
       (case hp => exact True.intro))
    | ((have := hIn)
       (rename News _ _ _ _ => nE')
       (rename Fr _ _ _ _ => fE')
       (apply kx_end (X5, [(C5, Y5)]))
       (case F => k_dflt (exact fE'))
       (case N => k_dflt (exact nE'))
       (case hn => k_dflt (exact hn8o))
       (case ho => k_dflt (exact ho8o))
       (case ha => k_dflt (exact oo8o hoP (fun p hp => hT5.toS.offI nE' (.tail _ (.head _)) (ho8o p hp) (kIo p hp) (hoP p hp)) hoD hoN))
       (case hf => k_dflt (exact .inr ⟨C5, Y5, rfl, hT5⟩))
       (case hk => exact List.forall_mem_nil _)
       (case hr => kst_same)
       (case hp => exact True.intro)))
  k_with "introS" => (intro zs as hzs bzs)
  k_with "pos" => (first | exact Int.lt_of_lt_of_le (by decide) hb1 | omega)
  k_go0
  (all_goals try k_fold)
  (rename Top topProg _ _ _ _ _ => zT')
  have zT0 := top0_of (by assumption) (by assumption) (by decide +kernel) zT'
  clear zT'
  have hCD : CodeHd _ 34 30 := (by assumption)
  k_steps)
end Mine
theorem PySem.Challenge.cw_dn0134_08_holds : PySem.Challenge.rw_dn0134_08.Holds :=
  Mine.X
