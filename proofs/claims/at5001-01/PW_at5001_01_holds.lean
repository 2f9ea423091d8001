import PyProof.Rows.All
import Wide.All
import OpenK.AllK
import Wide.FinOn
import PySem.Challenge.RW_at5001_01
set_option Elab.async false

section
open PySem PySem.W PyProof.Rows
set_option Elab.async false
set_option maxRecDepth 100000
set_option maxHeartbeats 8000000
namespace Mine
open_top hd for PySem.Challenge.rw_at5001_01
end Mine
end
section
namespace Mine

theorem fmod_np (a : Int) {b : Int} (h : b < 0) : a.fmod b ≤ 0 := by
  have h1 := Int.neg_fmod_neg (-a) (-b)
  have h2 := Int.fmod_nonneg_of_pos (-a) (show 0 < -b by omega)
  rw [Int.neg_neg, Int.neg_neg] at h1
  omega
theorem fmod_gt (a : Int) {b : Int} (h : b < 0) : b < a.fmod b := by
  have h1 := Int.neg_fmod_neg (-a) (-b)
  have h2 := Int.fmod_lt_of_pos (-a) (show 0 < -b by omega)
  rw [Int.neg_neg, Int.neg_neg] at h1
  omega

theorem gcd_step (d r : Int) : Int.gcd r (d.fmod r) = Int.gcd d r := by
  rw [Int.fmod_def, Int.gcd_comm d r]
  have := Int.gcd_sub_mul_right_right r d (d.fdiv r)
  rw [Int.mul_comm] at this
  exact this

/-- Euclid's state -/
def Eu (d₀ r₀ d r : Int) : Prop := d ≠ 0 ∧ Int.gcd d r = Int.gcd d₀ r₀ ∧ (0 < d₀ → 0 < d ∧ 0 ≤ r) ∧ (d₀ < 0 → d < 0 ∧ r ≤ 0)

theorem eu_start {u l : Int} (h : l ≠ 0) : Eu l (u.fmod l) l (u.fmod l) := by
  refine ⟨h, rfl, fun h => ⟨h, Int.fmod_nonneg_of_pos _ h⟩, fun h => ⟨h, ?_⟩⟩
  have := fmod_np u h
  exact this

theorem eu_turn {d₀ r₀ d r : Int} (h : Eu d₀ r₀ d r) (hr : r ≠ 0) : Eu d₀ r₀ r (d.fmod r) := by
  obtain ⟨h1, h2, h3, h4⟩ := h
  refine ⟨hr, by rw [gcd_step, h2], fun h => ?_, fun h => ?_⟩
  · have := h3 h
    exact ⟨by omega, Int.fmod_nonneg_of_pos _ (by omega)⟩
  · have := h4 h
    exact ⟨by omega, fmod_np _ (by omega)⟩

theorem eu_less {d r : Int} (hr : r ≠ 0) : (d.fmod r).natAbs < r.natAbs := by
  rcases Int.lt_or_gt_of_ne hr with h | h
  · have h1 := fmod_np d h
    have h2 : r < d.fmod r := fmod_gt d h
    omega
  · have h1 := Int.fmod_nonneg_of_pos d h
    have h2 := Int.fmod_lt_of_pos d h
    omega

theorem eu_end {u l d : Int} (hl : l ≠ 0) (h : Eu l (u.fmod l) d 0) : d = l.sign * (Int.gcd l u : Int) := by
  obtain ⟨h1, h2, h3, h4⟩ := h
  have e : Int.gcd l (u.fmod l) = Int.gcd l u := by rw [gcd_step, Int.gcd_comm]
  rw [e, Int.gcd_zero_right] at h2
  rcases Int.lt_or_gt_of_ne hl with h | h
  · have := h4 h
    rw [Int.sign_eq_neg_one_of_neg h, ← h2]; omega
  · have := h3 h
    rw [Int.sign_eq_one_of_pos h, ← h2]; omega

theorem low_num {u l d : Int} (hl : l ≠ 0) (h : d = l.sign * (Int.gcd l u : Int)) : u.fdiv d = (Rat.divInt u l).num := by
  rw [Rat.num_divInt, h]
  have hd : (Int.gcd l u : Int) ∣ u := Int.gcd_dvd_right ..
  rcases Int.lt_or_gt_of_ne hl with h | h
  · rw [Int.sign_eq_neg_one_of_neg h]
    rw [Int.neg_one_mul, Int.neg_one_mul, Int.fdiv_eq_ediv_of_dvd (by simpa using hd)]
    rw [Int.ediv_neg, Int.neg_ediv_of_dvd hd]
  · rw [Int.sign_eq_one_of_pos h, Int.one_mul, Int.one_mul, Int.fdiv_eq_ediv_of_dvd hd]

theorem low_den {u l d : Int} (hl : l ≠ 0) (h : d = l.sign * (Int.gcd l u : Int)) : l.fdiv d = ((Rat.divInt u l).den : Int) := by
  rw [Rat.den_divInt, if_neg hl, h]
  have hd : (Int.gcd l u : Int) ∣ l := Int.gcd_dvd_left ..
  rcases Int.lt_or_gt_of_ne hl with h | h
  · rw [Int.sign_eq_neg_one_of_neg h]
    rw [Int.neg_one_mul, Int.fdiv_eq_ediv_of_dvd (by simpa using hd), Int.ediv_neg, Int.natCast_ediv]
    rw [← Int.neg_ediv_of_dvd hd]; congr 1; omega
  · rw [Int.sign_eq_one_of_pos h, Int.one_mul, Int.fdiv_eq_ediv_of_dvd hd, Int.natCast_ediv]
    congr 1; omega
theorem eu_small {l r₀ d r : Int} (h : Eu l r₀ d r) (hr : r = 0) (hl : l ≠ 0 ∧ l.natAbs < 1073741824) : d.natAbs < 1073741824 := by
  obtain ⟨hl, hb⟩ := hl
  obtain ⟨h1, h2, h3, h4⟩ := h
  rw [hr, Int.gcd_zero_right] at h2
  have hd : d.natAbs ∣ l.natAbs := by
    rw [h2]
    exact Nat.gcd_dvd_left ..
  have := Nat.le_of_dvd (by omega) hd
  omega
theorem eu_num {u l d r : Int} (h : Eu l (u.fmod l) d r) (hr : r = 0) (hl : l ≠ 0) : u.fdiv d = (Rat.divInt u l).num := by
  rw [hr] at h
  exact low_num hl (eu_end hl h)
theorem eu_den {u l d r : Int} (h : Eu l (u.fmod l) d r) (hr : r = 0) (hl : l ≠ 0) : l.fdiv d = ((Rat.divInt u l).den : Int) := by
  rw [hr] at h
  exact low_den hl (eu_end hl h)
def Bd (r : Rat) : Prop := r.num.natAbs < 32768 ∧ r.den < 32768
theorem Bd.neg {r : Rat} (h : Bd r) : Bd (-r) := by
  unfold Bd at *
  rw [Rat.neg_num, Rat.neg_den, Int.natAbs_neg]
  exact h
theorem Bd.num {r : Rat} (h : Bd r) : -32768 < r.num ∧ r.num < 32768 := by have := h.1; omega
theorem Bd.den {r : Rat} (h₁ : Bd r) : (0 : Int) < r.den ∧ (r.den : Int) < 32768 := by
  have := h₁.2; have := r.den_nz; omega
theorem Bd.int_neg {i : Int} (h : Bd (i : Rat)) : Bd ((-i : Int) : Rat) := by
  rw [Rat.intCast_neg]; exact h.neg
theorem rat_sub_int (r : Rat) (i : Int) : r - (i : Rat) = r + ((-i : Int) : Rat) := by
  rw [Rat.intCast_neg, Rat.sub_eq_add_neg]
theorem rat_int_sub (r : Rat) (i : Int) : (i : Rat) - r = -r + (i : Rat) := by
  rw [Rat.sub_eq_add_neg, Rat.add_comm]
theorem den_ne (r : Rat) : (r.den : Int) ≠ 0 := by have := r.den_nz; omega
theorem den_mul_ne (r q : Rat) : (r.den : Int) * (q.den : Int) ≠ 0 := Int.mul_ne_zero (den_ne r) (den_ne q)
theorem natAbs_mul_lt {a b : Int} {m n k : Nat} (ha : a.natAbs < m) (hb : b.natAbs < n) (hk : m * n ≤ k) : (a * b).natAbs < k := by
  rw [Int.natAbs_mul]
  exact Nat.lt_of_lt_of_le (Nat.mul_lt_mul'' ha hb) hk
theorem den_mul_lt {r q : Rat} (h : Bd r) (h' : Bd q) : ((r.den : Int) * (q.den : Int)).natAbs < 1073741824 :=
  natAbs_mul_lt (m := 32768) (n := 32768) (by have := h.2; omega) (by have := h'.2; omega) (by decide)
theorem num_den_lt {r q : Rat} (h : Bd r) (h' : Bd q) : (r.num * (q.den : Int)).natAbs < 1073741824 :=
  natAbs_mul_lt (m := 32768) (n := 32768) (by have := h.1; omega) (by have := h'.2; omega) (by decide)
theorem rat_add_eq (p q : Rat) : Rat.divInt (p.num * q.den + q.num * p.den) (p.den * q.den) = p + q := by
  conv => rhs; rw [← Rat.num_divInt_den p, ← Rat.num_divInt_den q, Rat.divInt_add_divInt _ _ (den_ne p) (den_ne q)]
theorem rat_mul_eq (p q : Rat) : Rat.divInt (p.num * q.num) (p.den * q.den) = p * q := by
  conv => rhs; rw [← Rat.num_divInt_den p, ← Rat.num_divInt_den q, Rat.divInt_mul_divInt]
theorem rat_neg_eq (p : Rat) : Rat.divInt (-p.num) p.den = -p := by
  conv => rhs; rw [← Rat.num_divInt_den p, Rat.neg_divInt]
theorem rat_int_div (u l : Int) : (u : Rat) / (l : Rat) = Rat.divInt u l := (Rat.divInt_eq_div u l).symm
theorem rat_div_eq (p q : Rat) : Rat.divInt (p.num * q.den) (q.num * p.den) = p / q := by
  rw [Rat.div_def]
  conv => rhs; rw [← Rat.num_divInt_den p, ← Rat.num_divInt_den q, Rat.inv_divInt, Rat.divInt_mul_divInt]
  rw [Int.mul_comm (p.den : Int)]
/-- the law's own Euclid -/
def Co (a₀ b₀ a b : Int) : Prop := Int.gcd a b = Int.gcd a₀ b₀
theorem co_start {a b : Int} : Co a b a b := rfl
theorem co_turn {a₀ b₀ a b : Int} (h : Co a₀ b₀ a b) : Co a₀ b₀ b (a.fmod b) := (gcd_step a b).trans h
theorem natAbs_if (u : Int) : (if u < 0 then -u else u).natAbs = u.natAbs := by split <;> omega
theorem abs_if (u : Int) : 0 ≤ (if u < 0 then -u else u) := by split <;> omega
theorem co_end {u l a b : Int} (h : Co (if u < 0 then -u else u) (if l < 0 then -l else l) a b) (h1 : 0 ≤ a) (h2 : 0 ≤ b) (h3 : ¬ 0 < b) : a = (Int.gcd u l : Int) := by
  have e : b = 0 := by omega
  unfold Co at h
  rw [e, Int.gcd_zero_right] at h
  have e2 : Int.gcd (if u < 0 then -u else u) (if l < 0 then -l else l) = Int.gcd u l := by
    unfold Int.gcd
    rw [natAbs_if, natAbs_if]
  rw [e2] at h
  omega
/-- the law's own divisor -/
def By (u l b : Int) : Prop := b = l.sign * (Int.gcd l u : Int)
theorem gcd_max (u l : Int) (hl : l ≠ 0) : (if 1 > (Int.gcd u l : Int) then 1 else (Int.gcd u l : Int)) = (Int.gcd l u : Int) := by
  have h : Int.gcd u l ≠ 0 := fun h => hl (Int.gcd_eq_zero_iff.mp h).2
  rw [Int.gcd_comm l u]
  split <;> omega
theorem by_pos {u l : Int} (h : 0 < l) : By u l ((if 1 > (Int.gcd u l : Int) then 1 else (Int.gcd u l : Int)) * 1) := by
  unfold By
  rw [gcd_max u l (by omega), Int.sign_eq_one_of_pos h]; omega
theorem by_neg {u l : Int} (hl : l ≠ 0) (h : ¬ 0 < l) : By u l ((if 1 > (Int.gcd u l : Int) then 1 else (Int.gcd u l : Int)) * -1) := by
  unfold By
  rw [gcd_max u l hl, Int.sign_eq_neg_one_of_neg (by omega)]; omega
theorem By.natAbs {u l b : Int} (h : By u l b) (hl : l ≠ 0) : b.natAbs = Int.gcd l u := by
  rw [h, Int.natAbs_mul, Int.natAbs_sign_of_ne_zero hl, Nat.one_mul]; rfl
theorem By.ne {u l b : Int} (h : By u l b) (hl : l ≠ 0) : b ≠ 0 := by
  have h1 := h.natAbs hl
  have h2 : Int.gcd l u ≠ 0 := fun h => hl (Int.gcd_eq_zero_iff.mp h).1
  omega
theorem By.small {u l b : Int} (h : By u l b) (hl : l ≠ 0) (hb : l.natAbs < 1073741824) : b.natAbs < 1073741824 := by
  rw [h.natAbs hl]
  have hd : Int.gcd l u ∣ l.natAbs := Nat.gcd_dvd_left ..
  have := Nat.le_of_dvd (by omega) hd
  omega
theorem By.num {u l b : Int} (h : By u l b) (hl : l ≠ 0) : u.fdiv b = (Rat.divInt u l).num := low_num hl h
theorem By.den {u l b : Int} (h : By u l b) (hl : l ≠ 0) : l.fdiv b = ((Rat.divInt u l).den : Int) := low_den hl h
theorem Bd.divInt {u l : Int} (hu : u.natAbs < 32768) (hl : l ≠ 0) (hl' : l.natAbs < 32768) : Bd (Rat.divInt u l) := by
  have e : By u l (l.sign * (Int.gcd l u : Int)) := rfl
  refine ⟨?_, ?_⟩
  · rw [← e.num hl]
    have h1 : (l.sign * (Int.gcd l u : Int)) ∣ u := by
      rcases Int.lt_or_gt_of_ne hl with h | h
      · rw [Int.sign_eq_neg_one_of_neg h, Int.neg_one_mul]; exact Int.neg_dvd.mpr (Int.gcd_dvd_right ..)
      · rw [Int.sign_eq_one_of_pos h, Int.one_mul]; exact Int.gcd_dvd_right ..
    rw [Int.fdiv_eq_ediv_of_dvd h1, Int.natAbs_ediv_of_dvd h1]
    exact Nat.lt_of_le_of_lt (Nat.div_le_self _ _) hu
  · rw [Rat.den_divInt, if_neg hl]
    exact Nat.lt_of_le_of_lt (Nat.div_le_self _ _) hl'
theorem two_add {p q : Rat} {a b c d : Int} (hp : p = Rat.divInt a b) (hq : q = Rat.divInt c d) (hb : b ≠ 0) (hd : d ≠ 0) : p + q = Rat.divInt (a * d + c * b) (b * d) := by
  rw [hp, hq, Rat.divInt_add_divInt _ _ hb hd]
theorem two_sub {p q : Rat} {a b c d : Int} (hp : p = Rat.divInt a b) (hq : q = Rat.divInt c d) (hb : b ≠ 0) (hd : d ≠ 0) : p - q = Rat.divInt (a * d - c * b) (b * d) := by
  rw [hp, hq, Rat.divInt_sub_divInt _ _ hb hd]
theorem two_mul {p q : Rat} {a b c d : Int} (hp : p = Rat.divInt a b) (hq : q = Rat.divInt c d) : p * q = Rat.divInt (a * c) (b * d) := by
  rw [hp, hq, Rat.divInt_mul_divInt]
theorem two_div {p q : Rat} {a b c d : Int} (hp : p = Rat.divInt a b) (hq : q = Rat.divInt c d) : p / q = Rat.divInt (a * d) (b * c) := by
  rw [hp, hq, Rat.div_def, Rat.inv_divInt, Rat.divInt_mul_divInt]
theorem divInt_ne {c d : Int} (hd : d ≠ 0) (hc : c ≠ 0) : Rat.divInt c d ≠ 0 := fun h => by
  rw [← Rat.zero_divInt 1, Rat.divInt_eq_divInt_iff hd (by decide)] at h
  omega
theorem two_ne {q : Rat} {c d : Int} (hq : q = Rat.divInt c d) (hd : d ≠ 0) (hc : c ≠ 0) : q ≠ 0 := by
  rw [hq]; exact divInt_ne hd hc
theorem two_div_bd {p q : Rat} {a b c d : Int} (hp : p = Rat.divInt a b) (hq : q = Rat.divInt c d) (hb : 0 < b ∧ b ≤ 12) (hd : 0 < d ∧ d ≤ 12) (ha : -20 ≤ a ∧ a ≤ 20) (hc : -20 ≤ c ∧ c ≤ 20) (hcn : c ≠ 0) : Bd (p / q) := by
  rw [two_div hp hq]
  exact Bd.divInt (natAbs_mul_lt (m := 128) (n := 128) (by omega) (by omega) (by decide)) (Int.mul_ne_zero (by omega) hcn) (natAbs_mul_lt (m := 128) (n := 128) (by omega) (by omega) (by decide))
theorem cross {p : Rat} {a b : Int} (hp : p = Rat.divInt a b) (hb : b ≠ 0) : p.num * b = a * p.den := by
  have h := hp
  rw [← Rat.num_divInt_den p] at h
  exact (Rat.divInt_eq_divInt_iff (den_ne p) hb).mp h
theorem two_key {p q : Rat} {a b c d : Int} (hp : p = Rat.divInt a b) (hq : q = Rat.divInt c d) (hb : 0 < b) (hd : 0 < d) :
    (a * d) * ((p.den : Int) * q.den) = (p.num * q.den) * (b * d) ∧ (c * b) * ((p.den : Int) * q.den) = (q.num * p.den) * (b * d) := by
  have h1 := cross hp (by omega)
  have h2 := cross hq (by omega)
  refine ⟨?_, ?_⟩
  · calc (a * d) * ((p.den : Int) * q.den) = (a * p.den) * (d * q.den) := by simp only [Int.mul_assoc, Int.mul_left_comm, Int.mul_comm]
      _ = (p.num * b) * (d * q.den) := by rw [h1]
      _ = _ := by simp only [Int.mul_assoc, Int.mul_left_comm, Int.mul_comm]
  · calc (c * b) * ((p.den : Int) * q.den) = (c * q.den) * (b * p.den) := by simp only [Int.mul_assoc, Int.mul_left_comm, Int.mul_comm]
      _ = (q.num * d) * (b * p.den) := by rw [h2]
      _ = _ := by simp only [Int.mul_assoc, Int.mul_left_comm, Int.mul_comm]
theorem den_pos (p : Rat) : (0 : Int) < p.den := by have := p.den_nz; omega
theorem two_lt {p q : Rat} {a b c d : Int} (hp : p = Rat.divInt a b) (hq : q = Rat.divInt c d) (hb : 0 < b) (hd : 0 < d) : p < q ↔ a * d < c * b := by
  obtain ⟨h1, h2⟩ := two_key hp hq hb hd
  have k1 : (0 : Int) < (p.den : Int) * q.den := Int.mul_pos (den_pos p) (den_pos q)
  have k2 : (0 : Int) < b * d := Int.mul_pos hb hd
  rw [Rat.lt_iff, ← Int.mul_lt_mul_right k2, ← h1, ← h2, Int.mul_lt_mul_right k1]
theorem two_le {p q : Rat} {a b c d : Int} (hp : p = Rat.divInt a b) (hq : q = Rat.divInt c d) (hb : 0 < b) (hd : 0 < d) : p ≤ q ↔ a * d ≤ c * b := by
  obtain ⟨h1, h2⟩ := two_key hp hq hb hd
  have k1 : (0 : Int) < (p.den : Int) * q.den := Int.mul_pos (den_pos p) (den_pos q)
  have k2 : (0 : Int) < b * d := Int.mul_pos hb hd
  rw [Rat.le_iff, ← Int.mul_le_mul_right k2, ← h1, ← h2, Int.mul_le_mul_right k1]
theorem two_eq {p q : Rat} {a b c d : Int} (hp : p = Rat.divInt a b) (hq : q = Rat.divInt c d) (hb : 0 < b) (hd : 0 < d) : p = q ↔ a * d = c * b := by
  rw [hp, hq]
  exact Rat.divInt_eq_divInt_iff (by omega) (by omega)
theorem is_lt {p q : Rat} {x y : Int} (h : p < q ↔ x < y) : (decide (p < q) == decide (x < y)) = true := by
  rw [beq_iff_eq, decide_eq_decide]; exact h
theorem is_le {p q : Rat} {x y : Int} (h : p ≤ q ↔ x ≤ y) : (decide (p ≤ q) == decide (x ≤ y)) = true := by
  rw [beq_iff_eq, decide_eq_decide]; exact h
theorem is_gt {p q : Rat} {x y : Int} (h : p ≤ q ↔ x ≤ y) : ((!decide (p ≤ q)) == decide (y < x)) = true := by
  rw [beq_iff_eq, ← decide_not, decide_eq_decide, h]; omega
theorem is_ge {p q : Rat} {x y : Int} (h : p < q ↔ x < y) : ((!decide (p < q)) == decide (y ≤ x)) = true := by
  rw [beq_iff_eq, ← decide_not, decide_eq_decide, h]; omega
theorem is_eq {p q : Rat} {x y : Int} (h : p = q ↔ x = y) : (decide (p = q) == (x == y)) = true := by
  rw [beq_iff_eq, Bool.eq_iff_iff, decide_eq_true_iff, beq_iff_eq]; exact h
theorem is_ne {p q : Rat} {x y : Int} (h : p = q ↔ x = y) : ((!decide (p = q)) == (x != y)) = true := by
  rw [beq_iff_eq, bne, Bool.not_inj_iff, Bool.eq_iff_iff, decide_eq_true_iff, beq_iff_eq]; exact h
end Mine
end
section
namespace Mine
theorem int_divInt (n : Int) : (n : Rat) = Rat.divInt n 1 := by
  have h := Rat.num_divInt_den (n : Rat)
  rw [Rat.num_intCast, Rat.den_intCast] at h
  exact h.symm
section
variable {p : Rat} {a b n : Int} (hp : p = Rat.divInt a b)
include hp
theorem w_add (hb : b ≠ 0) : p + (n : Rat) = Rat.divInt (a + n * b) b := by
  rw [two_add hp (int_divInt n) hb (by decide), Int.mul_one, Int.mul_one]
theorem w_radd (hb : b ≠ 0) : (n : Rat) + p = Rat.divInt (a + n * b) b := by
  rw [Rat.add_comm, w_add hp hb]
theorem w_sub (hb : b ≠ 0) : p - (n : Rat) = Rat.divInt (a - n * b) b := by
  rw [two_sub hp (int_divInt n) hb (by decide), Int.mul_one, Int.mul_one]
theorem w_rsub (hb : b ≠ 0) : (n : Rat) - p = Rat.divInt (n * b - a) b := by
  rw [two_sub (int_divInt n) hp (by decide) hb, Int.mul_one, Int.one_mul]
theorem w_mul : p * (n : Rat) = Rat.divInt (a * n) b := by
  rw [two_mul hp (int_divInt n), Int.mul_one]
theorem w_rmul : (n : Rat) * p = Rat.divInt (a * n) b := by
  rw [Rat.mul_comm, w_mul hp]
theorem w_div : p / (n : Rat) = Rat.divInt a (b * n) := by
  rw [two_div hp (int_divInt n), Int.mul_one]
theorem w_rdiv : (n : Rat) / p = Rat.divInt (n * b) a := by
  rw [two_div (int_divInt n) hp, Int.one_mul]
theorem w_lt (hb : 0 < b) : p < (n : Rat) ↔ a < n * b := by
  have := two_lt hp (int_divInt n) hb (by decide)
  rwa [Int.mul_one] at this
theorem w_le (hb : 0 < b) : p ≤ (n : Rat) ↔ a ≤ n * b := by
  have := two_le hp (int_divInt n) hb (by decide)
  rwa [Int.mul_one] at this
theorem w_eq (hb : 0 < b) : p = (n : Rat) ↔ a = n * b := by
  have := two_eq hp (int_divInt n) hb (by decide)
  rwa [Int.mul_one] at this
theorem ite_a {A B : Prop} (hb : b ≠ 0) (h1 : a ≠ 0 → p ≠ 0 → A) (h2 : a = 0 → p = 0 → B) : if (a != 0) = true then A else B := by
  by_cases h : a = 0
  · rw [if_neg (by simp [h])]
    exact h2 h (by rw [hp, h]; exact Rat.zero_divInt b)
  · rw [if_pos (by simp [h])]
    exact h1 h (two_ne hp hb h)
end
theorem bd_int {n : Int} (h : n.natAbs < 32768) : Bd (n : Rat) := ⟨by rw [Rat.num_intCast]; exact h, by rw [Rat.den_intCast]; decide⟩
end Mine
end
section
open PySem PySem.W PySem.Spec PySem.Calls PyProof.Rows
set_option maxRecDepth 100000
set_option maxHeartbeats 8000000
set_option Elab.async false
namespace Mine
abbrev Led := List (Addr × Obj)

def Does (w : World) (t : Sem Value) (d : Nat) (news : Led) (R : (Value → Led → Prop) → Prop) : Prop :=
  ∀ (p : Program) (loose : List Str) (mean : ExcName → Option Value) (mg mb : Str → Option Value) (dp un : Nat) (gd : Option (List Code)) (cn : Str) (cs : Scope) (a : Addr) (ccd : Value) (cl : List (Str × Addr)) (outer : List Env) (A₀ : Around) (base h₀ : Heap) (L : Addr) (m : Str → Option Value) (s : Shared) (Q E : Value → Shared → Prop),
    Below A₀ base outer h₀ → Fr h₀ L s.heap m → (Mine.hd.heap_39 w.params).In h₀ → News h₀ L s.heap news → Top p loose mean mg mb h₀ → cs.kind = .function → dp + d < recursionLimit → un + 10 * d + 100 < cLine →
    R (fun v led => ∀ (h' : Heap) (tk' : Nat), Fr h₀ L h' m → News h₀ L h' led → Q v { s with heap := h', toks := tk' }) →
    wpAny (model PySem.Challenge.rw_at5001_01.row.prog w) (ktrTop dp un gd cn cs L a ccd cl outer) t Q E s

theorem does_use {w : World} {t : Sem Value} {d : Nat} {news : Led} {R : (Value → Led → Prop) → Prop} (H : Does w t d news R)
    {p : Program} {loose : List Str} {mean : ExcName → Option Value} {mg mb : Str → Option Value} {dp un : Nat} {gd : Option (List Code)} {cn : Str} {cs : Scope} {a : Addr} {ccd : Value} {cl : List (Str × Addr)} {outer : List Env} {A₀ : Around} {base h₀ : Heap} {L : Addr} {m : Str → Option Value} {s : Shared} {Q E : Value → Shared → Prop}
    (B : Below A₀ base outer h₀) (F : Fr h₀ L s.heap m) (X : (Mine.hd.heap_39 w.params).In h₀) (N : News h₀ L s.heap news) (T : Top p loose mean mg mb h₀) (hk : cs.kind = .function) (hd : dp + d < recursionLimit) (hu : un + 10 * d + 100 < cLine)
    (r : R (fun v led => ∀ (h' : Heap) (tk' : Nat), Fr h₀ L h' m → News h₀ L h' led → Q v { s with heap := h', toks := tk' })) :
    wpAny (model PySem.Challenge.rw_at5001_01.row.prog w) (ktrTop dp un gd cn cs L a ccd cl outer) t Q E s :=
  H _ _ _ _ _ _ _ _ _ _ _ _ _ _ _ _ _ _ _ _ _ _ B F X N T hk hd hu r

/-- what comes back is a plain value, the ledger as it stood -/
abbrev RV (P : Value → Prop) (news : Led) (J : Value → Led → Prop) : Prop := ∀ v, P v → J v news
abbrev RB (b : Bool) (news : Led) (J : Value → Led → Prop) : Prop := J (.bool b) news
/-- a new object -/
abbrev RO (P : Obj → Prop) (news : Led) (J : Value → Led → Prop) : Prop := ∀ a o, (∀ q ∈ news, q.1 < a) → P o → J (.ref a) ((a, o) :: news)
abbrev tup2 (i j : Int) (t u : Tok) (n : Nat) : Obj := ⟨.type "tuple", none, .seq #[.int i t, .int j u] n, #[]⟩
end Mine
end
section
open PySem PySem.W PySem.Spec PySem.Calls PyProof.Rows
set_option maxRecDepth 100000
set_option maxHeartbeats 8000000
set_option Elab.async false
namespace Mine
abbrev fdict (w : World) (p q : Int) (t1 t2 t3 t4 : Tok) (n : Nat) : Obj :=
  dictOf [⟨PyData.keyHash w.params (Str.ofString "numerator"), .str (Str.ofString "numerator") t1, .int p t2⟩, ⟨PyData.keyHash w.params (Str.ofString "denominator"), .str (Str.ofString "denominator") t3, .int q t4⟩] n
inductive NumAt (w : World) (news : Led) : Value → Rat → Prop
  | int (i : Int) (t : Tok) : NumAt w news (.int i t) (i : Rat)
  | frac {x dx : Addr} {r : Rat} {t1 t2 t3 t4 : Tok} {n : Nat} : (x, instObj 165 dx) ∈ news → (dx, fdict w r.num r.den t1 t2 t3 t4 n) ∈ news → NumAt w news (.ref x) r
theorem NumAt.cons {w : World} {news : Led} {e : Addr × Obj} {v : Value} {r : Rat} (h : NumAt w news v r) : NumAt w (e :: news) v r := by
  cases h with
  | int i t => exact .int i t
  | frac h1 h2 => exact .frac (.tail _ h1) (.tail _ h2)
/-- a new fraction -/
abbrev RF (w : World) (r : Rat) (news : Led) (J : Value → Led → Prop) : Prop :=
  ∀ (x dx : Addr) (t1 t2 t3 t4 : Tok) (n : Nat), (∀ q ∈ news, q.1 < dx) → dx < x → J (.ref x) ((x, instObj 165 dx) :: (dx, fdict w r.num r.den t1 t2 t3 t4 n) :: news)
theorem tup2_eq {prog : Program} {w : World} {A : Around} {E : Value → Shared → Prop} {s : Shared} {h₀ : Heap} {L : Addr} {news : Led} {a b : Addr} {i j i' j' : Int} {t u t' u' : Tok} {n n' : Nat} {Q : Value → Shared → Prop}
    (N : News h₀ L s.heap news) (h1 : (a, tup2 i j t u n) ∈ news) (h2 : (b, tup2 i' j' t' u' n') ∈ news) (hu : A.units + 64 < cLine) (h : Q (.bool (decide (i = i' ∧ j = j'))) s) :
    wpAny (model prog w) A (compareOp .Eq (.ref a) (.ref b)) Q E s := by
  refine eq_dataH (da := .tuple [.int i, .int j]) (db := .tuple [.int i', .int j']) (reads_tuple_at (N.get h1) rfl rfl (.cons (.int _ _) (.cons (.int _ _) .nil))) (reads_tuple_at (N.get h2) rfl rfl (.cons (.int _ _) (.cons (.int _ _) .nil))) rfl rfl hu ?_
  have e : PyData.eqv (.tuple [.int i, .int j]) (.tuple [.int i', .int j']) = decide (i = i' ∧ j = j') := by
    simp only [PyData.eqv, PyData.eqvAll, Bool.and_true]
    by_cases h : i = i' <;> by_cases h' : j = j' <;> simp [h, h']
  rw [e]
  exact h
theorem rat_eq_iff (r q : Rat) : (r = q) ↔ (r.num = q.num ∧ (r.den : Int) = (q.den : Int)) := by
  refine ⟨fun h => by rw [h]; exact ⟨rfl, rfl⟩, fun h => Rat.ext h.1 (by have := h.2; omega)⟩
theorem bd_mul {r q : Rat} (h₁ : Bd r) (h' : Bd q) : IntMulOk r.num q.den := by
  have := h'.den
  exact IntMulOk.of_right (intBits_le_64 (by omega) (by omega))
def NotBack (Q : Value → Shared → Prop) (v : Value) (s' : Shared) : Prop := match v with
  | .bool b => Q (.bool (!b)) s'
  | _ => False
/-- an int -/
abbrev RI (i : Int) (news : Led) (J : Value → Led → Prop) : Prop := ∀ t, J (.int i t) news
end Mine
end
section
open PySem PySem.W PySem.Spec PySem.Calls PyProof.Rows
set_option maxRecDepth 100000
set_option maxHeartbeats 8000000
set_option Elab.async false
namespace Mine
section
variable {prog : Program} {w : World} {A : Around} {E : Value → Shared → Prop} {s : Shared} {K : Frag} {x C L f f0 : Addr} {h₀ : Heap} {m : Str → Option Value} {ox : Obj} {od : Option Obj} {i : Int} {t : Tok} {idl : String}
theorem refl_bin {op : Operator} {Q : Value → Shared → Prop} (F : Fr h₀ L s.heap m) (X₀ : K.In h₀) (I : InstAt s.heap x ox C od) (hc : selfFirst K C = true)
    (hs0 : findIn K (.ref C) (PySem.dunder op.info.2) = some (some (.ref f0))) (hs : findIn K (.ref C) (dunderR op.info.2) = some (some (.ref f))) (hf : isFn K (.ref f) = true)
    (hsub : subIn K (.ref C) (.type "int") = some false) (hfT : fillsNumberSlot (.type "int") op.info.2 = pure true) (hl : Slot "int" (PySem.dunder op.info.2) idl)
    (hcall : ∀ Q' : Value → Shared → Prop, Q' .notImplemented s → wpAny (model prog w) A (call (.builtin idl) [.int i t, .ref x]) Q' E s)
    (h : wpAny (model prog w) A (call (.ref f) [.ref x, .int i t]) (PySem.W.CmpBack Q) E s) : wpAny (model prog w) A (binaryOp op (.int i t) (.ref x)) Q E s := by
  have X := X₀.keeps F.keep
  obtain ⟨cd, rest, hcd, hm⟩ := ksp_first hc
  rcases hi : op.info with ⟨sym, nm⟩
  rw [hi] at hs hs0 hfT hl
  dsimp only at hs hs0 hfT hl
  have one := ksp_try (Q := Q) X I hs hf h
  have hne : (Value.type "int" == Value.ref C) = false := Bool.eq_false_iff.mpr fun q => by cases beq_iff_eq.mp q
  simp only [binaryOp, hi]
  refine wpAny_holding (wpAny_bind ?_)
  unfold binaryOp1
  refine wpAny_bind (wpAny_typeOf (typeIs_int s i t) (wpAny_bind (I.type.here (wpAny_bind (wpAny_of_eq hfT ?_)))))
  simp only [hne, Bool.false_eq_true, if_false]
  refine wpAny_bind ((fills_K X hcd hm hs0).here ?_)
  simp only [Bool.and_self, if_true]
  refine wpAny_bind ((looks_subIn X hsub).here ?_)
  have hpy : numberSlotInPython (.type "int") nm = pure false := rfl
  simp only [Bool.false_eq_true, if_false, pure_bind, Bool.not_false, Bool.and_self, if_true, hpy]
  refine wpAny_bind (wpAny_tryMethod_declines (typeIs_int s i t) hl (hcall _ ⟨rfl, ?_⟩))
  refine wpAny_bind (wpAny_mono one (fun r s' hr => ?_) fun _ _ e => e)
  obtain ⟨v, rfl, hq⟩ := hr
  exact wpAny_bind (wpAny_rule (wpAny_pure (wpAny_pure hq)))
theorem refl_cmp {op : CmpOp} {Q : Value → Shared → Prop} (hu : A.units < cLine) (F : Fr h₀ L s.heap m) (X₀ : K.In h₀) (I : InstAt s.heap x ox C od)
    (hs : findIn K (.ref C) (cmpInfo op).2.2 = some (some (.ref f))) (hf : isFn K (.ref f) = true)
    (hsub : subIn K (.ref C) (.type "int") = some false)  (hl : Slot "int" (cmpInfo op).2.1 idl)
    (hcall : ∀ Q' : Value → Shared → Prop, Q' .notImplemented s → wpAny (model prog w) A (call (.builtin idl) [.int i t, .ref x]) Q' E s)
    (h : wpAny (model prog w) A (call (.ref f) [.ref x, .int i t]) (PySem.W.CmpBack Q) E s) : wpAny (model prog w) A (richCompare op (.int i t) (.ref x)) Q E s := by
  have X := X₀.keeps F.keep
  have one : wpAny (model prog w) A (tryCompare (.ref x) (cmpInfo op).2.2 (.int i t)) (fun r s' => ∃ v, r = some v ∧ Q v s') E s := by
    unfold tryCompare
    refine wpAny_bind (ifBound_K X I hs hf (wpAny_mono h (fun v s' hv => ?_) fun _ _ e => e))
    cases v <;> first | exact hv.elim | exact wpAny_pure ⟨_, rfl, hv⟩
  have hne : (Value.type "int" != Value.ref C) = true := by
    rw [bne_iff_ne]; intro q; cases q
  unfold richCompare
  refine wpAny_holding (wpAny_bind (wpAny_cRoomFor hu ?_))
  have h1 : oneThing? op (Value.int i t) (Value.ref x) = none := by cases op <;> rfl
  simp only [h1]
  refine wpAny_bind (wpAny_typeOf (typeIs_int s i t) (wpAny_bind (I.type.here ?_)))
  simp only [hne, if_true]
  refine wpAny_bind ((looks_subIn X hsub).here ?_)
  simp only [Bool.false_eq_true, if_false, Bool.not_false, if_true]
  refine wpAny_bind (wpAny_tryCompare_declines (typeIs_int s i t) hl (hcall _ ⟨rfl, ?_⟩))
  refine wpAny_bind (wpAny_mono one (fun r s' hr => ?_) fun _ _ e => e)
  obtain ⟨v, rfl, hq⟩ := hr
  exact wpAny_pure hq
end
end Mine
end
section
open PySem PySem.W PySem.Spec PySem.Calls PyProof.Rows
set_option maxRecDepth 100000
set_option maxHeartbeats 8000000
set_option Elab.async false
namespace Mine
theorem decl_add (i : Int) (t : Tok) (x : Addr) (cv : Value) (dv : Option Addr) (sl : Array (Option Value)) :
    Meets (Builtin.«int.__add__» ⟨[.int i t, .ref x], []⟩) (fun _ R s => s.heap.get? x = some { cls := cv, dict := dv, data := .plain, slots := sl } ∧ R (.ok (.ret Value.notImplemented)) s) :=
  .of_wp fun prog w A R s h => by obtain ⟨hp, g, d, tk, os⟩ := s; obtain ⟨hl, h⟩ := h; wp_walk; exact ⟨_, rfl, h⟩
theorem call_add {prog : Program} {w : World} {A : Around} {E : Value → Shared → Prop} {s : Shared} {i : Int} {t : Tok} {x : Addr} {cv : Value} {dv : Option Addr} {sl : Array (Option Value)} (hx : s.heap.get? x = some { cls := cv, dict := dv, data := .plain, slots := sl }) :
    ∀ Q' : Value → Shared → Prop, Q' .notImplemented s → wpAny (model prog w) A (call (.builtin "int.__add__") [.int i t, .ref x]) Q' E s :=
  fun _ h => call_meets F.slot_int_add (typeIs_int s i t) F.entry_int_add (F.args_int_add_2 _ _) (decl_add i t x cv dv sl) ⟨hx, h⟩
theorem decl_sub (i : Int) (t : Tok) (x : Addr) (cv : Value) (dv : Option Addr) (sl : Array (Option Value)) :
    Meets (Builtin.«int.__sub__» ⟨[.int i t, .ref x], []⟩) (fun _ R s => s.heap.get? x = some { cls := cv, dict := dv, data := .plain, slots := sl } ∧ R (.ok (.ret Value.notImplemented)) s) :=
  .of_wp fun prog w A R s h => by obtain ⟨hp, g, d, tk, os⟩ := s; obtain ⟨hl, h⟩ := h; wp_walk; exact ⟨_, rfl, h⟩
theorem call_sub {prog : Program} {w : World} {A : Around} {E : Value → Shared → Prop} {s : Shared} {i : Int} {t : Tok} {x : Addr} {cv : Value} {dv : Option Addr} {sl : Array (Option Value)} (hx : s.heap.get? x = some { cls := cv, dict := dv, data := .plain, slots := sl }) :
    ∀ Q' : Value → Shared → Prop, Q' .notImplemented s → wpAny (model prog w) A (call (.builtin "int.__sub__") [.int i t, .ref x]) Q' E s :=
  fun _ h => call_meets F.slot_int_sub (typeIs_int s i t) F.entry_int_sub (F.args_int_sub_2 _ _) (decl_sub i t x cv dv sl) ⟨hx, h⟩
theorem decl_mul (i : Int) (t : Tok) (x : Addr) (cv : Value) (dv : Option Addr) (sl : Array (Option Value)) :
    Meets (Builtin.«int.__mul__» ⟨[.int i t, .ref x], []⟩) (fun _ R s => s.heap.get? x = some { cls := cv, dict := dv, data := .plain, slots := sl } ∧ R (.ok (.ret Value.notImplemented)) s) :=
  .of_wp fun prog w A R s h => by obtain ⟨hp, g, d, tk, os⟩ := s; obtain ⟨hl, h⟩ := h; wp_walk; exact ⟨_, rfl, h⟩
theorem call_mul {prog : Program} {w : World} {A : Around} {E : Value → Shared → Prop} {s : Shared} {i : Int} {t : Tok} {x : Addr} {cv : Value} {dv : Option Addr} {sl : Array (Option Value)} (hx : s.heap.get? x = some { cls := cv, dict := dv, data := .plain, slots := sl }) :
    ∀ Q' : Value → Shared → Prop, Q' .notImplemented s → wpAny (model prog w) A (call (.builtin "int.__mul__") [.int i t, .ref x]) Q' E s :=
  fun _ h => call_meets F.slot_int_mul (typeIs_int s i t) F.entry_int_mul (F.args_int_mul_2 _ _) (decl_mul i t x cv dv sl) ⟨hx, h⟩
theorem decl_truediv (i : Int) (t : Tok) (x : Addr) (cv : Value) (dv : Option Addr) (sl : Array (Option Value)) :
    Meets (Builtin.«int.__truediv__» ⟨[.int i t, .ref x], []⟩) (fun _ R s => s.heap.get? x = some { cls := cv, dict := dv, data := .plain, slots := sl } ∧ R (.ok (.ret Value.notImplemented)) s) :=
  .of_wp fun prog w A R s h => by obtain ⟨hp, g, d, tk, os⟩ := s; obtain ⟨hl, h⟩ := h; wp_walk; exact ⟨_, rfl, h⟩
theorem call_truediv {prog : Program} {w : World} {A : Around} {E : Value → Shared → Prop} {s : Shared} {i : Int} {t : Tok} {x : Addr} {cv : Value} {dv : Option Addr} {sl : Array (Option Value)} (hx : s.heap.get? x = some { cls := cv, dict := dv, data := .plain, slots := sl }) :
    ∀ Q' : Value → Shared → Prop, Q' .notImplemented s → wpAny (model prog w) A (call (.builtin "int.__truediv__") [.int i t, .ref x]) Q' E s :=
  fun _ h => call_meets F.slot_int_truediv (typeIs_int s i t) F.entry_int_truediv (F.args_int_truediv_2 _ _) (decl_truediv i t x cv dv sl) ⟨hx, h⟩
theorem decl_lt (i : Int) (t : Tok) (x : Addr) (cv : Value) (dv : Option Addr) (sl : Array (Option Value)) :
    Meets (Builtin.«int.__lt__» ⟨[.int i t, .ref x], []⟩) (fun _ R s => s.heap.get? x = some { cls := cv, dict := dv, data := .plain, slots := sl } ∧ R (.ok (.ret Value.notImplemented)) s) :=
  .of_wp fun prog w A R s h => by obtain ⟨hp, g, d, tk, os⟩ := s; obtain ⟨hl, h⟩ := h; wp_walk; exact ⟨_, rfl, h⟩
theorem call_lt {prog : Program} {w : World} {A : Around} {E : Value → Shared → Prop} {s : Shared} {i : Int} {t : Tok} {x : Addr} {cv : Value} {dv : Option Addr} {sl : Array (Option Value)} (hx : s.heap.get? x = some { cls := cv, dict := dv, data := .plain, slots := sl }) :
    ∀ Q' : Value → Shared → Prop, Q' .notImplemented s → wpAny (model prog w) A (call (.builtin "int.__lt__") [.int i t, .ref x]) Q' E s :=
  fun _ h => call_meets F.slot_int_lt (typeIs_int s i t) F.entry_int_lt (F.args_int_lt_2 _ _) (decl_lt i t x cv dv sl) ⟨hx, h⟩
theorem decl_le (i : Int) (t : Tok) (x : Addr) (cv : Value) (dv : Option Addr) (sl : Array (Option Value)) :
    Meets (Builtin.«int.__le__» ⟨[.int i t, .ref x], []⟩) (fun _ R s => s.heap.get? x = some { cls := cv, dict := dv, data := .plain, slots := sl } ∧ R (.ok (.ret Value.notImplemented)) s) :=
  .of_wp fun prog w A R s h => by obtain ⟨hp, g, d, tk, os⟩ := s; obtain ⟨hl, h⟩ := h; wp_walk; exact ⟨_, rfl, h⟩
theorem call_le {prog : Program} {w : World} {A : Around} {E : Value → Shared → Prop} {s : Shared} {i : Int} {t : Tok} {x : Addr} {cv : Value} {dv : Option Addr} {sl : Array (Option Value)} (hx : s.heap.get? x = some { cls := cv, dict := dv, data := .plain, slots := sl }) :
    ∀ Q' : Value → Shared → Prop, Q' .notImplemented s → wpAny (model prog w) A (call (.builtin "int.__le__") [.int i t, .ref x]) Q' E s :=
  fun _ h => call_meets F.slot_int_le (typeIs_int s i t) F.entry_int_le (F.args_int_le_2 _ _) (decl_le i t x cv dv sl) ⟨hx, h⟩
theorem decl_gt (i : Int) (t : Tok) (x : Addr) (cv : Value) (dv : Option Addr) (sl : Array (Option Value)) :
    Meets (Builtin.«int.__gt__» ⟨[.int i t, .ref x], []⟩) (fun _ R s => s.heap.get? x = some { cls := cv, dict := dv, data := .plain, slots := sl } ∧ R (.ok (.ret Value.notImplemented)) s) :=
  .of_wp fun prog w A R s h => by obtain ⟨hp, g, d, tk, os⟩ := s; obtain ⟨hl, h⟩ := h; wp_walk; exact ⟨_, rfl, h⟩
theorem call_gt {prog : Program} {w : World} {A : Around} {E : Value → Shared → Prop} {s : Shared} {i : Int} {t : Tok} {x : Addr} {cv : Value} {dv : Option Addr} {sl : Array (Option Value)} (hx : s.heap.get? x = some { cls := cv, dict := dv, data := .plain, slots := sl }) :
    ∀ Q' : Value → Shared → Prop, Q' .notImplemented s → wpAny (model prog w) A (call (.builtin "int.__gt__") [.int i t, .ref x]) Q' E s :=
  fun _ h => call_meets F.slot_int_gt (typeIs_int s i t) F.entry_int_gt (F.args_int_gt_2 _ _) (decl_gt i t x cv dv sl) ⟨hx, h⟩
theorem decl_ge (i : Int) (t : Tok) (x : Addr) (cv : Value) (dv : Option Addr) (sl : Array (Option Value)) :
    Meets (Builtin.«int.__ge__» ⟨[.int i t, .ref x], []⟩) (fun _ R s => s.heap.get? x = some { cls := cv, dict := dv, data := .plain, slots := sl } ∧ R (.ok (.ret Value.notImplemented)) s) :=
  .of_wp fun prog w A R s h => by obtain ⟨hp, g, d, tk, os⟩ := s; obtain ⟨hl, h⟩ := h; wp_walk; exact ⟨_, rfl, h⟩
theorem call_ge {prog : Program} {w : World} {A : Around} {E : Value → Shared → Prop} {s : Shared} {i : Int} {t : Tok} {x : Addr} {cv : Value} {dv : Option Addr} {sl : Array (Option Value)} (hx : s.heap.get? x = some { cls := cv, dict := dv, data := .plain, slots := sl }) :
    ∀ Q' : Value → Shared → Prop, Q' .notImplemented s → wpAny (model prog w) A (call (.builtin "int.__ge__") [.int i t, .ref x]) Q' E s :=
  fun _ h => call_meets F.slot_int_ge (typeIs_int s i t) F.entry_int_ge (F.args_int_ge_2 _ _) (decl_ge i t x cv dv sl) ⟨hx, h⟩
theorem decl_eq (i : Int) (t : Tok) (x : Addr) (cv : Value) (dv : Option Addr) (sl : Array (Option Value)) :
    Meets (Builtin.«int.__eq__» ⟨[.int i t, .ref x], []⟩) (fun _ R s => s.heap.get? x = some { cls := cv, dict := dv, data := .plain, slots := sl } ∧ R (.ok (.ret Value.notImplemented)) s) :=
  .of_wp fun prog w A R s h => by obtain ⟨hp, g, d, tk, os⟩ := s; obtain ⟨hl, h⟩ := h; wp_walk; exact ⟨_, rfl, h⟩
theorem call_eq {prog : Program} {w : World} {A : Around} {E : Value → Shared → Prop} {s : Shared} {i : Int} {t : Tok} {x : Addr} {cv : Value} {dv : Option Addr} {sl : Array (Option Value)} (hx : s.heap.get? x = some { cls := cv, dict := dv, data := .plain, slots := sl }) :
    ∀ Q' : Value → Shared → Prop, Q' .notImplemented s → wpAny (model prog w) A (call (.builtin "int.__eq__") [.int i t, .ref x]) Q' E s :=
  fun _ h => call_meets F.slot_int_eq (typeIs_int s i t) F.entry_int_eq (F.args_int_eq_2 _ _) (decl_eq i t x cv dv sl) ⟨hx, h⟩
theorem decl_ne (i : Int) (t : Tok) (x : Addr) (cv : Value) (dv : Option Addr) (sl : Array (Option Value)) :
    Meets (Builtin.«int.__ne__» ⟨[.int i t, .ref x], []⟩) (fun _ R s => s.heap.get? x = some { cls := cv, dict := dv, data := .plain, slots := sl } ∧ R (.ok (.ret Value.notImplemented)) s) :=
  .of_wp fun prog w A R s h => by obtain ⟨hp, g, d, tk, os⟩ := s; obtain ⟨hl, h⟩ := h; wp_walk; exact ⟨_, rfl, h⟩
theorem call_ne {prog : Program} {w : World} {A : Around} {E : Value → Shared → Prop} {s : Shared} {i : Int} {t : Tok} {x : Addr} {cv : Value} {dv : Option Addr} {sl : Array (Option Value)} (hx : s.heap.get? x = some { cls := cv, dict := dv, data := .plain, slots := sl }) :
    ∀ Q' : Value → Shared → Prop, Q' .notImplemented s → wpAny (model prog w) A (call (.builtin "int.__ne__") [.int i t, .ref x]) Q' E s :=
  fun _ h => call_meets F.slot_int_ne (typeIs_int s i t) F.entry_int_ne (F.args_int_ne_2 _ _) (decl_ne i t x cv dv sl) ⟨hx, h⟩
end Mine
end
section
open PySem PySem.W PySem.Spec PySem.Calls PyProof.Rows
set_option maxRecDepth 100000
set_option maxHeartbeats 8000000
set_option Elab.async false
namespace Mine
theorem ne_bind (self : Value) : bindSpecial (.builtin "object.__ne__") self = pure (.builtin "object.__ne__", [self]) :=
  (Slot.of (T := "object") (name := "__ne__") (owner := "object") (n := "__ne__") (by rw [typeLookup_type, builtinLookup_eq_fast]; kernel_rfl) (by decide +kernel) (by decide +kernel) (by decide +kernel)
    (.inl (by decide +kernel)) (by rw [isSubtype_type]; kernel_rfl)).bind self
theorem ne_plain : plainId "object.__ne__" = true := by decide +kernel
section
variable {prog : Program} {w : World} {A : Around} {E : Value → Shared → Prop} {s : Shared} {K : Frag} {x C L f : Addr} {h₀ : Heap} {m : Str → Option Value} {ox : Obj} {od : Option Obj} {b tb : Value}
theorem ne_K {Q : Value → Shared → Prop} (hu : A.units + 1 < cLine) (F : Fr h₀ L s.heap m) (X₀ : K.In h₀) (I : InstAt s.heap x ox C od) (hb : Looks (model prog w) s.heap (typeOf b) tb) (hn : notFirst K C tb = true)
    (hne : findIn K (.ref C) "__ne__" = some (some (.builtin "object.__ne__"))) (hs : findIn K (.ref C) "__eq__" = some (some (.ref f))) (hf : isFn K (.ref f) = true) (hm : mroIn K C (.type "object") = some true)
    (h : wpAny (model prog w) A.in1 (call (.ref f) [.ref x, b]) (NotBack Q) E s) : wpAny (model prog w) A (richCompare .NotEq (.ref x) b) Q E s := by
  have X := X₀.keeps F.keep
  have inner : wpAny (model prog w) A (call (.builtin "object.__ne__") [.ref x, b]) (fun v s' => ∃ r, v = .bool r ∧ Q (.bool r) s') E s := by
    refine wpAny_call (codeAny_call_builtin ne_plain PySem.F.cmpEntry_ne ?_)
    refine @check_slot (model prog w) _ _ s "object.__ne__" "object" "__ne__" (.ref x) [b] [] _ PySem.F.cmpKind_ne PySem.F.cmpSplit_ne ((I.type).andThen (looks_mroIn X hm)) (PySem.F.cmpArgs_ne _ _) ?_
    unfold Builtin.«object.__ne__»
    repeat (first
      | with_reducible refine wpAny_cRoomFor hu ?_
      | (refine wpAny_bind (m := callSpecialIfBound? (.ref x) (Str.ofString "__eq__") [b])
          (ifBound_K X I hs hf (wpAny_mono h (fun r s' hr => ?_) fun _ _ e => e)))
      | wp_step)
    cases r <;> first | exact hr.elim | skip
    refine wpAny_bind (wpAny_truthy_bool ?_)
    exact wpAny_pure ⟨_, rfl, hr⟩
  have one : wpAny (model prog w) A (tryCompare (.ref x) "__ne__" b) (fun r s' => ∃ v, r = some v ∧ Q v s') E s := by
    unfold tryCompare
    refine wpAny_bind ?_
    simp only [callSpecialIfBound?, bindSpecialIfBound?]
    refine wpAny_holding (wpAny_bind (wpAny_bind (wpAny_bind (I.type.here ((looks_findIn X hne).here ?_)))))
    refine wpAny_bind (wpAny_askSetting (wpAny_ite ?_))
    have fin : wpAny (model prog w) A (call (.builtin "object.__ne__") ([.ref x] ++ [b]) >>= fun v => pure (some v)) (fun r s' => wpAny (model prog w) A (match r with | some .notImplemented => pure none | none => pure none | some v => pure (some v)) (fun r s' => ∃ v, r = some v ∧ Q v s') E s') E s :=
      wpAny_bind (wpAny_mono inner (fun v s' hv => by
        obtain ⟨r, rfl, hq⟩ := hv
        exact wpAny_pure (wpAny_pure ⟨_, rfl, hq⟩)) fun _ _ h' => h')
    simp only [ne_bind]
    split
    · exact wpAny_bind (wpAny_pure (wpAny_pure (by exact fin)))
    · exact wpAny_tryCatch (wpAny_bind (wpAny_pure (wpAny_pure (by exact fin))))
  unfold richCompare
  simp only [oneThing_ref]
  refine wpAny_holding (wpAny_bind (wpAny_cRoomFor (Nat.lt_of_succ_lt hu) ?_))
  refine wpAny_bind (I.type.here (wpAny_bind (hb.here ?_)))
  split
  · rename_i q
    have e : subIn K tb (.ref C) = some false := by
      rcases Bool.or_eq_true_iff.mp hn with e | e
      · rw [beq_iff_eq.mp e] at q; simp at q
      · exact beq_iff_eq.mp e
    refine wpAny_bind ((looks_subIn X e).here ?_)
    simp only [Bool.false_eq_true, if_false]
    refine wpAny_bind (wpAny_mono one (fun r s' z => ?_) fun _ _ e => e)
    obtain ⟨v, rfl, hq⟩ := z
    exact wpAny_pure hq
  · refine wpAny_bind (wpAny_pure ?_)
    simp only [Bool.false_eq_true, if_false]
    refine wpAny_bind (wpAny_mono one (fun r s' z => ?_) fun _ _ e => e)
    obtain ⟨v, rfl, hq⟩ := z
    exact wpAny_pure hq
end
theorem float_cls {x : UInt64} {u : Tok} {prog : Program} {w : World} {A : Around} {E : Value → Shared → Prop} {Q : Option Value → Shared → Prop} {s : Shared} (_ : True) (h : Q (some (.type "float")) { s with toks := s.toks + 1 }) : wpAny (model prog w) A (getAttr? (.float x u) "__class__") Q E s := class_attr_float h
end Mine
end
section
open PySem PySem.W PySem.Spec PySem.Calls PyProof.Rows
set_option maxRecDepth 100000
set_option maxHeartbeats 8000000
set_option Elab.async false
namespace Mine
abbrev frs (l : List Env) : List Addr := l.filterMap (·.frame)
theorem mem_frs {env : Env} {outer : List Env} {L b : Addr} (hf : env.frame = some L) (hm : b ∈ frs (env :: outer)) : b = L ∨ b ∈ frs outer := by
  obtain ⟨v, hv, hb⟩ := List.mem_filterMap.mp hm
  rcases List.mem_cons.mp hv with rfl | hv
  · rw [hf] at hb; exact .inl (Option.some.inj hb).symm
  · exact .inr (List.mem_filterMap.mpr ⟨v, hv, hb⟩)
theorem raised_sub {base G h : Heap} {l : List Env} {e : Addr} {cls : Value} {news news' : Led} (R : RaisedSN base G l e cls news h) (hs : ∀ p ∈ news', p ∈ news) : RaisedSN base G l e cls news' h := by
  obtain ⟨B, a0, h1, h2, h3, h4⟩ := R
  exact ⟨B, a0, h1, h2, fun q hq => h3 q (hs q hq), h4⟩
theorem raised_made {base G h : Heap} {l : List Env} {e t : Addr} {cls : Value} {vs : List Value} {news : Led} (R : RaisedS base G l e cls t vs news h) : RaisedSN base G l e cls news h := by
  obtain ⟨⟨B, h1, h2, h3, h4, _⟩, _⟩ := R
  exact ⟨B, _, h1, h2, h3, h4⟩

/-- what is called raises -/
def Raises (w : World) (t : Sem Value) (d : Nat) (news : Led) (X : String) : Prop :=
  ∀ (p : Program) (loose : List Str) (mean : ExcName → Option Value) (mg mb : Str → Option Value) (dp un : Nat) (gd : Option (List Code)) (cn : Str) (cs : Scope) (a : Addr) (ccd : Value) (cl : List (Str × Addr)) (outer : List Env) (A₀ : Around) (base h₀ : Heap) (L : Addr) (m : Str → Option Value) (s : Shared) (Q E : Value → Shared → Prop),
    Below A₀ base outer h₀ → Fr h₀ L s.heap m → (Mine.hd.heap_39 w.params).In h₀ → News h₀ L s.heap news → Top p loose mean mg mb h₀ → cs.kind = .function → dp + d < recursionLimit → un + 10 * d + 100 < cLine →
    (∀ (g' : Heap) (e : Addr) (h' : Heap) (tk' : Nat), Fr h₀ L g' m → RaisedSN base g' (envX cn cs L a ccd cl :: outer) e (.type X) news h' → g'.UpToSlots h' → E (.ref e) { s with heap := h', toks := tk' }) →
    wpAny (model PySem.Challenge.rw_at5001_01.row.prog w) (ktrTop dp un gd cn cs L a ccd cl outer) t Q E s
theorem raises_use {w : World} {t : Sem Value} {d : Nat} {news : Led} {X : String} (H : Raises w t d news X)
    {p : Program} {loose : List Str} {mean : ExcName → Option Value} {mg mb : Str → Option Value} {dp un : Nat} {gd : Option (List Code)} {cn : Str} {cs : Scope} {a : Addr} {ccd : Value} {cl : List (Str × Addr)} {outer : List Env} {A₀ : Around} {base h₀ : Heap} {L : Addr} {m : Str → Option Value} {s : Shared} {Q E : Value → Shared → Prop}
    (B : Below A₀ base outer h₀) (F : Fr h₀ L s.heap m) (X₀ : (Mine.hd.heap_39 w.params).In h₀) (N : News h₀ L s.heap news) (T : Top p loose mean mg mb h₀) (hk : cs.kind = .function) (hd : dp + d < recursionLimit) (hu : un + 10 * d + 100 < cLine)
    (r : ∀ (g' : Heap) (e : Addr) (h' : Heap) (tk' : Nat), Fr h₀ L g' m → RaisedSN base g' (envX cn cs L a ccd cl :: outer) e (.type X) news h' → g'.UpToSlots h' → E (.ref e) { s with heap := h', toks := tk' }) :
    wpAny (model PySem.Challenge.rw_at5001_01.row.prog w) (ktrTop dp un gd cn cs L a ccd cl outer) t Q E s :=
  H _ _ _ _ _ _ _ _ _ _ _ _ _ _ _ _ _ _ _ _ _ _ B F X₀ N T hk hd hu r

section
variable {M : Model} {A A₀ : Around} {E : Value → Shared → Prop} {s' : Shared} {base g g₂ : Heap} {outer : List Env} {env : Env} {L e : Addr} {m : Str → Option Value} {Q : Unit → Shared → Prop} {news : Led} {cls : Value}
theorem leaveX_on (K : Below A base outer g) (hf : env.frame = some L) (F : Fr g L g₂ m) (R : RaisedSN base g₂ (env :: outer) e cls news s'.heap) (hsm : g₂.UpToSlots s'.heap)
    (hQ : ∀ h', RaisedSN base g outer e cls news h' → g.UpToSlots h' → Q () { s' with heap := h' }) : wpAny M (A.deeper env) (leaving env (.ref e)) Q E s' := by
  obtain ⟨B, a0, h1, h2, h3, h4⟩ := R
  refine wpAny_leaves_onW (Around.frames_deeper K.stack) hf h4 fun h' x1 x2 => hQ h' ⟨B, a0, h1, fun b o q nm => h2 b o (F.keep b o q) fun hm => ?_, fun q hq => ⟨(h3 q hq).1, kts_none F.keep (h3 q hq).2.1, (h3 q hq).2.2⟩, x1⟩ ((Heap.UpToSlots.of_keeps F.keep).trans (hsm.trans x2))
  rcases mem_frs hf hm with z | z
  · rw [z, kts_self F] at q; cases q
  · exact nm z
end

/-- a lambda that raises -/
def BodyRaises (w : World) (f : Addr) (qual : Str) (scope : Scope) (c' : Addr) (clos : List (Str × Addr)) (body : PySem.Expr) (d : Nat) (news : Led) (X : String) : Prop :=
  ∀ (p : Program) (loose : List Str) (mean : ExcName → Option Value) (mg mb : Str → Option Value) (dp un : Nat) (gd : Option (List Code)) (outer : List Env) (A₀ : Around) (base h₀ : Heap) (L : Addr) (m : Str → Option Value) (s : Shared) (Q E : Value → Shared → Prop),
    Below A₀ base outer h₀ → Fr h₀ L s.heap m → (Mine.hd.heap_39 w.params).In h₀ → News h₀ L s.heap news → Top p loose mean mg mb h₀ → dp + d < recursionLimit → un + 10 * d + 100 < cLine →
    (∀ (g' : Heap) (e : Addr) (h' : Heap) (tk' : Nat), Fr h₀ L g' m → RaisedSN base g' (envX qual scope L f (.ref c') clos :: outer) e (.type X) news h' → g'.UpToSlots h' → E (.ref e) { s with heap := h', toks := tk' }) →
    wpAny (model PySem.Challenge.rw_at5001_01.row.prog w) (ktrTop dp un gd qual scope L f (.ref c') clos outer) (eval body (envX qual scope L f (.ref c') clos)) Q E s

theorem lam_raises {w : World} {f : Addr} {name qual : Str} {params : Arguments} {scope : Scope} {c' : Addr} {clos : List (Str × Addr)} {body : PySem.Expr} {d : Nat} {news : Led} {X : String} {pm ctv : Value} {oc : Obj} {vs : Array Value} {t : Tok}
    (H : BodyRaises w f qual scope c' clos body d news X) (hm : (f, kla_obj name qual params body scope clos pm c' ctv) ∈ news) (hc : (c', oc) ∈ news) (hd : oc.data = .fields vs) (hv : vs[1]? = some (.str qual t))
    (hbind : bindArgs (kla_fn name qual params body scope clos pm (.ref c') ctv) ⟨[], []⟩ = pure []) (hco : scope.isCoroutine = false) (hgen : scope.isGenerator = false) (hk : scope.kind = .function)
    (hcell : ∀ x ∈ scope.names, x.2 ≠ .cell) : Raises w (call (.ref f) []) (d + 1) news X := by
  intro p loose mean mg mb dp un gd cn cs a ccd cl outer A₀ base h₀ L m s Q E B F X₀ N T hkc hdp hu hret
  refine wpAny_call (kla_code (env := envX cn cs L a ccd cl) B F X₀ N T rfl rfl hkc hm (codeRec_news N hc hd hv) (by show dp < recursionLimit; omega) hbind (fun _ h => nomatch h) ?_ hco hgen hk hcell)
  intro g L' h₁ FG F' N' B' X' T'
  refine raises_body H B' F' X' N' T' (by show dp + 1 + d < recursionLimit; omega) (by show un + 3 + 10 * d + 100 < cLine; omega) fun g' e h' tk' F₂ R U => ?_
  exact leaveX_on B' rfl F₂ R U fun h'' R' U' => hret g e h'' tk' FG R' U'
where
  raises_body {w : World} {f : Addr} {qual : Str} {scope : Scope} {c' : Addr} {clos : List (Str × Addr)} {body : PySem.Expr} {d : Nat} {news : Led} {X : String} (H : BodyRaises w f qual scope c' clos body d news X)
    {p : Program} {loose : List Str} {mean : ExcName → Option Value} {mg mb : Str → Option Value} {dp un : Nat} {gd : Option (List Code)} {outer : List Env} {A₀ : Around} {base h₀ : Heap} {L : Addr} {m : Str → Option Value} {s : Shared} {Q E : Value → Shared → Prop}
    (B : Below A₀ base outer h₀) (F : Fr h₀ L s.heap m) (X₀ : (Mine.hd.heap_39 w.params).In h₀) (N : News h₀ L s.heap news) (T : Top p loose mean mg mb h₀) (hd : dp + d < recursionLimit) (hu : un + 10 * d + 100 < cLine)
    (r : ∀ (g' : Heap) (e : Addr) (h' : Heap) (tk' : Nat), Fr h₀ L g' m → RaisedSN base g' (envX qual scope L f (.ref c') clos :: outer) e (.type X) news h' → g'.UpToSlots h' → E (.ref e) { s with heap := h', toks := tk' }) :
    wpAny (model PySem.Challenge.rw_at5001_01.row.prog w) (ktrTop dp un gd qual scope L f (.ref c') clos outer) (eval body (envX qual scope L f (.ref c') clos)) Q E s :=
  H _ _ _ _ _ _ _ _ _ _ _ _ _ _ _ _ _ B F X₀ N T hd hu r
end Mine
end
section
open PySem PySem.W PySem.Spec PySem.Calls PyProof.Rows
set_option maxRecDepth 100000
set_option maxHeartbeats 8000000
set_option Elab.async false
namespace Mine
/-- the ground turned: what the callers' frames were told while an exception flew -/
def LeaveT (A₀ : Around) (base : Heap) (outer : List Env) (env : Env) (h₀ : Heap) (L : Addr) (m : Str → Option Value) (g : Heap) (R : Result → Shared → Prop) (v : Value) (s' : Shared) : Prop :=
  ∃ (g' : Heap) (L' : Addr) (m' : Str → Option Value) (news' : Led), KtsTurn (frs (env :: outer)) g g' ∧ Fr g' L' s'.heap m' ∧ News g' L' s'.heap news' ∧
    ∀ kg, KtsTurn (frs outer) h₀ kg → Fr kg L s'.heap m → News kg L s'.heap news' → Below A₀ base outer kg → KtsDicts (frs outer) kg → R (.ok (.ret v)) s'
section
variable {A₀ A : Around} {base h₀ : Heap} {outer : List Env} {env : Env} {L : Addr} {m : Str → Option Value} {s : Shared} {news : Led} {R : Result → Shared → Prop}
theorem groundT (B : Below A₀ base outer h₀) (F : Fr h₀ L s.heap m) (N : News h₀ L s.heap news) (D : KtsDicts (frs outer) h₀) (hf : env.frame = some L) :
    KtsDicts (frs (env :: outer)) (hideAll s.heap (news.map (·.1))) ∧ ∀ v s', LeaveT A₀ base outer env h₀ L m (hideAll s.heap (news.map (·.1))) R v s' → R (.ok (.ret v)) s' := by
  have away : ∀ b o, h₀.get? b = some o → b ∉ news.map (·.1) := fun b o e q => by
    obtain ⟨p, hp, rfl⟩ := List.mem_map.mp q
    rw [(N p hp).2.2] at e; cases e
  have st : h₀.StaysIn (hideAll s.heap (news.map (·.1))) := fun b o e => hideAll_get _ (F.keep b o e) (away b o e)
  obtain ⟨oL, es, ep, hL, hLd, hLk, hLf⟩ := F.ns
  have hLg := hideAll_get (news.map (·.1)) hL fun q => by
    obtain ⟨p, hp, e⟩ := List.mem_map.mp q
    exact (N p hp).2.1 e
  have nL₀ : h₀.get? L = none := kts_self F
  have notL : ∀ {b o}, h₀.get? b = some o → b ≠ L := fun e q => by rw [q, nL₀] at e; cases e
  refine ⟨fun b hb => ?_, fun v s' hl => ?_⟩
  · rcases mem_frs hf hb with rfl | hb
    · exact ⟨oL, es, ep, hLg, hLd⟩
    · obtain ⟨o, es', n', ho, hd⟩ := D b hb
      exact ⟨o, es', n', st b o ho, hd⟩
  · obtain ⟨g', L', m', news', T', F', N', k⟩ := hl
    obtain ⟨sl, hs⟩ := T'.up hLg
    have there : ∀ b o, h₀.get? b = some o → ∃ sl, g'.get? b = some { o with slots := sl } := fun b o e => T'.up (st b o e)
    obtain ⟨T₁, S₁⟩ := kts_turn_at (h := s'.heap) (fs := frs outer) (g := h₀)
      (fun b hb => by obtain ⟨o, _, _, ho, _⟩ := D b hb; exact ⟨o, ho⟩)
      (fun b o e nm => F'.keep b o (T'.other b o (st b o e) fun q => by
        rcases mem_frs hf q with z | z
        · exact notL e z
        · exact nm z))
      (fun b o e _ => by obtain ⟨sl', hs'⟩ := there b o e; exact ⟨sl', F'.keep _ _ hs'⟩)
    refine k _ T₁ ⟨⟨_, es, ep, F'.keep _ _ hs, hLd, hLk, hLf⟩, S₁, by rw [T₁.size]; exact F.above⟩ (fun p hp => ⟨(N' p hp).1, fun q => ?_, T₁.none_ _ ?_⟩)
      ⟨B.stack, fun b o e => T₁.other b o (B.stays b o e) (fun hm => (by rw [(B.frames.mem hm).1] at e; cases e)), B.frames.of_keeps fun b o e _ => ?_⟩ (D.turn T₁)
    · have := (N' p hp).2.2; rw [q, hs] at this; cases this
    · cases q : h₀.get? p.1 with
      | none => rfl
      | some o => obtain ⟨sl', hs'⟩ := there _ _ q; have := (N' p hp).2.2; rw [hs'] at this; cases this
    · obtain ⟨sl', hs'⟩ := T₁.up e
      exact ⟨_, hs', rfl⟩
theorem leaveT_ {g g' : Heap} {L' : Addr} {m' : Str → Option Value} {news' : Led} {v : Value} {s' : Shared} (T : KtsTurn (frs (env :: outer)) g g') (F : Fr g' L' s'.heap m') (N : News g' L' s'.heap news')
    (k : ∀ kg, KtsTurn (frs outer) h₀ kg → Fr kg L s'.heap m → News kg L s'.heap news' → Below A₀ base outer kg → KtsDicts (frs outer) kg → R (.ok (.ret v)) s') : LeaveT A₀ base outer env h₀ L m g R v s' :=
  ⟨g', L', m', news', T, F, N, k⟩
end
section
variable {prog : Program} {w : World} {A₀ A : Around} {s : Shared} {base h₀ : Heap} {outer : List Env} {L : Addr} {m mg mb : Str → Option Value} {env : Env} {news : Led} {K : Frag} {p : Program} {loose : List Str} {mean : ExcName → Option Value}
  {R : Result → Shared → Prop} {name qual : Str} {params : Arguments} {body : List Stmt} {scope : Scope} {dV kV doc pm cdv ct oc : Value} {an od : Option Addr} {osl : Array (Option Value)} {f : Addr} {args : Args} {binds : List (Str × Value)}
/-- a def without cells whose way back may turn the ground -/
theorem callT_plain (B : Below A₀ base outer h₀) (F : Fr h₀ L s.heap m) (X₀ : K.In h₀) (N : News h₀ L s.heap news) (T : Top p loose mean mg mb h₀) (D : KtsDicts (frs outer) h₀) (hA : A.frames = some (env :: outer)) (hf : env.frame = some L) (hke : env.scope.kind = .function)
    (ho : K.lookup f = some ⟨oc, od, .func (fnOf name qual params body scope dV kV doc pm an cdv ct), osl⟩) (hcd : codeIn K cdv qual = true) (hroom : A.depth < recursionLimit)
    (hbind : BindsTo s (fnOf name qual params body scope dV kV doc pm an cdv ct) args binds) (hloc : ∀ y ∈ binds, scope.names.lookup y.1 = some .local)
    (h : ∀ g L' h₁, Fr h₀ L g m → Fr g L' h₁ (fun y => binds.reverse.lookup y) → News g L' h₁ news → Below A base (env :: outer) g → K.In g → Top p loose mean mg mb g → KtsDicts (frs (env :: outer)) g →
      wpAny (model prog w) (A.deeper (envOf qual scope L' f cdv)) (execs body (envOf qual scope L' f cdv))
        (fun fl s' => LeaveT A₀ base outer env h₀ L m g R (match fl with | .ret v => v | _ => .none) s')
        (fun e s' => wpAny (model prog w) (A.deeper (envOf qual scope L' f cdv)) (leaving (envOf qual scope L' f cdv) e) (fun _ s'' => R (.error e) s'') (fun e' s'' => R (.error e') s'') s')
        { s with heap := h₁, toks := s.toks + binds.length })
    (hco : scope.isCoroutine = false) (hgen : scope.isGenerator = false) (hk : scope.kind = .function) (hcell : ∀ x ∈ scope.names, x.2 ≠ .cell) : codeAny (model prog w) A (.call (.ref f) args) R s := by
  have X := X₀.keeps F.keep
  obtain ⟨FG, BG, st, _⟩ := groundX (R := R) B F N hA hf hke
  obtain ⟨DG, lv⟩ := groundT (R := R) (env := env) B F N D hf
  refine codeAny_call_def (fd := fnOf name qual params body scope dV kV doc pm an cdv ct) (body := body) (binds := binds) hroom (X _ _ ho) rfl (T.nolimit.keeps F.keep) (codeRec_of X hcd) rfl hbind hcell hloc (fun h₁ hns keep => ?_) hco hgen hk
  have FN : Fr (hideAll s.heap (news.map (·.1))) s.heap.objs.size h₁ (fun y => binds.reverse.lookup y) := ⟨hns, fun b o e => keep b o (of_hideAll _ e), Nat.le_of_eq (hideAll_size _ _)⟩
  have NN : News (hideAll s.heap (news.map (·.1))) s.heap.objs.size h₁ news := fun p hp => ⟨keep _ _ (N p hp).1, Nat.ne_of_lt (Heap.lt_size (N p hp).1), hideAll_none _ (List.mem_map_of_mem hp)⟩
  exact wpAny_mono (h _ _ h₁ FG FN NN BG (X₀.keeps st) (T.keeps st) DG) (fun fl s' hl => lv _ _ hl) fun _ _ y => y
/-- a def with cells whose way back may turn the ground -/
theorem callT_cells (B : Below A₀ base outer h₀) (F : Fr h₀ L s.heap m) (X₀ : K.In h₀) (N : News h₀ L s.heap news) (T : Top p loose mean mg mb h₀) (D : KtsDicts (frs outer) h₀) (hA : A.frames = some (env :: outer)) (hf : env.frame = some L) (hke : env.scope.kind = .function)
    (ho : K.lookup f = some ⟨oc, od, .func (fnOf name qual params body scope dV kV doc pm an cdv ct), osl⟩) (hcd : codeIn K cdv qual = true) (hroom : A.depth < recursionLimit)
    (hbind : BindsTo s (fnOf name qual params body scope dV kV doc pm an cdv ct) args binds) (hkind : (binds.all fun y => scope.names.lookup y.1 == some .local || scope.names.lookup y.1 == some .cell) = true)
    (hnd : ((cellsFrom 0 scope.names []).map (·.1)).Nodup)
    (h : ∀ g L' h₁ tk cells, Fr h₀ L g m → Fr g L' h₁ (bindL (envOfC qual scope L' f cdv).kindOf binds fun _ => none) → News g L' h₁ (cells ++ news) →
      CellsAre (bindC (envOfC qual scope L' f cdv).kindOf binds fun _ => none) (cellsFrom (L' + 1) scope.names []) cells → Below A base (env :: outer) g → K.In g → Top p loose mean mg mb g → KtsDicts (frs (env :: outer)) g → (∀ p ∈ news, p.1 < L') →
      wpAny (model prog w) (A.deeper (envOfC qual scope L' f cdv)) (execs body (envOfC qual scope L' f cdv))
        (fun fl s' => LeaveT A₀ base outer env h₀ L m g R (match fl with | .ret v => v | _ => .none) s')
        (fun e s' => wpAny (model prog w) (A.deeper (envOfC qual scope L' f cdv)) (leaving (envOfC qual scope L' f cdv) e) (fun _ s'' => R (.error e) s'') (fun e' s'' => R (.error e') s'') s')
        { s with heap := h₁, toks := tk })
    (hco : scope.isCoroutine = false) (hgen : scope.isGenerator = false) (hk : scope.kind = .function) : codeAny (model prog w) A (.call (.ref f) args) R s := by
  have X := X₀.keeps F.keep
  obtain ⟨FG, BG, st, _⟩ := groundX (R := R) B F N hA hf hke
  obtain ⟨DG, lv⟩ := groundT (R := R) (env := env) B F N D hf
  refine codeAny_call_function hroom (X _ _ ho) rfl hco hgen rfl (codeRec_of X hcd) (hbind _ _ _ _ ?_)
  refine wpAny_newFunctionEnv_cells hk (kindsX hkind _) fun env' he s' x => ?_
  subst he
  refine ⟨(T.nolimit.keeps F.keep).keeps x.toInCall.keep, codeAny_func ?_⟩
  obtain ⟨h₁, tk, rfl, _⟩ := x.done
  have keep := x.toInCall.keep
  obtain ⟨cells, NC, Y⟩ := Cl.news (h₀ := s.heap) (Nat.le_refl _) fun n c hm => ⟨x.cell n c (lookup_of_mem_nodup (cellsFrom_names scope.names 0 (s.heap.objs.size + 1) [] [] rfl ▸ hnd) hm), x.above n c hm⟩
  have FN : Fr (hideAll s.heap (news.map (·.1))) s.heap.objs.size h₁ _ := ⟨x.toInCall.ns, fun b o e => keep b o (of_hideAll _ e), Nat.le_of_eq (hideAll_size _ _)⟩
  have NN : News (hideAll s.heap (news.map (·.1))) s.heap.objs.size h₁ (cells ++ news) := fun p hp => by
    rcases List.mem_append.mp hp with hp | hp
    · refine ⟨(NC p hp).1, (NC p hp).2.1, ?_⟩
      cases q : (hideAll s.heap (news.map (·.1))).get? p.1 with
      | none => rfl
      | some o => have := of_hideAll _ q; rw [(NC p hp).2.2] at this; cases this
    · exact ⟨keep _ _ (N p hp).1, Nat.ne_of_lt (Heap.lt_size (N p hp).1), hideAll_none _ (List.mem_map_of_mem hp)⟩
  exact wpAny_mono (h _ _ h₁ tk cells FG FN NN Y BG (X₀.keeps st) (T.keeps st) DG fun p hp => Heap.lt_size (N p hp).1) (fun fl s' hl => lv _ _ hl) fun _ _ y => y
end
/-- as Does, the ground turned -/
def DoesT (w : World) (t : Sem Value) (d : Nat) (news : Led) (R : (Value → Led → Prop) → Prop) : Prop :=
  ∀ (p : Program) (loose : List Str) (mean : ExcName → Option Value) (mg mb : Str → Option Value) (dp un : Nat) (gd : Option (List Code)) (cn : Str) (cs : Scope) (a : Addr) (ccd : Value) (cl : List (Str × Addr)) (outer : List Env) (A₀ : Around) (base h₀ : Heap) (L : Addr) (m : Str → Option Value) (s : Shared) (Q E : Value → Shared → Prop),
    Below A₀ base outer h₀ → Fr h₀ L s.heap m → (Mine.hd.heap_39 w.params).In base → News h₀ L s.heap news → Top p loose mean mg mb base → KtsDicts (frs outer) h₀ → cs.kind = .function → dp + d < recursionLimit → un + 10 * d + 100 < cLine →
    R (fun v led => ∀ (kg h' : Heap) (tk' : Nat), KtsTurn (frs outer) h₀ kg → Below A₀ base outer kg → KtsDicts (frs outer) kg → Fr kg L h' m → News kg L h' led → Q v { s with heap := h', toks := tk' }) →
    wpAny (model PySem.Challenge.rw_at5001_01.row.prog w) (ktrTop dp un gd cn cs L a ccd cl outer) t Q E s
theorem doesT_use {w : World} {t : Sem Value} {d : Nat} {news : Led} {R : (Value → Led → Prop) → Prop} (H : DoesT w t d news R)
    {p : Program} {loose : List Str} {mean : ExcName → Option Value} {mg mb : Str → Option Value} {dp un : Nat} {gd : Option (List Code)} {cn : Str} {cs : Scope} {a : Addr} {ccd : Value} {cl : List (Str × Addr)} {outer : List Env} {A₀ : Around} {base h₀ : Heap} {L : Addr} {m : Str → Option Value} {s : Shared} {Q E : Value → Shared → Prop}
    (B : Below A₀ base outer h₀) (F : Fr h₀ L s.heap m) (XB : (Mine.hd.heap_39 w.params).In base) (N : News h₀ L s.heap news) (TB : Top p loose mean mg mb base) (D : KtsDicts (frs outer) h₀) (hk : cs.kind = .function) (hd : dp + d < recursionLimit) (hu : un + 10 * d + 100 < cLine)
    (r : R (fun v led => ∀ (kg h' : Heap) (tk' : Nat), KtsTurn (frs outer) h₀ kg → Below A₀ base outer kg → KtsDicts (frs outer) kg → Fr kg L h' m → News kg L h' led → Q v { s with heap := h', toks := tk' })) :
    wpAny (model PySem.Challenge.rw_at5001_01.row.prog w) (ktrTop dp un gd cn cs L a ccd cl outer) t Q E s :=
  H _ _ _ _ _ _ _ _ _ _ _ _ _ _ _ _ _ _ _ _ _ _ B F XB N TB D hk hd hu r
end Mine
end
section
open PySem PySem.W PySem.Spec PySem.Calls PyProof.Rows
set_option maxRecDepth 100000
set_option maxHeartbeats 8000000
set_option Elab.async false
namespace Mine
def NoTab (rest : Led) : Prop := ∀ q ∈ rest, ∀ ps, q.2 ≠ tabObj ps
theorem NoTab.nil : NoTab [] := fun _ h => nomatch h
theorem NoTab.cons {a : Addr} {o : Obj} {rest : Led} (h : ∀ ps, o ≠ tabObj ps) (t : NoTab rest) : NoTab ((a, o) :: rest) := fun q hq => by
  rcases List.mem_cons.mp hq with rfl | hq
  · exact h
  · exact t q hq
theorem noTab_data {o : Obj} {v : Option Value} (h : o.data = .cell v) : ∀ ps, o ≠ tabObj ps := fun ps e => by rw [e] at h; cases h
theorem noTab_cls {o : Obj} (h : o.cls ≠ .none) : ∀ ps, o ≠ tabObj ps := fun ps e => h (by rw [e])
theorem NoTab.sub {r r' : Led} (t : NoTab r) (h : ∀ q ∈ r', q ∈ r) : NoTab r' := fun q hq => t q (h q hq)
theorem split_nil {te : Led} : te = [] ++ te := rfl
theorem split_cons {p : Addr × Obj} {l r te : Led} (h : l = r ++ te) : p :: l = (p :: r) ++ te := by rw [h]; rfl
/-- a code's table, every code in it at hand -/
inductive TabGood (qual : Str) (te : Led) : List Value → Prop
  | nil : TabGood qual te []
  | cons {a b : Int} {t u tq : Tok} {c : Addr} {oc : Obj} {vs : Array Value} {rest : List Value} : (c, oc) ∈ te → oc.data = .fields vs → vs[1]? = some (.str qual tq) → TabGood qual te rest → TabGood qual te (.int a t :: .int b u :: .ref c :: rest)
theorem TabGood.triples {qual : Str} {te : Led} {l : List Value} (h : TabGood qual te l) : TriplesOk l := by
  induction h with
  | nil => exact trivial
  | cons _ _ _ _ ih => exact ih
theorem TabGood.at {qual : Str} {te : Led} {l : List Value} (h : TabGood qual te l) {pos : Pos} {v : Value} (e : codeAmong pos l = some v) :
    ∃ c oc vs t, v = .ref c ∧ (c, oc) ∈ te ∧ oc.data = .fields vs ∧ vs[1]? = some (.str qual t) := by
  induction h with
  | nil => cases e
  | cons h1 h2 h3 _ ih =>
    simp only [codeAmong] at e
    split at e
    · cases e; exact ⟨_, _, _, _, rfl, h1, h2, h3⟩
    · exact ih e
theorem TabGood.mono {qual : Str} {te te' : Led} {l : List Value} (h : TabGood qual te l) (hs : ∀ c oc vs t, (c, oc) ∈ te → oc.data = .fields vs → vs[1]? = some (.str qual t) → (c, oc) ∈ te') : TabGood qual te' l := by
  induction h with
  | nil => exact .nil
  | cons h1 h2 h3 _ ih => exact .cons (hs _ _ _ _ h1 h2 h3) h2 h3 ih
theorem TabGood.snoc {qual : Str} {te : Led} {l : List Value} (h : TabGood qual te l) {a b : Int} {c : Addr} {oc : Obj} {vs : Array Value} {tq : Tok} (h1 : (c, oc) ∈ te) (h2 : oc.data = .fields vs) (h3 : vs[1]? = some (.str qual tq)) :
    TabGood qual te (l ++ [rawInt a, rawInt b, .ref c]) := by
  induction h with
  | nil => exact .cons h1 h2 h3 .nil
  | cons k1 k2 k3 _ ih => exact .cons k1 k2 k3 ih
theorem TabGood.notStr {qual q2 : Str} {te : Led} {ps : Array Value} (h : TabGood qual te ps.toList) {t : Tok} (e : ps[1]? = some (.str q2 t)) : False := by
  rw [← Array.getElem?_toList] at e
  generalize ps.toList = l at h e
  cases h with
  | nil => cases e
  | cons => cases e
def TabSt (P : Addr) (qual : Str) (te : Led) : Prop :=
  ∃ ps : Array Value, (P, tabObj ps) ∈ te ∧ (∀ q ∈ te, q.1 = P → q = (P, tabObj ps)) ∧ TabGood qual te ps.toList
section
variable {M : Model} {A : Around} {E : Value → Shared → Prop} {s : Shared} {h₀ : Heap} {L a c P : Addr} {m mg mb : Str → Option Value} {cn : Str} {cs : Scope} {ccd : Value} {cl : List (Str × Addr)} {led te rest : Led}
  {p : Program} {loose : List Str} {mean : ExcName → Option Value} {name qual : Str} {params : Arguments} {body : PySem.Expr} {scope : Scope} {pos : Pos} {firstLine : Nat} {clos : List (Str × Addr)}
theorem lam_te {Q : Value → Shared → Prop} (S : TabSt P qual te) (F : Fr h₀ L s.heap m) (N : News h₀ L s.heap led) (hs : led = rest ++ te) (nt : NoTab rest) (T : Top p loose mean mg mb h₀) (C : CodeHd h₀ c P) (hcd : ccd = .ref c)
    (hcl : closureFor scope (envX cn cs L a ccd cl) = pure clos)
    (h : ∀ (f c' : Addr) (oc : Obj) (vs : Array Value) (t : Tok) (ctv pmv : Value) (te' : Led) (h' : Heap) (tk : Nat), Fr h₀ L h' m → News h₀ L h' ((f, kla_obj name qual params body scope clos pmv c' ctv) :: (rest ++ te')) →
      TabSt P qual te' → (∀ P2 q2, P2 ≠ P → TabSt P2 q2 te → TabSt P2 q2 te') → (c', oc) ∈ te' → oc.data = .fields vs → vs[1]? = some (.str qual t) → Q (.ref f) { s with heap := h', toks := tk }) :
    wpAny M A (makeFunction name qual params (.expr body) scope (envX cn cs L a ccd cl) [] [] [] pos firstLine) Q E s := by
  obtain ⟨ps, hp, hu, hg⟩ := S
  subst hs
  have N₁ := N
  have hP : ∀ q ∈ rest, q.1 ≠ P := fun q hq e => by
    have h1 := (N q (List.mem_append.mpr (.inl hq))).1
    have h2 := (N _ (List.mem_append.mpr (.inr hp))).1
    rw [e, h2] at h1
    exact nt q hq ps (Option.some.inj h1).symm
  cases hc : codeAmong pos ps.toList with
  | some v =>
    obtain ⟨c', oc, vs, t, rfl, k1, k2, k3⟩ := hg.at hc
    refine kla_hit F N₁ T C hcd (List.mem_append.mpr (.inr hp)) hg.triples hc hcl fun f ctv h' tk F' N' _ => ?_
    exact h f c' oc vs t ctv _ te h' tk F' N' ⟨ps, hp, hu, hg⟩ (fun _ _ _ x => x) k1 k2 k3
  | none =>
    let keep := te.filter fun q => q.1 != P
    have mk : ∀ q, q ∈ keep ↔ q ∈ te ∧ q.1 ≠ P := fun q => by simp [keep, List.mem_filter]
    have N₂ : News h₀ L s.heap ((P, tabObj ps) :: (rest ++ keep)) := fun q hq => by
      rcases List.mem_cons.mp hq with rfl | hq
      · exact N₁ _ (List.mem_append.mpr (.inr hp))
      · rcases List.mem_append.mp hq with hq | hq
        · exact N₁ _ (List.mem_append.mpr (.inl hq))
        · exact N₁ _ (List.mem_append.mpr (.inr ((mk q).mp hq).1))
    have U : UpdF P (tabObj ps) ((P, tabObj ps) :: (rest ++ keep)) (fun o' => (P, o') :: (rest ++ keep)) := .head fun q hq => by
      rcases List.mem_append.mp hq with hq | hq
      · exact hP q hq
      · exact ((mk q).mp hq).2
    refine kla_nest F N₂ T C hcd U hg.triples hc hcl fun f c' oc vs t ctv h' tk F' N' k2 k3 above _ => ?_
    have hc'P : c' ≠ P := Nat.ne_of_gt (above (P, tabObj ps) (.head _))
    have hnew : ∀ q ∈ te, q.1 ≠ c' := fun q hq => by
      by_cases e : q.1 = P
      · rw [e]; exact hc'P.symm
      · exact Nat.ne_of_lt (above q (.tail _ (List.mem_append.mpr (.inr ((mk q).mpr ⟨hq, e⟩)))))
    have good : ∀ {q2 : Str} {l : List Value}, TabGood q2 te l → TabGood q2 ((c', oc) :: (P, tabObj (ps ++ #[rawInt pos.line, rawInt pos.col, .ref c'])) :: keep) l := fun hl => hl.mono fun d od ws t' e1 e2 e3 => by
      refine .tail _ (.tail _ ((mk _).mpr ⟨e1, fun e => ?_⟩))
      have := hu _ e1 e
      cases this
      cases e2
      exact hg.notStr e3
    refine h f c' oc vs t ctv ((mg (Str.ofString "__name__")).getD .none) ((c', oc) :: (P, tabObj (ps ++ #[rawInt pos.line, rawInt pos.col, .ref c'])) :: keep) h' tk F' (fun q hq => N' q ?_) ⟨_, .tail _ (.head _), fun q hq e => ?_, ?_⟩ (fun P2 q2 hne st => ?_) (.head _) k2 k3
    · rcases List.mem_cons.mp hq with rfl | hq
      · exact .head _
      · refine .tail _ ?_
        rcases List.mem_append.mp hq with hq | hq
        · exact .tail _ (.tail _ (List.mem_append.mpr (.inl hq)))
        · rcases List.mem_cons.mp hq with rfl | hq
          · exact .head _
          · rcases List.mem_cons.mp hq with rfl | hq
            · exact .tail _ (.head _)
            · exact .tail _ (.tail _ (List.mem_append.mpr (.inr hq)))
    · rcases List.mem_cons.mp hq with rfl | hq
      · exact absurd e hc'P
      · rcases List.mem_cons.mp hq with rfl | hq
        · rfl
        · exact absurd e ((mk q).mp hq).2
    · rw [Array.toList_append]
      exact (good hg).snoc (.head _) k2 k3
    · obtain ⟨ps2, j1, j2, j3⟩ := st
      refine ⟨ps2, .tail _ (.tail _ ((mk _).mpr ⟨j1, hne⟩)), fun q hq e => ?_, good j3⟩
      rcases List.mem_cons.mp hq with rfl | hq
      · exact absurd e.symm (hnew _ j1)
      · rcases List.mem_cons.mp hq with rfl | hq
        · exact absurd e.symm hne
        · exact j2 q ((mk q).mp hq).1 e
end
/-- the three tables -/
abbrev q2 : Str := Str.ofString "_law_two.<locals>.<lambda>"
abbrev q1 : Str := Str.ofString "_law_whole.<locals>.<lambda>"
abbrev q0 : Str := Str.ofString "law.<locals>.<lambda>"
def Tabs (te : Led) : Prop := TabSt 199 q2 te ∧ TabSt 206 q1 te ∧ TabSt 213 q0 te
theorem Tabs.at2 {te : Led} (h : Tabs te) : TabSt 199 q2 te := h.1
theorem Tabs.at1 {te : Led} (h : Tabs te) : TabSt 206 q1 te := h.2.1
theorem Tabs.at0 {te : Led} (h : Tabs te) : TabSt 213 q0 te := h.2.2
theorem Tabs.lam2 {te te' : Led} (h : Tabs te) (h1 : TabSt 199 q2 te') (k : ∀ P2 q2, P2 ≠ 199 → TabSt P2 q2 te → TabSt P2 q2 te') : Tabs te' := ⟨h1, k _ _ (by decide) h.2.1, k _ _ (by decide) h.2.2⟩
theorem Tabs.lam1 {te te' : Led} (h : Tabs te) (h1 : TabSt 206 q1 te') (k : ∀ P2 q2, P2 ≠ 206 → TabSt P2 q2 te → TabSt P2 q2 te') : Tabs te' := ⟨k _ _ (by decide) h.1, h1, k _ _ (by decide) h.2.2⟩
theorem Tabs.lam0 {te te' : Led} (h : Tabs te) (h1 : TabSt 213 q0 te') (k : ∀ P2 q2, P2 ≠ 213 → TabSt P2 q2 te → TabSt P2 q2 te') : Tabs te' := ⟨k _ _ (by decide) h.1, k _ _ (by decide) h.2.1, h1⟩
theorem tabs_start : Tabs [(206, tabObj #[]), (199, tabObj #[]), (213, tabObj #[])] :=
  ⟨⟨#[], by simp, by simp, .nil⟩, ⟨#[], by simp, by simp, .nil⟩, ⟨#[], by simp, by simp, .nil⟩⟩
end Mine
end
section
open PySem PySem.W PySem.Spec PySem.Calls PyProof.Rows
set_option maxRecDepth 100000
set_option maxHeartbeats 8000000
set_option Elab.async false
namespace Mine
section
variable {w : World} {p : Program} {loose : List Str} {mean : ExcName → Option Value} {mg mb : Str → Option Value} {A₀ A : Around} {base g : Heap} {outer : List Env} {L : Addr} {env : Env} {s : Shared} {st : Stmt} {rest : List Stmt} {Q : Flow → Shared → Prop} {E : Value → Shared → Prop}
/-- one statement of a callee by itself: what it made falls away behind it, its names are told by R -/
theorem wcut (pre : Led) (R : (Str → Option Value) → Prop) {h₀ : Heap} {tk₀ : Nat} {g₁ : Heap} {news : Led}
    (XB : (Mine.hd.heap_39 w.params).In base) (TB : Top p loose mean mg mb base) (B₁ : Below A₀ base outer g₁) (N₁ : News g₁ L h₀ news) (K₁ : KtsTurn (frs outer) g g₁)
    (h1 : ∀ Q2 : Flow → Shared → Prop, (∀ kg h' tk te m, Tabs te → KtsTurn (frs outer) g kg → Below A₀ base outer kg → KtsDicts (frs outer) kg → Fr kg L h' m → News kg L h' (pre ++ te) → R m → Q2 .next { s with heap := h', toks := tk }) → wpAny (model PySem.Challenge.rw_at5001_01.row.prog w) A (exec st env) Q2 E { s with heap := h₀, toks := tk₀ })
    (h2 : ∀ kg h' tk te m, Tabs te → KtsTurn (frs outer) g kg → Below A₀ base outer kg → KtsDicts (frs outer) kg → Fr kg L h' m → News kg L h' (pre ++ te) → R m → (Mine.hd.heap_39 w.params).In kg → Top p loose mean mg mb kg → wpAny (model PySem.Challenge.rw_at5001_01.row.prog w) A (execs rest env) Q E { s with heap := h', toks := tk }) :
    wpAny (model PySem.Challenge.rw_at5001_01.row.prog w) A (execs (st :: rest) env) Q E { s with heap := h₀, toks := tk₀ } :=
  wpAny_execs_cons (h1 _ fun kg h' tk te m TS KT B' D F N' r => h2 kg h' tk te m TS KT B' D F N' r (XB.keeps B'.stays) (TB.keeps B'.stays))
/-- as wcut, over a ground that stays -/
theorem wcut0 (pre : Led) (R : (Str → Option Value) → Prop) {h₀ : Heap} {tk₀ : Nat} {news : Led} (N₁ : News g L h₀ news)
    (h1 : ∀ Q2 : Flow → Shared → Prop, (∀ h' tk m, Fr g L h' m → News g L h' pre → R m → Q2 .next { s with heap := h', toks := tk }) → wpAny (model PySem.Challenge.rw_at5001_01.row.prog w) A (exec st env) Q2 E { s with heap := h₀, toks := tk₀ })
    (h2 : ∀ h' tk m, Fr g L h' m → News g L h' pre → R m → wpAny (model PySem.Challenge.rw_at5001_01.row.prog w) A (execs rest env) Q E { s with heap := h', toks := tk }) :
    wpAny (model PySem.Challenge.rw_at5001_01.row.prog w) A (execs (st :: rest) env) Q E { s with heap := h₀, toks := tk₀ } :=
  wpAny_execs_cons (h1 _ fun h' tk m F N r => h2 h' tk m F N r)
end
end Mine
end
section
open PySem PySem.W PySem.Spec PySem.Calls PyProof.Rows
namespace Mine
theorem ints_pop {ws : List Value} {l : List Int} {n : Nat} (h : IntsAre ws l) (e : l.length = n + 1) : ∃ x t vs ns, ws = .int x t :: vs ∧ IntsAre vs ns ∧ ns.length = n := by
  cases h with
  | nil => cases e
  | cons x t h => exact ⟨x, t, _, _, rfl, h, by simpa using e⟩
theorem ints7 {ws : List Value} {l : List Int} (h : IntsAre ws l) (e : l.length = 7) : ∃ x0 x1 x2 x3 x4 x5 x6 t0 t1 t2 t3 t4 t5 t6, ws = [.int x0 t0, .int x1 t1, .int x2 t2, .int x3 t3, .int x4 t4, .int x5 t5, .int x6 t6] := by
  obtain ⟨x0, t0, v0, n0, rfl, h, e⟩ := ints_pop h e
  obtain ⟨x1, t1, v1, n1, rfl, h, e⟩ := ints_pop h e
  obtain ⟨x2, t2, v2, n2, rfl, h, e⟩ := ints_pop h e
  obtain ⟨x3, t3, v3, n3, rfl, h, e⟩ := ints_pop h e
  obtain ⟨x4, t4, v4, n4, rfl, h, e⟩ := ints_pop h e
  obtain ⟨x5, t5, v5, n5, rfl, h, e⟩ := ints_pop h e
  obtain ⟨x6, t6, v6, n6, rfl, h, e⟩ := ints_pop h e
  cases h with
  | nil => exact ⟨_, _, _, _, _, _, _, _, _, _, _, _, _, _, rfl⟩
  | cons => cases e
theorem len7 (w : List Int) : (List.take 7 (List.take 7 w ++ (List.replicate 7 [(0 : Int)]).flatten)).length = 7 := by
  simp [List.length_take]
/-- the ground that no frame above can turn is the ground itself -/
theorem fr_back {g kg h : Heap} {L : Addr} {m : Str → Option Value} (T : KtsTurn [] g kg) (F : Fr kg L h m) : Fr g L h m :=
  ⟨F.ns, fun b o e => F.keep b o (T.other b o e (List.not_mem_nil)), by rw [← T.size]; exact F.above⟩
theorem news_back {g kg h : Heap} {L : Addr} {led : Led} (T : KtsTurn [] g kg) (N : News kg L h led) : News g L h led := fun p hp => ⟨(N p hp).1, (N p hp).2.1, by
  cases e : g.get? p.1 with
  | none => rfl
  | some o => have := T.other _ _ e (List.not_mem_nil); rw [(N p hp).2.2] at this; cases this⟩
def IntBack (P : Int → Prop) (s : Shared) (v : Value) (s' : Shared) : Prop := ∃ i ti tk, v = .int i ti ∧ P i ∧ s' = { s with toks := tk }
theorem IntBack.mk {P : Int → Prop} {s : Shared} {i : Int} {ti : Tok} {tk : Nat} (h : P i) : IntBack P s (.int i ti) { s with toks := tk } := ⟨_, _, _, rfl, h, rfl⟩
theorem if_cut {M : Model} {A : Around} {E : Value → Shared → Prop} {s : Shared} {t : Sem Value} {Q : Value → Shared → Prop} (P : Int → Prop) (h1 : wpAny M A t (IntBack P s) E s) (h2 : ∀ i ti tk, P i → Q (.int i ti) { s with toks := tk }) : wpAny M A t Q E s :=
  wpAny_mono h1 (fun v s' h => by obtain ⟨i, ti, tk, rfl, hp, rfl⟩ := h; exact h2 i ti tk hp) fun _ _ e => e
def InLow (i : Int) : Prop := i ≠ 0 ∧ -12 ≤ i ∧ i ≤ 12
theorem low_pos {x : Int} : InLow (1 + (x.fdiv 2).fmod 12) := by
  have h1 := fmod_lo (x.fdiv 2) (n := 12) (by decide)
  have h2 := fmod_hi (x.fdiv 2) (n := 12) (by decide)
  unfold InLow
  omega
theorem low_neg {x : Int} : InLow (-(1 + (x.fdiv 2).fmod 12)) := by
  have h1 := fmod_lo (x.fdiv 2) (n := 12) (by decide)
  have h2 := fmod_hi (x.fdiv 2) (n := 12) (by decide)
  unfold InLow
  omega
theorem top_rng {x : Int} : -20 ≤ x.fmod 41 - 20 ∧ x.fmod 41 - 20 ≤ 20 := by
  have h1 := fmod_lo x (n := 41) (by decide)
  have h2 := fmod_hi x (n := 41) (by decide)
  omega
theorem n_rng {x : Int} : -15 ≤ x.fmod 31 - 15 ∧ x.fmod 31 - 15 ≤ 15 := by
  have h1 := fmod_lo x (n := 31) (by decide)
  have h2 := fmod_hi x (n := 31) (by decide)
  omega
end Mine
end
section
open PySem PySem.W PySem.Spec PySem.Calls PyProof.Rows
set_option maxRecDepth 100000
set_option maxHeartbeats 8000000
set_option Elab.async false
namespace Mine
def lawParts : List Stmt × Scope := match PySem.Challenge.pw_at5001_01.main.body.getLast? with
  | some (.FunctionDef _ _ b _ _ _ sc _ _ _) => (b, sc)
  | _ => ([], { kind := .function, names := [], isGenerator := false, isCoroutine := false })
def lawFor (n : Nat) : List Stmt := match lawParts.1[n]? with
  | some (.For _ _ b ..) => b
  | _ => []
abbrev lawEnv (sc : Scope) (L fa : Addr) : Env := envOfC (Str.ofString "law") sc L fa (.ref 215)
end Mine
end
section
open PySem PySem.W PySem.Spec PySem.Calls PyProof.Rows
set_option maxRecDepth 100000
set_option maxHeartbeats 8000000
set_option Elab.async false
namespace Mine
theorem item_at {prog : Program} {w : World} {A : Around} {E : Value → Shared → Prop} {s : Shared} {h₀ : Heap} {L : Addr} {news : Led} {value slice : PySem.Expr} {l : Addr} {vs : List Value} {n : Nat} {k : Int} {u : Tok} {v : Value} {Q : Value → Shared → Prop}
    (N : News h₀ L s.heap news) (hm : (l, listOf vs.toArray n) ∈ news) (h0 : 0 ≤ k) (hhi : k < 2 ^ 63) (hx : vs[k.toNat]? = some v) (h : Q v s)
    (hs : subscripted slice false (.ref l) (.int k u) = operate [.ref l, .int k u] (getItem (.ref l) (.int k u)) := by with_unfolding_all rfl) :
    wpAny (model prog w) A (subscriptTail value slice (.ref l) (.int k u)) Q E s := by
  have hl : s.heap.IsList l vs.toArray := ⟨_, (N _ hm).1, rfl, n, rfl⟩
  exact tail_any hl.typeIs slot_list_getitem.lookup (wpAny_getItem_list hl h0 hhi (by simpa using hx) h) hs
end Mine
namespace Mine
theorem ite_two {c : Prop} [Decidable c] {a b : Prop} (h1 : c → a) (h2 : ¬ c → b) : if c then a else b := by split; exact h1 ‹_›; exact h2 ‹_›
end Mine
namespace Mine
theorem ne_cell {h₀ h : Heap} {L d : Addr} {news : Led} {p : Addr × Obj} {od : Obj} {v : Option Value} (N : News h₀ L h news) (h1 : p ∈ news) (h2 : (d, od) ∈ news) (hd : od.data = .cell v) (ho : ∀ u, p.2.data ≠ .cell u) : p.1 ≠ d := fun e => by
  have e1 := (N _ h1).1
  have e2 := (N _ h2).1
  rw [e, e2] at e1
  exact ho v (by rw [← Option.some.inj e1]; exact hd)
def NoCell (te : Led) : Prop := ∀ p ∈ te, ∀ u, p.2.data ≠ .cell u
theorem te_off {h₀ h : Heap} {L d : Addr} {news te : Led} {od : Obj} {v : Option Value} (N : News h₀ L h news) (hs : ∀ p ∈ te, p ∈ news) (h2 : (d, od) ∈ news) (hd : od.data = .cell v) (ht : NoCell te) : ∀ p ∈ te, p.1 ≠ d :=
  fun p hp => ne_cell N (hs p hp) h2 hd (ht p hp)
end Mine
namespace Mine
def isCellD : Data → Bool
  | .cell _ => true
  | _ => false
theorem notCell_of {d : Data} (h : isCellD d = false) : ∀ u, d ≠ .cell u := fun u e => by rw [e] at h; cases h
end Mine
namespace Mine
theorem neg_is {r : Rat} {a b : Int} (h : r = Rat.divInt a b) : -r = Rat.divInt (-a) b := by rw [h, Rat.neg_divInt]
/-- what the law draws: small parts -/
structure Sm (r : Rat) : Prop where
  num : -20 ≤ r.num ∧ r.num ≤ 20
  den : 0 < (r.den : Int) ∧ (r.den : Int) ≤ 12
theorem Sm.bd {r : Rat} (h : Sm r) : Bd r := ⟨by have := h.num; omega, by have := h.den; omega⟩
theorem Sm.eq (r : Rat) : r = Rat.divInt r.num r.den := (Rat.num_divInt_den r).symm
end Mine
end
section
open PySem PySem.W PySem.Spec PySem.Calls PyProof.Rows
set_option maxRecDepth 100000
set_option maxHeartbeats 8000000
set_option Elab.async false
namespace Mine
section
variable {prog : Program} {w : World} {A : Around} {E : Value → Shared → Prop} {s : Shared}
theorem bool_new_ref (x : Value) : MeetsIn prog w (Builtin.«bool.__new__» ⟨[.type "bool", x], []⟩)
    (fun A R s => wpAny (model prog w) A.in1 (truthy x) (fun b s' => R (.ok (.ret (.bool b))) s') (fun e s' => R (.error e) s') s) :=
  .of_wp fun A R s h => by
    have f1 := F.conv_sub_bool
    repeat (any_goals (first | assumption | (refine wpAny_mono h ?_ ?_) | wp_step))
    · intro b s' hb
      repeat (any_goals (first | assumption | wp_step))
      exact ⟨_, rfl, hb⟩
    · exact fun _ _ h => h
theorem call_bool_x {x : Value} {Q : Value → Shared → Prop} (h : wpAny (model prog w) A.in1.in1 (truthy x) (fun b s' => Q (.bool b) s') E s) : wpAny (model prog w) A (call (.type "bool") [x]) Q E s :=
  callType_newIn F.called_bool F.newNe_bool (F.typeCall_bool_1 x) (F.newCall_bool_1 x) (fun obj => F.args_object_init_2 obj x) F.entry_bool_new (bool_new_ref x)
    (wpAny_mono h (fun b s' hb => ⟨PyProof.Rows.typeIs_bool _ _, hb⟩) fun _ _ y => y)
end
end Mine
namespace Mine
theorem ne_str_same {prog : Program} {w : World} {A : Around} {E : Value → Shared → Prop} {s : Shared} {x y : Str} {t u : Tok} {Q : Value → Shared → Prop} (e : x = y) (h : Q (.bool false) s) : wpAny (model prog w) A (compareOp .NotEq (.str x t) (.str y u)) Q E s := by
  subst e
  refine PyProof.Rows.ne_str ?_
  have e2 : (x != x) = false := by simp [bne]
  rw [e2]
  exact h
end Mine
end
section
open PySem PySem.W PySem.Spec PySem.Calls PyProof.Rows
set_option maxRecDepth 100000
set_option maxHeartbeats 8000000
set_option Elab.async false
namespace Mine
def lawFor2 : List Stmt := match ((lawFor 6)[4]? : Option Stmt) with
  | some (.For _ _ b _ _) => b
  | _ => []
/-- a table or a code -/
def isTab (o : Obj) : Bool := match o.data with
  | .fields vs => (match o.cls with
    | .none => true
    | _ => (match (vs[1]? : Option Value) with
      | some (.str _ _) => true
      | _ => false))
  | _ => false
theorem isTab_tab (ps : Array Value) : isTab (tabObj ps) = true := rfl
theorem isTab_code {o : Obj} {vs : Array Value} {q : Str} {t : Tok} (h : o.data = .fields vs) (h2 : vs[1]? = some (.str q t)) : isTab o = true := by
  unfold isTab
  rw [h]
  simp only [h2]
  split <;> rfl
theorem isTab_itR (a b : Int) : isTab (itR a b) = false := rfl
def cleanT (te : Led) : Led := te.filter fun p => isTab p.2
theorem cleanT_mem {te : Led} {p : Addr × Obj} : p ∈ cleanT te ↔ p ∈ te ∧ isTab p.2 = true := by unfold cleanT; rw [List.mem_filter]
theorem TabSt.clean {P : Addr} {qual : Str} {te : Led} (h : TabSt P qual te) : TabSt P qual (cleanT te) := by
  obtain ⟨ps, h1, h2, h3⟩ := h
  exact ⟨ps, cleanT_mem.mpr ⟨h1, isTab_tab ps⟩, fun q hq => h2 q (cleanT_mem.mp hq).1, h3.mono fun c oc vs t k1 k2 k3 => cleanT_mem.mpr ⟨k1, isTab_code k2 k3⟩⟩
theorem Tabs.clean {te : Led} (h : Tabs te) : Tabs (cleanT te) := ⟨h.1.clean, h.2.1.clean, h.2.2.clean⟩
theorem cleanT_noCell {te : Led} : NoCell (cleanT te) := fun p hp u e => by
  have h := (cleanT_mem.mp hp).2
  unfold isTab at h
  rw [e] at h
  cases h
theorem range_turns {prog : Program} {w : World} {A : Around} {E : Value → Shared → Prop} {h₀ : Heap} {env : Env} {x : Str} {body : List Stmt} {Q : Flow → Shared → Prop} {s : Shared} {I : Addr} {n : Nat}
    {pre : Led} (hpre : ∀ p ∈ pre, p.1 < I) {Inv : (Str → Option Value) → Prop}
    (turn : ∀ (i : Nat) (t : Tok) (it : Obj) (m : Str → Option Value) (te : Led) (s' : Shared) (Q' : Flow → Shared → Prop), i < n → (∃ a b, it = itR a b) → Tabs te → Inv m →
      Fr h₀ env.locals s'.heap (fun y => if y = x then some (.int (i : Int) t) else m y) → News h₀ env.locals s'.heap ((I, it) :: (pre ++ te)) →
      (∀ m' h' tk' te', Tabs te' → Inv m' → Fr h₀ env.locals h' m' → News h₀ env.locals h' ((I, it) :: (pre ++ te')) → Q' .next { s' with heap := h', toks := tk' }) → wpAny (model prog w) A (execs body env) Q' E s')
    (fin : ∀ m h tk te, Tabs te → Inv m → Fr h₀ env.locals h m → News h₀ env.locals h (pre ++ te) → Q .next { s with heap := h, toks := tk }) :
    ∀ k i m te, i + k = n → Tabs te → Inv m → RangeRest prog w A E h₀ env x body Q s I 0 n k i m (pre ++ te) := by
  intro k
  induction k with
  | zero => exact fun i m te _ TS hm => RangeRest.zero fun h tk F N => fin m h tk te TS hm F N
  | succ k ih =>
    intro i m te hi TS hm
    refine RangeRest.succ fun t h tk F N => ?_
    rw [Int.zero_add] at F
    refine turn i t _ m te _ _ (by omega) ⟨_, _, rfl⟩ TS hm F N fun m' h' tk' te' TS' hm' F' N' => ?_
    refine UnrEnd.intro F' N' (pre ++ cleanT te') (fun p hp => ?_) (fun p hp => ?_) (ih (i + 1) m' _ (by omega) TS'.clean hm')
    · rcases List.mem_cons.mp hp with rfl | hp
      · exact .head _
      · refine .tail _ ?_
        rcases List.mem_append.mp hp with hp | hp
        · exact List.mem_append_left _ hp
        · exact List.mem_append_right _ (cleanT_mem.mp hp).1
    · rcases List.mem_append.mp hp with hp | hp
      · exact Nat.ne_of_lt (hpre p hp)
      · intro e
        obtain ⟨hp, ht⟩ := cleanT_mem.mp hp
        have h1 := (N' p (.tail _ (List.mem_append_right _ hp))).1
        have h2 := (N' _ (.head _)).1
        rw [e] at h1
        rw [← Option.some.inj (h2.symm.trans h1)] at ht
        rw [isTab_itR] at ht
        cases ht
end Mine
namespace Mine
def Stop (P : Prop) : Prop := P
theorem Stop.mk {P : Prop} (h : Stop P) : P := h
end Mine
end
section
open PySem PySem.W PySem.Spec PySem.Calls PyProof.Rows
set_option maxRecDepth 100000
set_option maxHeartbeats 8000000
set_option Elab.async false
namespace Mine
theorem abs_mul_le {a b : Int} {m n : Nat} (ha : a.natAbs ≤ m) (hb : b.natAbs ≤ n) : (a * b).natAbs ≤ m * n := by
  rw [Int.natAbs_mul]; exact Nat.mul_le_mul ha hb
theorem Sm.na {r : Rat} (h : Sm r) : r.num.natAbs ≤ 20 := by have := h.num; omega
theorem Sm.da {r : Rat} (h : Sm r) : ((r.den : Int)).natAbs ≤ 12 := by have := h.den; omega
theorem Sm.add {r q : Rat} (h : Sm r) (k : Sm q) : Bd (r + q) := by
  rw [← rat_add_eq]
  have h1 := abs_mul_le h.na k.da
  have h2 := abs_mul_le k.na h.da
  have h3 := abs_mul_le h.da k.da
  exact Bd.divInt (by omega) (den_mul_ne _ _) (by omega)
theorem Sm.mul {r q : Rat} (h : Sm r) (k : Sm q) : Bd (r * q) := by
  rw [← rat_mul_eq]
  have h1 := abs_mul_le h.na k.na
  have h3 := abs_mul_le h.da k.da
  exact Bd.divInt (by omega) (den_mul_ne _ _) (by omega)
theorem not_ne {p q : Rat} (h : p = q) : ¬ ((!decide (p = q)) = true) := by rw [decide_eq_true h]; decide
theorem ne_tt {p q : Rat} (h : ¬ p = q) : (!decide (p = q)) = true := by rw [decide_eq_false h]; rfl
end Mine
namespace Mine
theorem fdiv_rng {wh d : Int} (hw : 0 < wh ∧ wh ≤ 1728) (hd : 0 < d ∧ d ≤ 12) : 0 ≤ wh.fdiv d ∧ wh.fdiv d ≤ 1728 := by
  rw [Int.fdiv_eq_ediv_of_nonneg _ (by omega)]
  exact ⟨Int.ediv_nonneg (by omega) (by omega), Int.le_trans (Int.ediv_le_self _ (by omega)) hw.2⟩
end Mine
namespace Mine
abbrev rngObj (a b c : Int) (t u v : Tok) : Obj := { cls := .type "range", data := .fields #[.int a t, .int b u, .int c v] }
theorem range_in {h₀ h : Heap} {L r : Addr} {m : Str → Option Value} {news : Led} {a b c : Int} {t u v : Tok} (F : Fr h₀ L h m) (N : News h₀ L h news) (R : IsRange h r a b c t u v) (hr : L < r) : News h₀ L h ((r, rngObj a b c t u v) :: news) := fun p hp => by
  rcases List.mem_cons.mp hp with rfl | hp
  · exact ⟨R, Nat.ne_of_gt hr, Heap.get?_none_of_le (Nat.le_trans F.above (Nat.le_of_lt hr))⟩
  · exact N p hp
theorem range_at {h₀ h : Heap} {L r : Addr} {news : Led} {a b c : Int} {t u v : Tok} (N : News h₀ L h news) (hm : (r, rngObj a b c t u v) ∈ news) : IsRange h r a b c t u v := (N _ hm).1
end Mine
namespace Mine
theorem news_dup {h₀ h : Heap} {L : Addr} {news few : Led} {p : Addr × Obj} (N : News h₀ L h news) (hs : ∀ q ∈ few, q ∈ news) (hp : p ∈ few) : News h₀ L h (p :: news) := fun q hq => by
  rcases List.mem_cons.mp hq with rfl | hq
  · exact N _ (hs _ hp)
  · exact N q hq
end Mine
namespace Mine
theorem Bd.of_div {r : Rat} {a b : Int} (h : r = Rat.divInt a b) (ha : a.natAbs < 32768) (hb : b ≠ 0) (hb' : b.natAbs < 32768) : Bd r := by rw [h]; exact Bd.divInt ha hb hb'
theorem bd_n1 {n : Int} {r : Rat} (hn : -15 ≤ n ∧ n ≤ 15) (h : Sm r) : Bd ((n : Rat) + r) := by
  have h1 := abs_mul_le (a := n) (m := 15) (by omega) h.da
  have h2 := h.na
  have h3 := h.da
  exact Bd.of_div (w_radd (n := n) (Sm.eq r) (den_ne r)) (by omega) (den_ne r) (by omega)
theorem bd_n2 {n : Int} {r q : Rat} (hn : -15 ≤ n ∧ n ≤ 15) (h : Sm r) (k : Sm q) : Bd ((n : Rat) + r + q) := by
  have h1 := abs_mul_le (a := n) (m := 15) (by omega) h.da
  have h2 := h.na
  have h3 := h.da
  have e1 := w_radd (n := n) (Sm.eq r) (den_ne r)
  have e2 := two_add e1 (Sm.eq q) (den_ne r) (den_ne q)
  have h4 := abs_mul_le (a := r.num + n * r.den) (m := 200) (by omega) k.da
  have h5 := abs_mul_le k.na h.da
  have h6 := abs_mul_le h.da k.da
  exact Bd.of_div e2 (by omega) (den_mul_ne r q) (by omega)
theorem bd_r0 {r : Rat} (h : Bd r) : Bd (((0 : Int) : Rat) + r) := by rw [show ((0 : Int) : Rat) = 0 from rfl, Rat.zero_add]; exact h
theorem bd_r00 {r q : Rat} (h : Bd (r + q)) : Bd (((0 : Int) : Rat) + r + q) := by rw [show ((0 : Int) : Rat) = 0 from rfl, Rat.zero_add]; exact h
end Mine
namespace Mine
/-- three in their order -/
inductive Srt (r1 r2 r3 : Rat) (x1 x2 x3 : Addr) : Rat → Rat → Rat → Addr → Addr → Addr → Prop
  | p123 : r1 ≤ r2 → r2 ≤ r3 → Srt r1 r2 r3 x1 x2 x3 r1 r2 r3 x1 x2 x3
  | p132 : r1 ≤ r3 → r3 ≤ r2 → Srt r1 r2 r3 x1 x2 x3 r1 r3 r2 x1 x3 x2
  | p213 : r2 ≤ r1 → r1 ≤ r3 → Srt r1 r2 r3 x1 x2 x3 r2 r1 r3 x2 x1 x3
  | p231 : r2 ≤ r3 → r3 ≤ r1 → Srt r1 r2 r3 x1 x2 x3 r2 r3 r1 x2 x3 x1
  | p312 : r3 ≤ r1 → r1 ≤ r2 → Srt r1 r2 r3 x1 x2 x3 r3 r1 r2 x3 x1 x2
  | p321 : r3 ≤ r2 → r2 ≤ r1 → Srt r1 r2 r3 x1 x2 x3 r3 r2 r1 x3 x2 x1
end Mine
namespace Mine
theorem lt_absurd {a b : Rat} (h : a < b) (k : b < a) : False := Rat.not_lt.mpr (Rat.le_of_lt h) k
end Mine
end
section
open PySem PySem.W PySem.Spec PySem.Calls PyProof.Rows
set_option maxRecDepth 100000
set_option maxHeartbeats 8000000
set_option Elab.async false
namespace Mine
section
variable {prog : Program} {w : World} {A : Around} {E : Value → Shared → Prop} {s : Shared}
theorem iadd_range {R : Result → Shared → Prop} {r S : Addr} {a b c : Int} {t u v : Tok} {n c₀ : Nat} (hh : A.handled = none) (hr : IsRange s.heap r a b c t u v) (hsmall : Builtin.Range.small a b c = true)
    (hn : Builtin.Range.rangeSize a b c = n) (hlen : n ≤ 2 ^ 24) (hS : s.heap.get? S = some { cls := .type "list", data := .seq #[] c₀ })
    (hR : ∀ h' tk acc' c', (∀ b o, b ≠ S → s.heap.get? b = some o → h'.get? b = some o) → h'.get? S = some { cls := .type "list", dict := none, data := .seq acc' c', slots := #[] } →
      ItemsOf (fun i v => ∃ t, v = .int (a + i * c) t) acc' n → R (.ok (.ret (.ref S))) { s with heap := h', toks := tk }) :
    codeAny (model prog w) A (.builtin "list.__iadd__" ⟨[.ref S, .ref r], []⟩) R s := by
  refine codeAny_builtin F.entry_list_iadd ?_
  rw [Around.under_plainId F.plain_list_iadd _]
  exact wpAny_extend_range hh hr hsmall hn hlen _ _ _ hS hR
theorem collect_range {r : Addr} {a b c : Int} {t u v : Tok} {n : Nat} {Q : List Value → Shared → Prop} (hh : A.handled = none) (hr : IsRange s.heap r a b c t u v) (hsmall : Builtin.Range.small a b c = true)
    (hn : Builtin.Range.rangeSize a b c = n) (hlen : n ≤ 2 ^ 24)
    (hQ : ∀ h' tk acc, (∀ b o, s.heap.get? b = some o → h'.get? b = some o) → ItemsOf (fun i v => ∃ t, v = .int (a + i * c) t) acc n → Q acc.toList { s with heap := h', toks := tk }) :
    wpAny (model prog w) A (collect (.ref r)) Q E s := by
  unfold collect
  refine wpAny_bind (wpAny_runValue (codeAny_builtin F.entry_proto_collect ?_))
  rw [Around.under_plainId F.plain_proto_collect _]
  show wpAny _ A.in1 (newList [] >>= fun l => again (.builtin "list.__iadd__" ⟨[l, .ref r], []⟩)) _ _ s
  refine wpAny_bind (wpAny_newObj_type ?_)
  refine wpAny_pure ⟨plainId_quiet F.plain_list_iadd _, iadd_range (s := { s with heap := s.heap.push { cls := .type "list", data := .seq ([] : List Value).toArray } }) hh (Heap.get?_push_of_some _ hr) hsmall hn hlen (Heap.get?_push_size _ rfl) fun h' tk acc' c' hk hS' hacc => ?_⟩
  show wpAny _ A (load s.heap.objs.size >>= _) _ _ _
  refine wpAny_bind (wpAny_load hS' ?_)
  exact wpAny_pure (hQ h' tk acc' (fun b o e => hk b o (Nat.ne_of_lt (Heap.lt_size e)) (Heap.get?_push_of_some _ e)) hacc)
end
section
variable {prog : Program} {w : World} {A : Around} {E : Value → Shared → Prop} {s : Shared} {h₀ : Heap} {L l : Addr} {m : Str → Option Value} {news : Led} {Q : Value → Shared → Prop}
theorem items3 {acc : Array Value} {a c : Int} (h : ItemsOf (fun i v => ∃ t, v = .int (a + i * c) t) acc 3) : ∃ t0 t1 t2, acc.toList = [.int (a + (0 : Nat) * c) t0, .int (a + (1 : Nat) * c) t1, .int (a + (2 : Nat) * c) t2] := by
  obtain ⟨h1, h2⟩ := h
  obtain ⟨l⟩ := acc
  match l, h1 with
  | [x, y, z], _ =>
    obtain ⟨t0, e0⟩ := h2 0 x rfl
    obtain ⟨t1, e1⟩ := h2 1 y rfl
    obtain ⟨t2, e2⟩ := h2 2 z rfl
    exact ⟨t0, t1, t2, by rw [e0, e1, e2]⟩
/-- the places of three keys in their order -/
def Ord (a b c o0 o1 o2 : Int) : Prop := (o0 = 0 ∧ o1 = 1 ∧ o2 = 2 ∧ a ≤ b ∧ b ≤ c) ∨ (o0 = 0 ∧ o1 = 2 ∧ o2 = 1 ∧ a ≤ c ∧ c ≤ b) ∨ (o0 = 1 ∧ o1 = 0 ∧ o2 = 2 ∧ b ≤ a ∧ a ≤ c) ∨ (o0 = 1 ∧ o1 = 2 ∧ o2 = 0 ∧ b ≤ c ∧ c ≤ a) ∨ (o0 = 2 ∧ o1 = 0 ∧ o2 = 1 ∧ c ≤ a ∧ a ≤ b) ∨ (o0 = 2 ∧ o1 = 1 ∧ o2 = 0 ∧ c ≤ b ∧ b ≤ a)
theorem sorted_range3 {f : Addr} (k₁ k₂ k₃ : Int) {tr ur vr : Tok} (hh : A.handled = none) (F : Fr h₀ L s.heap m) (N : News h₀ L s.heap news) (hr : IsRange s.heap l 0 3 1 tr ur vr)
    (turn : ∀ (i : Nat) (t : Tok) (k : Int), ([k₁, k₂, k₃] : List Int)[i]? = some k → ∀ (h : Heap) (tk : Nat) (own : Led), Fr h₀ L h m → News h₀ L h (news ++ own) →
      wpAny (model prog w) A.in1.in1 (call (.ref f) [.int i t]) (KskEnd h₀ L m (news ++ own) k { s with heap := h, toks := tk }) (fun _ _ => False) { s with heap := h, toks := tk })
    (h : ∀ D c h' tk (o0 o1 o2 : Int) (t0 t1 t2 : Tok), Ord k₁ k₂ k₃ o0 o1 o2 → Fr h₀ L h' m → News h₀ L h' ((D, listOf #[.int o0 t0, .int o1 t1, .int o2 t2] c) :: news) → (∀ q ∈ news, q.1 < D) → Q (.ref D) { s with heap := h', toks := tk }) :
    wpAny (model prog w) A (call (.builtin "sorted") [.ref l] [(Str.ofString "key", .ref f)]) Q E s := by
  refine call_function_entry_kw kind_sorted plain_sorted entry_sorted (ksk_s1 _ _) ?_
  unfold Builtin.«sorted»
  refine wpAny_bind (m := checkCount "sorted" 1 1 _) (wpAny_pure ?_)
  refine wpAny_bind (collect_range (n := 3) hh hr (by decide) (by decide) (by decide) fun h₁ tk₁ acc hk hacc => ?_)
  obtain ⟨t0, t1, t2, ea⟩ := items3 hacc
  have ez : ∀ i : Nat, (0 : Int) + (i : Int) * 1 = (i : Int) := fun i => by omega
  rw [ez, ez, ez] at ea
  rw [ea]
  refine wpAny_bind (wpAny_newList ?_ (by rw [sizeLine_eq]; exact Nat.le_of_ble_eq_true rfl))
  have F1 : Fr h₀ L h₁ m := F.keeps hk
  have N1 : News h₀ L h₁ news := fun p hp => ⟨hk _ _ (N p hp).1, (N p hp).2⟩
  have hoL : (h₁.push (seqObj "list" (List.toArray [Value.int ((0 : Nat) : Int) t0, .int ((1 : Nat) : Int) t1, .int ((2 : Nat) : Int) t2]) 0)).get? h₁.objs.size = some (seqObj "list" (List.toArray [Value.int ((0 : Nat) : Int) t0, .int ((1 : Nat) : Int) t1, .int ((2 : Nat) : Int) t2]) 0) := Heap.get?_push_size _ rfl
  have hL : L < h₁.objs.size := F1.ns.lt
  refine wpAny_bind (wpAny_holding (wpAny_call_entry_kw slot_list_sort ⟨_, hoL, rfl⟩ entry_list_sort ?body (ksk_l1 _ _)))
  case body =>
    show wpAny (model prog w) A.in1.in1 (Builtin.«list.sort» ⟨[.ref h₁.objs.size], [(Str.ofString "key", .ref f)]⟩) _ _ _
    rw [ksk_t1 f h₁.objs.size]
    refine ksk_sort (s := { s with heap := h₁.push (seqObj "list" (List.toArray [Value.int ((0 : Nat) : Int) t0, .int ((1 : Nat) : Int) t1, .int ((2 : Nat) : Int) t2]) 0), toks := tk₁ }) (kz := [k₁, k₂, k₃])
      (F1.kept fun b o e => Heap.get?_push_of_some _ e) (N1.grown fun b o e => Heap.get?_push_of_some _ e) hoL (Nat.ne_of_gt hL) (Heap.get?_none_of_le (Nat.le_trans F1.above (Nat.le_of_lt hL)))
      (fun p hp => Nat.ne_of_lt (Heap.lt_size (N1 p hp).1)) rfl (Nat.le_of_ble_eq_true rfl) (fun i v k hv hk' h' tk' own F' N' => ?_) fun h' tk' out c F' N' k' => ⟨_, rfl, ?_⟩
    · rcases i with _ | _ | _ | i
      · cases hv; exact turn 0 _ k hk' h' tk' own F' N'
      · cases hv; exact turn 1 _ k hk' h' tk' own F' N'
      · cases hv; exact turn 2 _ k hk' h' tk' own F' N'
      · cases hv
    · obtain ⟨ps, hp, ho, hs⟩ := k'
      refine wpAny_pure ⟨_, rfl, ?_⟩
      have lt : ∀ q ∈ news, q.1 < h₁.objs.size := fun q hq => Heap.lt_size (N1 q hq).1
      have hp' : ps.Perm [(k₁, Value.int ((0 : Nat) : Int) t0), (k₂, .int ((1 : Nat) : Int) t1), (k₃, .int ((2 : Nat) : Int) t2)] := hp
      have fin : ∀ {x y z : Int × Value}, ps = [x, y, z] → x.1 ≤ y.1 ∧ y.1 ≤ z.1 ∧ News h₀ L h' ((h₁.objs.size, listOf #[x.2, y.2, z.2] c) :: news) := by
        intro x y z q
        rw [q] at hs ho
        have e : out = List.toArray [x.2, y.2, z.2] := Array.toList_inj.mp (ho.trans rfl)
        rw [e] at N'
        exact ⟨(List.pairwise_cons.mp hs).1 y (.head _), (List.pairwise_cons.mp (List.pairwise_cons.mp hs).2).1 z (.head _), N'⟩
      rcases ksk_perm3 hp' with q | q | q | q | q | q
      · exact h _ c h' tk' _ _ _ _ _ _ (.inl ⟨rfl, rfl, rfl, (fin q).1, (fin q).2.1⟩) F' (fin q).2.2 lt
      · exact h _ c h' tk' _ _ _ _ _ _ (.inr (.inl ⟨rfl, rfl, rfl, (fin q).1, (fin q).2.1⟩)) F' (fin q).2.2 lt
      · exact h _ c h' tk' _ _ _ _ _ _ (.inr (.inr (.inl ⟨rfl, rfl, rfl, (fin q).1, (fin q).2.1⟩))) F' (fin q).2.2 lt
      · exact h _ c h' tk' _ _ _ _ _ _ (.inr (.inr (.inr (.inl ⟨rfl, rfl, rfl, (fin q).1, (fin q).2.1⟩)))) F' (fin q).2.2 lt
      · exact h _ c h' tk' _ _ _ _ _ _ (.inr (.inr (.inr (.inr (.inl ⟨rfl, rfl, rfl, (fin q).1, (fin q).2.1⟩))))) F' (fin q).2.2 lt
      · exact h _ c h' tk' _ _ _ _ _ _ (.inr (.inr (.inr (.inr (.inr ⟨rfl, rfl, rfl, (fin q).1, (fin q).2.1⟩))))) F' (fin q).2.2 lt
end
end Mine
namespace Mine
/-- a note of the three keys, for the walk to find -/
inductive Keys3 (a b c : Int) : Prop
  | mk : Keys3 a b c
theorem sorted_range3K {prog : Program} {w : World} {A : Around} {E : Value → Shared → Prop} {s : Shared} {h₀ : Heap} {L l : Addr} {m : Str → Option Value} {news : Led} {Q : Value → Shared → Prop} {f : Addr} {k₁ k₂ k₃ : Int} (hK₃ : Keys3 k₁ k₂ k₃) {tr ur vr : Tok} (hh : A.handled = none) (F : Fr h₀ L s.heap m) (N : News h₀ L s.heap news) (hr : IsRange s.heap l 0 3 1 tr ur vr)
    (turn : ∀ (i : Nat) (t : Tok) (k : Int), ([k₁, k₂, k₃] : List Int)[i]? = some k → ∀ (h : Heap) (tk : Nat) (own : Led), Fr h₀ L h m → News h₀ L h (news ++ own) →
      wpAny (model prog w) A.in1.in1 (call (.ref f) [.int i t]) (KskEnd h₀ L m (news ++ own) k { s with heap := h, toks := tk }) (fun _ _ => False) { s with heap := h, toks := tk })
    (h : ∀ D c h' tk (o0 o1 o2 : Int) (t0 t1 t2 : Tok), Ord k₁ k₂ k₃ o0 o1 o2 → Fr h₀ L h' m → News h₀ L h' ((D, listOf #[.int o0 t0, .int o1 t1, .int o2 t2] c) :: news) → (∀ q ∈ news, q.1 < D) → Q (.ref D) { s with heap := h', toks := tk }) :
    wpAny (model prog w) A (call (.builtin "sorted") [.ref l] [(Str.ofString "key", .ref f)]) Q E s := sorted_range3 k₁ k₂ k₃ hh F N hr turn h
end Mine
end
section
open PySem PySem.W PySem.Spec PySem.Calls PyProof.Rows
set_option maxRecDepth 100000
set_option maxHeartbeats 8000000
set_option Elab.async false
set_option linter.unusedVariables false
namespace Mine
/-- a walk down a list of the ledger, with a cell list beside it -/
structure Run (h₀ : Heap) (L : Addr) (m : Str → Option Value) (ax I S : Addr) (i : Nat) (best : Array Value) (rest : Led) (h : Heap) : Prop where
  F : Fr h₀ L h m
  it : h.IsListIter I ax i
  cell : ∃ c, h.get? S = some (listOf best c)
  N : News h₀ L h rest
  off : ∀ p ∈ rest, p.1 ≠ I ∧ p.1 ≠ S
  ne : S ≠ I
  LI : L ≠ I
  LS : L ≠ S
  nI : h₀.get? I = none
  nS : h₀.get? S = none
section
variable {prog : Program} {w : World} {A : Around} {E : Value → Shared → Prop} {s : Shared} {h₀ : Heap} {L ax I S : Addr} {m : Str → Option Value} {i : Nat} {best : Array Value} {rest : Led}
theorem Run.ledger (R : Run h₀ L m ax I S i best rest s.heap) : ∃ o c, o.cls = .type "list_iterator" ∧ o.data = .fields #[.ref ax, .int i 0] ∧ News h₀ L s.heap ((I, o) :: (S, listOf best c) :: rest) := by
  obtain ⟨o, ho, hc, hd⟩ := R.it
  obtain ⟨c, hS⟩ := R.cell
  refine ⟨o, c, hc, hd, fun p hp => ?_⟩
  rcases List.mem_cons.mp hp with rfl | hp
  · exact ⟨ho, R.LI.symm, R.nI⟩
  · rcases List.mem_cons.mp hp with rfl | hp
    · exact ⟨hS, R.LS.symm, R.nS⟩
    · exact R.N p hp
theorem Run.of {o : Obj} {c : Nat} {h' : Heap} {new : Led} (R : Run h₀ L m ax I S i best rest s.heap) (hc : o.cls = .type "list_iterator") (hd : o.data = .fields #[.ref ax, .int i 0]) (F : Fr h₀ L h' m)
    (N : News h₀ L h' (new ++ (I, o) :: (S, listOf best c) :: rest)) (hn : ∀ p ∈ new, p.1 ≠ I ∧ p.1 ≠ S) : Run h₀ L m ax I S i best (new ++ rest) h' where
  F := F
  it := ⟨o, (N _ (List.mem_append_right _ (.head _))).1, hc, hd⟩
  cell := ⟨c, (N _ (List.mem_append_right _ (.tail _ (.head _)))).1⟩
  N := fun p hp => by
    rcases List.mem_append.mp hp with hp | hp
    · exact N p (List.mem_append_left _ hp)
    · exact N p (List.mem_append_right _ (.tail _ (.tail _ hp)))
  off := fun p hp => by
    rcases List.mem_append.mp hp with hp | hp
    · exact hn p hp
    · exact R.off p hp
  ne := R.ne
  LI := R.LI
  LS := R.LS
  nI := R.nI
  nS := R.nS
theorem fr_off {h h' : Heap} {a : Addr} (F : Fr h₀ L h m) (hs : Heap.SameBut a h h') (hL : L ≠ a) (h0 : h₀.get? a = none) : Fr h₀ L h' m :=
  ⟨F.ns.sameBut hs hL, fun b x e => (hs.2 b (fun q => by rw [q, h0] at e; cases e)).trans (F.keep b x e), F.above⟩
theorem news_off {h h' : Heap} {a : Addr} {l : Led} (N : News h₀ L h l) (hs : Heap.SameBut a h h') (hn : ∀ p ∈ l, p.1 ≠ a) : News h₀ L h' l :=
  fun p hp => ⟨(hs.2 p.1 (hn p hp)).trans (N p hp).1, (N p hp).2⟩
theorem Run.next {items : Array Value} {n : Nat} {v : Value} {Q : Option Value → Shared → Prop} (R : Run h₀ L m ax I S i best rest s.heap) (hl : (ax, listOf items n) ∈ rest) (hx : items[i]? = some v)
    (h : ∀ h', Run h₀ L m ax I S (i + 1) best rest h' → Q (some v) { s with heap := h' }) : wpAny (model prog w) A (pyNext (.ref I)) Q E s := by
  refine wpAny_pyNext_list_item R.it ⟨_, (R.N _ hl).1, rfl, n, rfl⟩ hx fun h' hit hs => h h' ?_
  obtain ⟨c, hS⟩ := R.cell
  exact { F := fr_off R.F hs R.LI R.nI, it := hit, cell := ⟨c, (hs.2 S R.ne).trans hS⟩, N := news_off R.N hs fun p hp => (R.off p hp).1, off := R.off, ne := R.ne, LI := R.LI, LS := R.LS, nI := R.nI, nS := R.nS }
theorem Run.stop {items : Array Value} {n : Nat} {Q : Option Value → Shared → Prop} (hh : A.handled = none) (R : Run h₀ L m ax I S i best rest s.heap) (hl : (ax, listOf items n) ∈ rest) (hx : items[i]? = none)
    (h : ∀ h' c, Fr h₀ L h' m → News h₀ L h' ((S, listOf best c) :: rest) → Q none { s with heap := h' }) : wpAny (model prog w) A (pyNext (.ref I)) Q E s := by
  refine wpAny_pyNext_list_end hh R.it ⟨_, (R.N _ hl).1, rfl, n, rfl⟩ hx fun h' hs => ?_
  obtain ⟨c, hS⟩ := R.cell
  refine h h' c ⟨R.F.ns.at' fun o e => hs L o R.LI e, fun b o e => hs b o (fun q => by rw [q, R.nI] at e; cases e) (R.F.keep b o e), R.F.above⟩ fun p hp => ?_
  rcases List.mem_cons.mp hp with rfl | hp
  · exact ⟨hs S _ R.ne hS, R.LS.symm, R.nS⟩
  · exact ⟨hs p.1 p.2 (R.off p hp).1 (R.N p hp).1, (R.N p hp).2⟩
theorem Run.upd {best' : Array Value} {Q : Unit → Shared → Prop} (R : Run h₀ L m ax I S i best rest s.heap) (hz : best.size ≤ 4) (hz' : best'.size ≤ 4)
    (h : ∀ h', Run h₀ L m ax I S i best' rest h' → Q () { s with heap := h' }) : wpAny (model prog w) A (updateSeq S fun _ => best') Q E s := by
  obtain ⟨c, hS⟩ := R.cell
  have hs : Heap.SameBut S s.heap (s.heap.update S (Obj.mapSeq fun _ => best')) := Heap.SameBut.update ..
  refine wpAny_updateSeq hS rfl (h _ ?_) (by rw [sizeLine_eq]; omega) (by show best'.size ≤ _; rw [sizeLine_eq]; omega)
  exact { F := fr_off R.F hs R.LS R.nS, it := R.it.extBut hs.extBut R.ne.symm, cell := ⟨_, get?_update_seq hS fun _ => best'⟩, N := news_off R.N hs fun p hp => (R.off p hp).2, off := R.off, ne := R.ne, LI := R.LI, LS := R.LS, nI := R.nI, nS := R.nS }
theorem Run.best_at {Q : Option (Array Value) → Shared → Prop} (R : Run h₀ L m ax I S i best rest s.heap) (h : Q (some best) s) : wpAny (model prog w) A (seqItems? (.ref S)) Q E s := by
  obtain ⟨c, hS⟩ := R.cell
  exact wpAny_seqItems hS rfl h
/-- a list's iterator and a new list beside it -/
theorem Run.start {items : Array Value} {n : Nat} {Q : Value → Shared → Prop} {news : Led} (F : Fr h₀ L s.heap m) (N : News h₀ L s.heap news) (hl : (ax, listOf items n) ∈ news)
    (h : ∀ I h', (∀ b o, s.heap.get? b = some o → h'.get? b = some o) → h'.objs.size = I + 1 → I = s.heap.objs.size → h'.IsListIter I ax 0 → Q (.ref I) { s with heap := h' }) : wpAny (model prog w) A (pyIter (.ref ax)) Q E s := by
  refine wpAny_pyIter_list ⟨_, (N _ hl).1, rfl, n, rfl⟩ (h _ _ (fun b o e => Heap.get?_push_of_some _ e) (Heap.size_push _ _) rfl ⟨_, Heap.get?_push_size _ rfl, rfl, rfl⟩)
theorem Run.begin {h₁ : Heap} {news : Led} {best : List Value} (F : Fr h₀ L s.heap m) (N : News h₀ L s.heap news) (hk : ∀ b o, s.heap.get? b = some o → h₁.get? b = some o) (hz : h₁.objs.size = I + 1) (hI : I = s.heap.objs.size) (hit : h₁.IsListIter I ax 0) :
    Run h₀ L m ax I h₁.objs.size 0 best.toArray news (h₁.push (seqObj "list" best.toArray 0)) := by
  have lt : ∀ p ∈ news, p.1 < I := fun p hp => by rw [hI]; exact Heap.lt_size (N p hp).1
  have hL : L < I := by rw [hI]; exact F.ns.lt
  have h0 : ∀ b, I ≤ b → h₀.get? b = none := fun b hb => Heap.get?_none_of_le (Nat.le_trans F.above (Nat.le_trans (Nat.le_of_lt hL) hb))
  have keep : ∀ b o, s.heap.get? b = some o → (h₁.push (seqObj "list" best.toArray 0)).get? b = some o := fun b o e => Heap.get?_push_of_some _ (hk b o e)
  obtain ⟨o, ho, r⟩ := hit
  have hIS : @LT.lt Nat _ I h₁.objs.size := by rw [hz]; exact Nat.lt_succ_self _
  have e1 : ∀ p ∈ news, p.1 ≠ I ∧ p.1 ≠ h₁.objs.size := fun p hp => ⟨Nat.ne_of_lt (lt p hp), Nat.ne_of_lt (Nat.lt_trans (lt p hp) hIS)⟩
  have e2 : News h₀ L (h₁.push (seqObj "list" best.toArray 0)) news := fun p hp => ⟨keep _ _ (N p hp).1, (N p hp).2⟩
  exact ⟨F.keeps keep, ⟨o, Heap.get?_push_of_some _ ho, r⟩, ⟨0, Heap.get?_push_size _ rfl⟩, e2, e1, Nat.ne_of_gt hIS, Nat.ne_of_lt hL, Nat.ne_of_lt (Nat.lt_trans hL hIS), h0 _ (Nat.le_refl _), h0 _ (Nat.le_of_lt hIS)⟩
end
end Mine
end
section
open PySem PySem.W PySem.Spec PySem.Calls PyProof.Rows
set_option maxRecDepth 100000
set_option maxHeartbeats 8000000
set_option Elab.async false
set_option linter.unusedVariables false
namespace Mine
section
variable {prog : Program} {w : World} {A : Around} {R : Result → Shared → Prop} {s : Shared} {h₀ : Heap} {L ax I S : Addr} {m : Str → Option Value} {i : Nat} {rest : Led} {items : Array Value} {n : Nat}
def AddBack (h₀ : Heap) (L : Addr) (m : Str → Option Value) (ax I S : Addr) (i : Nat) (total : Value) (s : Shared) (K : Addr → Led → Prop) (r : Value) (s' : Shared) : Prop :=
  ∃ y h' tk rest', r = .ref y ∧ s' = { s with heap := h', toks := tk } ∧ Run h₀ L m ax I S i #[total] rest' h' ∧ K y rest'
abbrev sumCode (I S : Addr) (st : Int) : Code := .builtin "sum.loop" ⟨[.ref I, .ref S, rawInt st, rawInt 0], []⟩
theorem sum_end {y : Addr} (hh : A.in1.handled = none) (Rn : Run h₀ L m ax I S i #[.ref y] rest s.heap) (hl : (ax, listOf items n) ∈ rest) (hx : items[i]? = none)
    (h : ∀ h' c, Fr h₀ L h' m → News h₀ L h' ((S, listOf #[.ref y] c) :: rest) → R (.ok (.ret (.ref y))) { s with heap := h' }) : codeAny (model prog w) A (sumCode I S 2) R s := by
  refine codeAny_builtin F.entry_sum_loop ?_
  rw [Around.under_plainId F.plain_sum_loop _]
  show wpAny _ A.in1 (seqItems? (.ref S) >>= _) _ _ s
  refine wpAny_bind (Rn.best_at ?_)
  show wpAny _ A.in1 (tryCatch (pyNext (.ref I)) _ >>= _) _ _ s
  refine wpAny_bind (wpAny_tryCatch (Rn.stop hh hl hx fun h' c F' N' => ?_))
  exact wpAny_pure (h h' c F' N')
theorem sum_tail {total : Value} {x : Addr} {K : Addr → Led → Prop} {k : Value → Sem PySem.Fin} (hk : ∀ y, k (.ref y) = (updateSeq S (fun _ => #[Value.ref y]) >>= fun _ => again (sumCode I S 2)))
    (hadd : wpAny (model prog w) A.in1 (binaryOp .Add total (.ref x)) (AddBack h₀ L m ax I S i total s K) (fun _ _ => False) s)
    (h : ∀ y rest' h' tk, K y rest' → Run h₀ L m ax I S i #[.ref y] rest' h' → codeAny (model prog w) A (sumCode I S 2) R { s with heap := h', toks := tk }) :
    wpAny (model prog w) A.in1 ((holding [.ref x] (binaryOp .Add total (.ref x))).attempt >>= fun
      | .ok r => (updateSeq S fun _ => #[r]) >>= fun _ => letGo [total, .ref x] >>= fun _ => k r
      | .error e => (updateSeq S fun _ => #[]) >>= fun _ => letGo [total, .ref x] [e] >>= fun _ => throw e)
      (fun fin s' => match fin with | .done f => R (.ok f) s' | .again c' => c'.quiet = true ∧ codeAny (model prog w) A c' R s') (fun e s' => R (.error e) s') s := by
  refine wpAny_bind (wpAny_attempt (wpAny_holding (wpAny_mono hadd (fun r s' hr => ?_) fun _ _ e => e.elim)))
  obtain ⟨y, h', tk, rest', rfl, rfl, Rn, hK⟩ := hr
  dsimp only
  refine wpAny_bind (Run.upd (s := { s with heap := h', toks := tk }) Rn (Nat.le_of_ble_eq_true rfl) (Nat.le_of_ble_eq_true rfl) fun h2 R2 => ?_)
  refine wpAny_bind (wpAny_letGo ?_)
  rw [hk]
  refine wpAny_bind (Run.upd (s := { s with heap := h2, toks := tk }) R2 (Nat.le_of_ble_eq_true rfl) (Nat.le_of_ble_eq_true rfl) fun h3 R3 => ?_)
  exact wpAny_pure ⟨plainId_quiet F.plain_sum_loop _, h y rest' h3 tk hK R3⟩
theorem sum_ref {y x : Addr} {K : Addr → Led → Prop} (Rn : Run h₀ L m ax I S i #[.ref y] rest s.heap) (hl : (ax, listOf items n) ∈ rest) (hx : items[i]? = some (.ref x))
    (hadd : ∀ h', Run h₀ L m ax I S (i + 1) #[.ref y] rest h' → wpAny (model prog w) A.in1 (binaryOp .Add (.ref y) (.ref x)) (AddBack h₀ L m ax I S (i + 1) (.ref y) s K) (fun _ _ => False) { s with heap := h' })
    (h : ∀ y rest' h' tk, K y rest' → Run h₀ L m ax I S (i + 1) #[.ref y] rest' h' → codeAny (model prog w) A (sumCode I S 2) R { s with heap := h', toks := tk }) : codeAny (model prog w) A (sumCode I S 2) R s := by
  refine codeAny_builtin F.entry_sum_loop ?_
  rw [Around.under_plainId F.plain_sum_loop _]
  show wpAny _ A.in1 (seqItems? (.ref S) >>= _) _ _ s
  refine wpAny_bind (Rn.best_at ?_)
  show wpAny _ A.in1 (tryCatch (pyNext (.ref I)) _ >>= _) _ _ s
  refine wpAny_bind (wpAny_tryCatch (Rn.next hl hx fun h' R' => ?_))
  exact sum_tail (s := { s with heap := h' }) (k := fun r => (updateSeq S fun _ => #[r]) >>= fun _ => again (sumCode I S 2)) (fun _ => rfl) (hadd h' R') (fun y rest' h2 tk => h y rest' h2 tk)
theorem sum_int_ref {a : Int} {ta : Tok} {x : Addr} {K : Addr → Led → Prop} (Rn : Run h₀ L m ax I S i #[.int a ta] rest s.heap) (hl : (ax, listOf items n) ∈ rest) (hx : items[i]? = some (.ref x))
    (hadd : ∀ h', Run h₀ L m ax I S (i + 1) #[.int a ta] rest h' → wpAny (model prog w) A.in1 (binaryOp .Add (.int a ta) (.ref x)) (AddBack h₀ L m ax I S (i + 1) (.int a ta) s K) (fun _ _ => False) { s with heap := h' })
    (h : ∀ y rest' h' tk, K y rest' → Run h₀ L m ax I S (i + 1) #[.ref y] rest' h' → codeAny (model prog w) A (sumCode I S 2) R { s with heap := h', toks := tk }) : codeAny (model prog w) A (sumCode I S 0) R s := by
  refine codeAny_builtin F.entry_sum_loop ?_
  rw [Around.under_plainId F.plain_sum_loop _]
  show wpAny _ A.in1 (seqItems? (.ref S) >>= _) _ _ s
  refine wpAny_bind (Rn.best_at ?_)
  show wpAny _ A.in1 (tryCatch (pyNext (.ref I)) _ >>= _) _ _ s
  refine wpAny_bind (wpAny_tryCatch (Rn.next hl hx fun h' R' => ?_))
  show wpAny _ A.in1 (rule _ >>= _) _ _ _
  refine wpAny_bind (wpAny_rule ?_)
  refine sum_tail (s := { s with heap := h' }) ?hk (hadd h' R') (fun y rest' h2 tk => h y rest' h2 tk)
  case hk => exact fun _ => rfl
theorem sum_int_int {a b : Int} {ta tb : Tok} (Rn : Run h₀ L m ax I S i #[.int a ta] rest s.heap) (hl : (ax, listOf items n) ∈ rest) (hx : items[i]? = some (.int b tb)) (ha : -1000 ≤ a ∧ a ≤ 1000) (hb : -1000 ≤ b ∧ b ≤ 1000)
    (h : ∀ h' tk t, Run h₀ L m ax I S (i + 1) #[.int (a + b) t] rest h' → codeAny (model prog w) A (sumCode I S 0) R { s with heap := h', toks := tk }) : codeAny (model prog w) A (sumCode I S 0) R s := by
  refine codeAny_builtin F.entry_sum_loop ?_
  rw [Around.under_plainId F.plain_sum_loop _]
  show wpAny _ A.in1 (seqItems? (.ref S) >>= _) _ _ s
  refine wpAny_bind (Rn.best_at ?_)
  show wpAny _ A.in1 (tryCatch (pyNext (.ref I)) _ >>= _) _ _ s
  refine wpAny_bind (wpAny_tryCatch (Rn.next hl hx fun h' R' => ?_))
  show wpAny _ A.in1 (if ((decide (-(2 ^ 63) ≤ b) && decide (b < 2 ^ 63)) && (decide (-(2 ^ 63) ≤ a + b) && decide (a + b < 2 ^ 63))) = true then (mkInt (a + b) >>= _) else _) _ _ _
  rw [if_pos (by simp only [Bool.and_eq_true, decide_eq_true_eq]; omega)]
  refine wpAny_bind (wpAny_mkInt ?_)
  show wpAny _ A.in1 (updateSeq S (fun _ => #[.int (a + b) _]) >>= _) _ _ _
  refine wpAny_bind (Run.upd (s := { s with heap := h', toks := s.toks + 1 }) R' (Nat.le_of_ble_eq_true rfl) (Nat.le_of_ble_eq_true rfl) fun h2 R2 => ?_)
  exact wpAny_pure ⟨plainId_quiet F.plain_sum_loop _, h h2 _ _ R2⟩
theorem call_sum_list {E : Value → Shared → Prop} {news : Led} {Q : Value → Shared → Prop} (F₀ : Fr h₀ L s.heap m) (N : News h₀ L s.heap news) (hl : (ax, listOf items n) ∈ news)
    (h : ∀ I S h' tk t, Run h₀ L m ax I S 0 #[.int 0 t] news h' → codeAny (model prog w) A (sumCode I S 0) (wants Q E) { s with heap := h', toks := tk }) :
    wpAny (model prog w) A (call (.builtin "sum") [.ref ax]) Q E s := by
  refine call_function_tree F.kind_sum F.plain_sum F.entry_sum (F.args_sum1 _) ?_
  unfold Builtin.«sum»
  simp only [List.length_cons, List.length_nil]
  rw [if_neg (by decide)]
  refine wpAny_bind (wpAny_of_eq (show Builtin.Builtins.bindParams "sum" ["start"] 0 { } = pure [none] from rfl) ?_)
  refine wpAny_bind (Run.start F₀ N hl fun I h₁ hk hz hI hit => ?_)
  refine wpAny_bind (wpAny_mkInt ?_)
  refine wpAny_bind (wpAny_pure ?_)
  simp only [List.forIn_cons, List.forIn_nil]
  refine wpAny_bind (wpAny_bind (wpAny_bind (wpAny_isInstance (T := "int") (b := false) (PySem.typeIs_int _ _ _) PySem.sub_int_str ?_)))
  simp only [Bool.false_eq_true, if_false]
  refine wpAny_pure (wpAny_bind (wpAny_bind (wpAny_isInstance (T := "int") (b := false) (PySem.typeIs_int _ _ _) PySem.sub_int_bytes ?_)))
  simp only [Bool.false_eq_true, if_false]
  refine wpAny_pure (wpAny_bind (wpAny_bind (wpAny_isInstance (T := "int") (b := false) (PySem.typeIs_int _ _ _) PySem.sub_int_bytearray ?_)))
  simp only [Bool.false_eq_true, if_false]
  refine wpAny_pure (wpAny_pure ?_)
  refine wpAny_bind (wpAny_newObj_type ?_)
  exact wpAny_pure ⟨plainId_quiet F.plain_sum_loop _, h I _ _ _ _ (Run.begin F₀ N hk hz hI hit)⟩
end
end Mine
end
section
open PySem PySem.W PySem.Spec PySem.Calls PyProof.Rows
set_option maxRecDepth 100000
set_option maxHeartbeats 8000000
set_option Elab.async false
set_option rowWalk.seconds 0
set_option linter.unusedVariables false
namespace Mine
local macro_rules | `(tactic| k_room) => `(tactic| ((try simp only [depth_mark, depth_under_make, depth_under_kw, depth_in1, depth_deeper, depth_caller, ktrTop]); omega))
local macro_rules | `(tactic| k_enter) => `(tactic| first | (refine' code_def ?k1 ?k2 ?k3 ?k4 ?k5 ?kA ?kF ?kK ?k6 ?k7 ?k8 ?k9 ?kB ?_ ?c2 ?c3 ?c4 ?c5; (case kA => exact rfl); (case kF => exact rfl); (case kK => first | exact rfl | assumption); (case k1 => k_asm); (case k2 => k_asm); (case k3 => k_asm); (case k4 => k_asm); (case k5 => k_asm); (case k6 => k_is); (case k7 => k_is); (case k8 => k_room); (case k9 => first | exact BindsTo.of_eq rfl | exact binds_K (by k_in) rfl (by k_is) rfl rfl rfl | fail "k_enter: no rule for these arguments"); (case c5 => decide); (case kB => exact locs rfl); (case c2 => exact rfl); (case c3 => exact rfl); (case c4 => exact rfl); k_whole; intro g' L' h' FG' F' N' B' X' T'; (try dsimp only); (try k_lift B'); (try k_fold)) | (refine' code_defC ?k1 ?k2 ?k3 ?k4 ?k5 ?kA ?kF ?kK ?k6 ?k7 ?k8 ?k9 ?kB ?kD ?_ ?c2 ?c3 ?c4; (case kA => exact rfl); (case kF => exact rfl); (case kK => first | exact rfl | assumption); (case k1 => k_asm); (case k2 => k_asm); (case k3 => k_asm); (case k4 => k_asm); (case k5 => k_asm); (case k6 => k_is); (case k7 => k_is); (case k8 => k_room); (case k9 => first | exact BindsTo.of_eq rfl | exact binds_K (by k_in) rfl (by k_is) rfl rfl rfl | fail "k_enter: no rule for these arguments"); (case kB => exact rfl); (case kD => decide +kernel); (case c2 => exact rfl); (case c3 => exact rfl); (case c4 => exact rfl); k_whole; intro g' L' h' tk' cells' FG' F' N' Y' B' X' T' l1; (try k_lt l1); k_cells Y'; (try simp only [List.cons_append, List.nil_append] at N'); (try dsimp only); (try k_lift B'); (try k_fold)))
local macro_rules | `(tactic| ktr_units) => `(tactic| ((try simp only [units_under_make, units_in1, units_deeper, Around.mark_units, ktrTop]); omega))
local macro_rules | `(tactic| k_units) => `(tactic| ((have hcL9 := cLine_is); (try simp only [units_under_make, units_in1, units_deeper, Around.mark_units, ktrTop]); omega))
local macro_rules | `(tactic| walk_at "binaryOp Mod int int") => `(tactic| (k_here; (with_reducible refine mod_int' ?qz ?_); (case qz => first | assumption | omega | exact Int.mul_ne_zero (by assumption) (by assumption))))
local macro_rules | `(tactic| walk_at "binaryOp FloorDiv int int") => `(tactic| (k_here; (with_reducible refine floordiv_int ?qz ?_ ?qp); (case qz => first | assumption | omega | exact Int.mul_ne_zero (by assumption) (by assumption) | exact By.ne (by first | exact by_pos (by assumption) | exact by_neg (by assumption) (by assumption)) (by assumption)); (case qp => first | exact Or.inl (PyProof.noPylong_small (By.small (by first | exact by_pos (by assumption) | exact by_neg (by assumption) (by assumption)) (by assumption) (by assumption))) | exact Or.inl (PyProof.noPylong_small (eu_small (by assumption) (by assumption) (by assumption))) | exact Or.inl (PyProof.noPylong_of_log2 (by decide +kernel)) | exact Or.inl (PyProof.noPylong_small (by omega)))))
local macro_rules | `(tactic| k_mem) => `(tactic| ((show (_ : Addr × Obj) ∈ (_ : List (Addr × Obj))); ktr_member))
local macro_rules | `(tactic| ke_room) => `(tactic| ((try simp only [units_under_make, units_in1, units_deeper, Around.mark_units, ktrTop]); omega))
local macro_rules | `(tactic| walk_at "compareOp Eq ref ref") => `(tactic| (k_here; (with_reducible show wpAny _ _ (compareOp CmpOp.Eq (Value.ref _) (Value.ref _)) _ _ _); k_dflt (refine' tup2_eq ?N ?h1 ?h2 ?hu ?_; (case N => k_asm); (case h1 => k_mem); (case h2 => k_mem); (case hu => ke_room); k_whole)))
local macro_rules | `(tactic| walk_at "ite") => `(tactic| (k_here; first | (with_reducible refine ite_pos ?qi ?_; (case qi => first | assumption | omega | ((simp only [bne_iff_ne, ne_eq, beq_iff_eq, decide_eq_true_eq]); first | assumption | omega))) | (with_reducible refine ite_neg ?qi ?_; (case qi => first | assumption | omega | ((simp only [bne_iff_ne, ne_eq, beq_iff_eq, decide_eq_true_eq, Decidable.not_not]); first | assumption | omega)))))
local macro_rules | `(tactic| walk_at "callWith ref") => `(tactic| (k_here; k_dflt (refine' callWith_K ?k1 ?k2 ?_; (case k1 => k_asm); (case k2 => k_is); k_whole)))
local macro_rules | `(tactic| walk_at "eval Name") => `(tactic| (k_here; name_kind "globalImplicit"; k_dflt (refine' nameX_K ?F ?X ?T ?e ?_ ?a ?b; (case F => k_asm); (case X => k_asm); (case T => k_asm); (case a => rfl); (case b => rfl); (case e => k_is); k_whole)))
local macro_rules | `(tactic| walk_at "eval Name") => `(tactic| (k_here; name_kind "local"; k_dflt (refine' nameX_L ?F ?v ?_ ?a ?b; (case F => k_asm); (case a => rfl); (case b => rfl); (case v => rfl); k_whole)))
local macro_rules | `(tactic| walk_at "binaryOp Add ref ref") => `(tactic| (k_here; (with_reducible show wpAny _ _ (binaryOp _ (Value.ref _) _) _ _ _); k_dflt (refine' binop_K ?k1 ?k2 ?k3 ?k4 ?k5 ?k6 ?k7 ?_; (case k1 => k_asm); (case k2 => k_asm); (case k3 => k_inst); (case k4 => k_typeOf); (case k5 => k_is); (case k6 => k_is); (case k7 => k_is); k_whole)))
local macro_rules | `(tactic| walk_at "binaryOp Sub ref ref") => `(tactic| (k_here; (with_reducible show wpAny _ _ (binaryOp _ (Value.ref _) _) _ _ _); k_dflt (refine' binop_K ?k1 ?k2 ?k3 ?k4 ?k5 ?k6 ?k7 ?_; (case k1 => k_asm); (case k2 => k_asm); (case k3 => k_inst); (case k4 => k_typeOf); (case k5 => k_is); (case k6 => k_is); (case k7 => k_is); k_whole)))
local macro_rules | `(tactic| walk_at "binaryOp Mult ref ref") => `(tactic| (k_here; (with_reducible show wpAny _ _ (binaryOp _ (Value.ref _) _) _ _ _); k_dflt (refine' binop_K ?k1 ?k2 ?k3 ?k4 ?k5 ?k6 ?k7 ?_; (case k1 => k_asm); (case k2 => k_asm); (case k3 => k_inst); (case k4 => k_typeOf); (case k5 => k_is); (case k6 => k_is); (case k7 => k_is); k_whole)))
local macro_rules | `(tactic| walk_at "eval Name") => `(tactic| (k_here; name_kind "cell"; k_dflt (refine' nameX_C ?N ?c ?m ?d ?_ ?a ?b; (case a => rfl); (case b => rfl); (case N => k_asm); (case c => rfl); (case m => k_mem); (case d => k_asm); k_whole)))
local macro_rules | `(tactic| walk_at "eval Name") => `(tactic| (k_here; name_kind "globalImplicit"; name_is_builtin; k_dflt (refine' nameX_B ?F ?X ?T ?e ?v ?n ?_ ?a ?b; (case F => k_asm); (case X => k_asm); (case T => k_asm); (case a => rfl); (case b => rfl); (case e => k_is); (case v => boot_fast); (case n => decide); k_whole)))
section
local macro_rules | `(tactic| walk_at "call ref") => `(tactic| (k_here; (with_reducible show wpAny _ _ (call (Value.ref _) []) _ _ _); (with_reducible rename Raises _ _ _ _ _ => hRz); k_dflt (refine' raises_use hRz ?k1 ?k2 ?k3 ?k4 ?k5 ?kK ?kd ?ku ?_; (case k1 => k_asm); (case k2 => k_asm); (case k3 => k_asm); (case k4 => k_asm); (case k5 => k_asm); (case kK => first | exact rfl | assumption); (case kd => k_room); (case ku => ktr_units); k_whole; intro g' e' h' tk' F' R' U'; (try dsimp only))))
local macro_rules | `(tactic| walk_at "callWith ref") => `(tactic| (k_here; k_dflt (refine' callWith_F0 ?k1 ?_; (case k1 => exact FnAt.of (by k_asm) (by k_mem)); k_whole; try dsimp only [List.nil_append, List.cons_append])))
theorem refused_nothing {w : World} {news : Led} {f : Addr} {d : Nat} {fo : FuncData} {oc : Value} {od : Option Addr} {sl : Array (Option Value)} (hfn : (f, (⟨oc, od, .func fo, sl⟩ : Obj)) ∈ news) (H : Raises w (call (.ref f) []) d news "ZeroDivisionError") : DoesT w (call (.ref 197) [.ref f]) (d + 2) news (RV (fun v => ∃ t, v = .str (Str.ofString "nothing") t) news) := by
  unfold DoesT
  k_fill
  intro pg loose mean mg mb dp un gd cn cs a₁ ccd cl outer A₀ base h₀ L m s Q E B F XB N TB D hk hdp hu hret
  have X₀ : (Mine.hd.heap_39 w.params).In h₀ := XB.keeps B.stays
  have T : Top pg loose mean mg mb h₀ := TB.keeps B.stays
  refine wpAny_call ?_
  k_dflt (refine' callT_plain B F X₀ N T D rfl rfl hk ?k6 ?k7 ?k8 ?k9 ?kB ?_ ?c2 ?c3 ?c4 ?c5; (case k6 => k_is); (case k7 => k_is); (case k8 => k_room); (case k9 => exact BindsTo.of_eq rfl); (case c5 => decide); (case kB => exact locs rfl); (case c2 => exact rfl); (case c3 => exact rfl); (case c4 => exact rfl); k_whole)
  intro g' L' h' FG' F' N' B' X' T' D'
  (try dsimp only)
  (try k_lift B')
  (try k_fold)
  k_steps
  all_goals (
    refine' leaveT_ ?qT ?qF ?qN ?_
    (case qF => assumption)
    (case qN => assumption)
    (case qT => first | assumption | exact KtsTurn.refl)
    intro kg kT kF kN kB kD
    exact hret _ ⟨_, rfl⟩ kg _ _ kT kB kD kF kN)
theorem refused_kind {w : World} {news : Led} {f : Addr} {d : Nat} {fo : FuncData} {oc : Value} {od : Option Addr} {sl : Array (Option Value)} (hfn : (f, (⟨oc, od, .func fo, sl⟩ : Obj)) ∈ news) (H : Raises w (call (.ref f) []) d news "TypeError") : DoesT w (call (.ref 197) [.ref f]) (d + 2) news (RV (fun v => ∃ t, v = .str (Str.ofString "kind") t) news) := by
  unfold DoesT
  k_fill
  intro pg loose mean mg mb dp un gd cn cs a₁ ccd cl outer A₀ base h₀ L m s Q E B F XB N TB D hk hdp hu hret
  have X₀ : (Mine.hd.heap_39 w.params).In h₀ := XB.keeps B.stays
  have T : Top pg loose mean mg mb h₀ := TB.keeps B.stays
  refine wpAny_call ?_
  k_dflt (refine' callT_plain B F X₀ N T D rfl rfl hk ?k6 ?k7 ?k8 ?k9 ?kB ?_ ?c2 ?c3 ?c4 ?c5; (case k6 => k_is); (case k7 => k_is); (case k8 => k_room); (case k9 => exact BindsTo.of_eq rfl); (case c5 => decide); (case kB => exact locs rfl); (case c2 => exact rfl); (case c3 => exact rfl); (case c4 => exact rfl); k_whole)
  intro g' L' h' FG' F' N' B' X' T' D'
  (try dsimp only)
  (try k_lift B')
  (try k_fold)
  k_steps
  all_goals (
    refine' leaveT_ ?qT ?qF ?qN ?_
    (case qF => assumption)
    (case qN => assumption)
    (case qT => first | assumption | exact KtsTurn.refl)
    intro kg kT kF kN kB kD
    exact hret _ ⟨_, rfl⟩ kg _ _ kT kB kD kF kN)
end
section
theorem refl_nothing {w : World} {f : Addr} {name qual : Str} {params : Arguments} {scope : Scope} {c' : Addr} {clos : List (Str × Addr)} {body : PySem.Expr} {news : Led} {pm ctv : Value} {oc : Obj} {vs : Array Value} {t : Tok}
    (hm : (f, kla_obj name qual params body scope clos pm c' ctv) ∈ news) (hc : (c', oc) ∈ news) (hd : oc.data = .fields vs) (hv : vs[1]? = some (.str qual t))
    (hbind : bindArgs (kla_fn name qual params body scope clos pm (.ref c') ctv) ⟨[], []⟩ = pure []) (hco : scope.isCoroutine = false) (hgen : scope.isGenerator = false) (hk : scope.kind = .function)
    (hcell : ∀ x ∈ scope.names, x.2 ≠ .cell) (H : BodyRaises w f qual scope c' clos body 8 news "ZeroDivisionError") : DoesT w (call (.ref 197) [.ref f]) 11 news (RV (fun v => ∃ t, v = .str (Str.ofString "nothing") t) news) :=
  refused_nothing hm (lam_raises H hm hc hd hv hbind hco hgen hk hcell)
theorem refl_kind {w : World} {f : Addr} {name qual : Str} {params : Arguments} {scope : Scope} {c' : Addr} {clos : List (Str × Addr)} {body : PySem.Expr} {news : Led} {pm ctv : Value} {oc : Obj} {vs : Array Value} {t : Tok}
    (hm : (f, kla_obj name qual params body scope clos pm c' ctv) ∈ news) (hc : (c', oc) ∈ news) (hd : oc.data = .fields vs) (hv : vs[1]? = some (.str qual t))
    (hbind : bindArgs (kla_fn name qual params body scope clos pm (.ref c') ctv) ⟨[], []⟩ = pure []) (hco : scope.isCoroutine = false) (hgen : scope.isGenerator = false) (hk : scope.kind = .function)
    (hcell : ∀ x ∈ scope.names, x.2 ≠ .cell) (H : BodyRaises w f qual scope c' clos body 8 news "TypeError") : DoesT w (call (.ref 197) [.ref f]) 11 news (RV (fun v => ∃ t, v = .str (Str.ofString "kind") t) news) :=
  refused_kind hm (lam_raises H hm hc hd hv hbind hco hgen hk hcell)
end
section
theorem parts_num {w : World} {news : Led} {v : Value} {r : Rat} (H : NumAt w news v r) : Does w (call (.ref 21) [v]) 1 news (RO (fun o => ∃ t u n, o = tup2 r.num r.den t u n) news) := by
  unfold Does
  k_fill
  intro p loose mean mg mb dp un gd cn cs a ccd cl outer A₀ base h₀ L m s Q E B F X N T hk hd hu hret
  cases H with
  | int i t =>
    k_steps
    all_goals (refine' hret _ _ ?ql ?qp _ _ ?qf ?qn; (case qn => assumption); (case qf => assumption); (case ql => assumption); (case qp => exact ⟨_, _, _, rfl⟩))
  | frac hx hdx =>
    k_steps
    all_goals (refine' hret _ _ ?ql ?qp _ _ ?qf ?qn; (case qn => assumption); (case qf => assumption); (case ql => assumption); (case qp => exact ⟨_, _, _, rfl⟩))
local macro_rules | `(tactic| walk_at "call ref") => `(tactic| (k_here; (with_reducible show wpAny _ _ (call (Value.ref 21) [_]) _ _ _); k_dflt (refine' does_use (parts_num ?qh) ?k1 ?k2 ?k3 ?k4 ?k5 ?kK ?kd ?ku ?_; (case k1 => k_asm); (case k2 => k_asm); (case k3 => k_asm); (case k4 => k_asm); (case k5 => k_asm); (case kK => first | exact rfl | assumption); (case kd => k_room); (case ku => ktr_units); (case qh => first | exact NumAt.int _ _ | exact NumAt.frac (by k_mem) (by k_mem) | assumption | exact NumAt.cons (by assumption) | exact NumAt.cons (NumAt.cons (by assumption)) | exact NumAt.cons (NumAt.cons (NumAt.cons (by assumption)))); k_whole; intro a' o' l1 ho' h' tk' F' N'; obtain ⟨t', u', n', eo'⟩ := ho'; subst eo'; (try k_lt l1); (try k_sweep))))
theorem new_num {w : World} {news : Led} {v1 v2 : Value} {r1 r2 : Rat} (H1 : NumAt w news v1 r1) (H2 : NumAt w news v2 r2) (hz : r2 ≠ 0) (m1 : IntMulOk r1.num r2.den) (m2 : IntMulOk r2.num r1.den) (hb : (r2.num * r1.den).natAbs < 1073741824) :
    Does w (call (.ref 165) [v1, v2]) 4 news (RF w (r1 / r2) news) := by
  unfold Does
  k_fill
  intro p loose mean mg mb dp un gd cn cs a ccd cl outer A₀ base h₀ L m s Q E B F X N T hk hd hu hret
  have hz' : r2.num * (r1.den : Int) ≠ 0 := by
    have h1 : r2.num ≠ 0 := fun h => hz (Rat.num_eq_zero.mp h)
    have h2 : (r1.den : Int) ≠ 0 := by have := r1.den_nz; omega
    exact Int.mul_ne_zero h1 h2
  have hz2 := And.intro hz' hb
  k_with "exec While Name cons nil" => k_while_given ["divisor!", "rest!"] (fun d0 r0 _ d r => d ≠ 0 ∧ Eu d0 r0 d r) (fun _ _ _ _ r => r.natAbs) "divisor" "rest"
  k_with "state" => first | exact ⟨by assumption, eu_start (by assumption)⟩ | exact ⟨by assumption, eu_turn (by assumption) (by assumption)⟩
  k_with "measure" => exact eu_less (by assumption)
  k_steps
  all_goals (try (exfalso; first | omega | exact Int.mul_ne_zero (by assumption) (by assumption) (by assumption)))
  all_goals (
    have e1 : (r1 / r2).num = _ := (rat_div_eq r1 r2 ▸ eu_num (by assumption) (by assumption) hz').symm
    have e2 : ((r1 / r2).den : Int) = _ := (rat_div_eq r1 r2 ▸ eu_den (by assumption) (by assumption) hz').symm
    dsimp only [RF] at hret
    rw [e1, e2] at hret
    refine' hret _ _ _ _ _ _ _ ?ql1 ?ql2 _ _ ?qf ?qn
    (case qf => assumption)
    (case qn => refine' cb_drop ?qN ?qS; (case qN => assumption); (case qS => exact List.forall_mem_cons.mpr ⟨by k_mem, List.forall_mem_cons.mpr ⟨by k_mem, fun p hp => by (repeat (first | exact hp | refine List.Mem.tail _ ?_))⟩⟩))
    (case ql1 => assumption)
    (case ql2 => assumption))
theorem new_ii {w : World} {news : Led} {u l : Int} {t t' : Tok} (hz : l ≠ 0) (hb : l.natAbs < 1073741824) :
    Does w (call (.ref 165) [.int u t, .int l t']) 4 news (RF w (Rat.divInt u l) news) := by
  have h := new_num (w := w) (news := news) (NumAt.int u t) (NumAt.int l t') (fun h => hz (Rat.intCast_eq_zero_iff.mp h)) (IntMulOk.of_right (b := 1) (by decide)) (IntMulOk.of_right (b := 1) (by decide)) (by show (l * 1).natAbs < _; omega)
  rw [rat_int_div] at h
  exact h
local macro_rules | `(tactic| walk_at "call ref") => `(tactic| (k_here; (with_reducible show wpAny _ _ (call (Value.ref 165) [Value.int _ _, Value.int _ _]) _ _ _); k_dflt (refine' does_use (new_ii ?qz ?qb) ?k1 ?k2 ?k3 ?k4 ?k5 ?kK ?kd ?ku ?_; (case k1 => k_asm); (case k2 => k_asm); (case k3 => k_asm); (case k4 => k_asm); (case k5 => k_asm); (case kK => first | exact rfl | assumption); (case kd => k_room); (case ku => ktr_units); (case qz => first | assumption | exact den_ne _ | exact den_mul_ne _ _); (case qb => first | assumption | omega | exact den_mul_lt (by assumption) (by assumption)); k_whole; intro x' d' t1' t2' t3' t4' n' l1 l2 h' tk' F' N'; (try k_lt l1); (try k_lt2 l2); (try k_sweep); (try dsimp only [PySem.W.CmpBack, PySem.W.LenBack, PySem.W.StrBack, PySem.W.BoolBack, Mine.NotBack]); (try dsimp only))))
theorem neg_f {w : World} {news : Led} {x dx : Addr} {r : Rat} {t1 t2 t3 t4 : Tok} {n : Nat} (hx : (x, instObj 165 dx) ∈ news) (hdx : (dx, fdict w r.num r.den t1 t2 t3 t4 n) ∈ news) (b : Bd r) :
    Does w (call (.ref 71) [.ref x]) 6 news (RF w (-r) news) := by
  unfold Does
  k_fill
  intro p loose mean mg mb dp un gd cn cs a ccd cl outer A₀ base h₀ L m s Q E B F X N T hk hd hu hret
  have hbd := b.den
  have hbn := b.num
  rw [← rat_neg_eq r] at hret
  k_steps
  all_goals (
    refine' hret _ _ _ _ _ _ _ ?ql1 ?ql2 _ _ ?qf ?qn
    (case qf => assumption)
    (case qn => first | assumption | (refine' cb_drop ?qN ?qS; (case qN => assumption); (case qS => exact List.forall_mem_cons.mpr ⟨by k_mem, List.forall_mem_cons.mpr ⟨by k_mem, fun p hp => by (repeat (first | exact hp | refine List.Mem.tail _ ?_))⟩⟩)))
    (case ql1 => first | assumption | exact ktn_ltOf (And.right (by assumption)) | exact ktn_ltOf (And.right (And.right (by assumption))) | exact ktn_ltOf (And.right (And.right (And.right (by assumption)))) | exact ktn_ltOf (And.right (And.right (And.right (And.right (by assumption))))) | exact ktn_ltOf (And.right (And.right (And.right (And.right (And.right (by assumption)))))))
    (case ql2 => assumption))
local macro_rules | `(tactic| walk_at "call ref") => `(tactic| (k_here; (with_reducible show wpAny _ _ (call (Value.ref 71) [Value.ref _]) _ _ _); k_dflt (refine' does_use (neg_f ?qx ?qdx ?qb) ?k1 ?k2 ?k3 ?k4 ?k5 ?kK ?kd ?ku ?_; (case k1 => k_asm); (case k2 => k_asm); (case k3 => k_asm); (case k4 => k_asm); (case k5 => k_asm); (case kK => first | exact rfl | assumption); (case kd => k_room); (case ku => ktr_units); (case qx => k_mem); (case qdx => k_mem); (case qb => first | assumption | exact Bd.neg (by assumption)); k_whole; intro x' d' t1' t2' t3' t4' n' l1 l2 h' tk' F' N'; (try k_lt l1); (try k_lt2 l2); (try k_sweep); (try dsimp only [PySem.W.CmpBack, PySem.W.LenBack, PySem.W.StrBack, PySem.W.BoolBack, Mine.NotBack]); (try dsimp only))))
theorem add_v {w : World} {news : Led} {x dx : Addr} {r : Rat} {t1 t2 t3 t4 : Tok} {n : Nat} (hx : (x, instObj 165 dx) ∈ news) (hdx : (dx, fdict w r.num r.den t1 t2 t3 t4 n) ∈ news) (b : Bd r) {v : Value} {q : Rat} (H : NumAt w news v q) (c : Bd q) :
    Does w (call (.ref 78) [.ref x, v]) 6 news (RF w (r + q) news) := by
  unfold Does
  k_fill
  intro p loose mean mg mb dp un gd cn cs a ccd cl outer A₀ base h₀ L m s Q E B F X N T hk hd hu hret
  have hbd := b.den
  have hbn := b.num
  have hcd := c.den
  have hcn := c.num
  rw [← rat_add_eq r q] at hret
  k_steps
  all_goals (
    refine' hret _ _ _ _ _ _ _ ?ql1 ?ql2 _ _ ?qf ?qn
    (case qf => assumption)
    (case qn => first | assumption | (refine' cb_drop ?qN ?qS; (case qN => assumption); (case qS => exact List.forall_mem_cons.mpr ⟨by k_mem, List.forall_mem_cons.mpr ⟨by k_mem, fun p hp => by (repeat (first | exact hp | refine List.Mem.tail _ ?_))⟩⟩)))
    (case ql1 => first | assumption | exact ktn_ltOf (And.right (by assumption)) | exact ktn_ltOf (And.right (And.right (by assumption))) | exact ktn_ltOf (And.right (And.right (And.right (by assumption)))) | exact ktn_ltOf (And.right (And.right (And.right (And.right (by assumption))))) | exact ktn_ltOf (And.right (And.right (And.right (And.right (And.right (by assumption)))))))
    (case ql2 => assumption))
local macro_rules | `(tactic| walk_at "call ref") => `(tactic| (k_here; (with_reducible show wpAny _ _ (call (Value.ref 78) [Value.ref _, _]) _ _ _); k_dflt (refine' does_use (add_v ?qx ?qdx ?qb ?qn ?qc) ?k1 ?k2 ?k3 ?k4 ?k5 ?kK ?kd ?ku ?_; (case k1 => k_asm); (case k2 => k_asm); (case k3 => k_asm); (case k4 => k_asm); (case k5 => k_asm); (case kK => first | exact rfl | assumption); (case kd => k_room); (case ku => ktr_units); (case qx => k_mem); (case qdx => k_mem); (case qb => first | assumption | exact Bd.neg (by assumption)); (case qn => first | exact NumAt.int _ _ | exact NumAt.frac (by k_mem) (by k_mem) | assumption | exact NumAt.cons (by assumption) | exact NumAt.cons (NumAt.cons (by assumption)) | exact NumAt.cons (NumAt.cons (NumAt.cons (by assumption)))); (case qc => first | assumption | exact Bd.neg (by assumption)); k_whole; intro x' d' t1' t2' t3' t4' n' l1 l2 h' tk' F' N'; (try k_lt l1); (try k_lt2 l2); (try k_sweep); (try dsimp only [PySem.W.CmpBack, PySem.W.LenBack, PySem.W.StrBack, PySem.W.BoolBack, Mine.NotBack]); (try dsimp only))))
theorem radd_i {w : World} {news : Led} {x dx : Addr} {r : Rat} {t1 t2 t3 t4 : Tok} {n : Nat} (hx : (x, instObj 165 dx) ∈ news) (hdx : (dx, fdict w r.num r.den t1 t2 t3 t4 n) ∈ news) (b : Bd r) {i : Int} {ti : Tok} (c : Bd (i : Rat)) :
    Does w (call (.ref 85) [.ref x, .int i ti]) 8 news (RF w ((i : Rat) + r) news) := by
  unfold Does
  k_fill
  intro p loose mean mg mb dp un gd cn cs a ccd cl outer A₀ base h₀ L m s Q E B F X N T hk hd hu hret
  have hbd := b.den
  have hbn := b.num
  have hcd := c.den
  have hcn := c.num
  rw [Rat.add_comm (i : Rat) r] at hret
  k_steps
  all_goals (
    refine' hret _ _ _ _ _ _ _ ?ql1 ?ql2 _ _ ?qf ?qn
    (case qf => assumption)
    (case qn => first | assumption | (refine' cb_drop ?qN ?qS; (case qN => assumption); (case qS => exact List.forall_mem_cons.mpr ⟨by k_mem, List.forall_mem_cons.mpr ⟨by k_mem, fun p hp => by (repeat (first | exact hp | refine List.Mem.tail _ ?_))⟩⟩)))
    (case ql1 => first | assumption | exact ktn_ltOf (And.right (by assumption)) | exact ktn_ltOf (And.right (And.right (by assumption))) | exact ktn_ltOf (And.right (And.right (And.right (by assumption)))) | exact ktn_ltOf (And.right (And.right (And.right (And.right (by assumption))))) | exact ktn_ltOf (And.right (And.right (And.right (And.right (And.right (by assumption)))))))
    (case ql2 => assumption))
local macro_rules | `(tactic| walk_at "call ref") => `(tactic| (k_here; (with_reducible show wpAny _ _ (call (Value.ref 85) [Value.ref _, Value.int _ _]) _ _ _); k_dflt (refine' does_use (radd_i ?qx ?qdx ?qb ?qc) ?k1 ?k2 ?k3 ?k4 ?k5 ?kK ?kd ?ku ?_; (case k1 => k_asm); (case k2 => k_asm); (case k3 => k_asm); (case k4 => k_asm); (case k5 => k_asm); (case kK => first | exact rfl | assumption); (case kd => k_room); (case ku => ktr_units); (case qx => k_mem); (case qdx => k_mem); (case qb => first | assumption | exact Bd.neg (by assumption)); (case qc => first | assumption | exact Bd.neg (by assumption)); k_whole; intro x' d' t1' t2' t3' t4' n' l1 l2 h' tk' F' N'; (try k_lt l1); (try k_lt2 l2); (try k_sweep); (try dsimp only [PySem.W.CmpBack, PySem.W.LenBack, PySem.W.StrBack, PySem.W.BoolBack, Mine.NotBack]); (try dsimp only))))
theorem sub_f {w : World} {news : Led} {x dx : Addr} {r : Rat} {t1 t2 t3 t4 : Tok} {n : Nat} (hx : (x, instObj 165 dx) ∈ news) (hdx : (dx, fdict w r.num r.den t1 t2 t3 t4 n) ∈ news) (b : Bd r) {y dy : Addr} {q : Rat} {u1 u2 u3 u4 : Tok} {k : Nat} (hy : (y, instObj 165 dy) ∈ news) (hdy : (dy, fdict w q.num q.den u1 u2 u3 u4 k) ∈ news) (c : Bd q) :
    Does w (call (.ref 92) [.ref x, .ref y]) 9 news (RF w (r - q) news) := by
  unfold Does
  k_fill
  intro p loose mean mg mb dp un gd cn cs a ccd cl outer A₀ base h₀ L m s Q E B F X N T hk hd hu hret
  have hbd := b.den
  have hbn := b.num
  have hcd := c.den
  have hcn := c.num
  rw [Rat.sub_eq_add_neg r q] at hret
  k_steps
  all_goals (
    refine' hret _ _ _ _ _ _ _ ?ql1 ?ql2 _ _ ?qf ?qn
    (case qf => assumption)
    (case qn => first | assumption | (refine' cb_drop ?qN ?qS; (case qN => assumption); (case qS => exact List.forall_mem_cons.mpr ⟨by k_mem, List.forall_mem_cons.mpr ⟨by k_mem, fun p hp => by (repeat (first | exact hp | refine List.Mem.tail _ ?_))⟩⟩)))
    (case ql1 => first | assumption | exact ktn_ltOf (And.right (by assumption)) | exact ktn_ltOf (And.right (And.right (by assumption))) | exact ktn_ltOf (And.right (And.right (And.right (by assumption)))) | exact ktn_ltOf (And.right (And.right (And.right (And.right (by assumption))))) | exact ktn_ltOf (And.right (And.right (And.right (And.right (And.right (by assumption)))))))
    (case ql2 => assumption))
local macro_rules | `(tactic| walk_at "call ref") => `(tactic| (k_here; (with_reducible show wpAny _ _ (call (Value.ref 92) [Value.ref _, Value.ref _]) _ _ _); k_dflt (refine' does_use (sub_f ?qx ?qdx ?qb ?qy ?qdy ?qc) ?k1 ?k2 ?k3 ?k4 ?k5 ?kK ?kd ?ku ?_; (case k1 => k_asm); (case k2 => k_asm); (case k3 => k_asm); (case k4 => k_asm); (case k5 => k_asm); (case kK => first | exact rfl | assumption); (case kd => k_room); (case ku => ktr_units); (case qx => k_mem); (case qdx => k_mem); (case qb => first | assumption | exact Bd.neg (by assumption)); (case qy => k_mem); (case qdy => k_mem); (case qc => first | assumption | exact Bd.neg (by assumption)); k_whole; intro x' d' t1' t2' t3' t4' n' l1 l2 h' tk' F' N'; (try k_lt l1); (try k_lt2 l2); (try k_sweep); (try dsimp only [PySem.W.CmpBack, PySem.W.LenBack, PySem.W.StrBack, PySem.W.BoolBack, Mine.NotBack]); (try dsimp only))))
theorem sub_i {w : World} {news : Led} {x dx : Addr} {r : Rat} {t1 t2 t3 t4 : Tok} {n : Nat} (hx : (x, instObj 165 dx) ∈ news) (hdx : (dx, fdict w r.num r.den t1 t2 t3 t4 n) ∈ news) (b : Bd r) {i : Int} {ti : Tok} (c : Bd (i : Rat)) :
    Does w (call (.ref 92) [.ref x, .int i ti]) 9 news (RF w (r - (i : Rat)) news) := by
  unfold Does
  k_fill
  intro p loose mean mg mb dp un gd cn cs a ccd cl outer A₀ base h₀ L m s Q E B F X N T hk hd hu hret
  have hbd := b.den
  have hbn := b.num
  have hcd := c.den
  have hcn := c.num
  have c' : Bd ((-i : Int) : Rat) := Bd.int_neg c
  rw [rat_sub_int r i] at hret
  k_steps
  all_goals (
    refine' hret _ _ _ _ _ _ _ ?ql1 ?ql2 _ _ ?qf ?qn
    (case qf => assumption)
    (case qn => first | assumption | (refine' cb_drop ?qN ?qS; (case qN => assumption); (case qS => exact List.forall_mem_cons.mpr ⟨by k_mem, List.forall_mem_cons.mpr ⟨by k_mem, fun p hp => by (repeat (first | exact hp | refine List.Mem.tail _ ?_))⟩⟩)))
    (case ql1 => first | assumption | exact ktn_ltOf (And.right (by assumption)) | exact ktn_ltOf (And.right (And.right (by assumption))) | exact ktn_ltOf (And.right (And.right (And.right (by assumption)))) | exact ktn_ltOf (And.right (And.right (And.right (And.right (by assumption))))) | exact ktn_ltOf (And.right (And.right (And.right (And.right (And.right (by assumption)))))))
    (case ql2 => assumption))
local macro_rules | `(tactic| walk_at "call ref") => `(tactic| (k_here; (with_reducible show wpAny _ _ (call (Value.ref 92) [Value.ref _, Value.int _ _]) _ _ _); k_dflt (refine' does_use (sub_i ?qx ?qdx ?qb ?qc) ?k1 ?k2 ?k3 ?k4 ?k5 ?kK ?kd ?ku ?_; (case k1 => k_asm); (case k2 => k_asm); (case k3 => k_asm); (case k4 => k_asm); (case k5 => k_asm); (case kK => first | exact rfl | assumption); (case kd => k_room); (case ku => ktr_units); (case qx => k_mem); (case qdx => k_mem); (case qb => first | assumption | exact Bd.neg (by assumption)); (case qc => first | assumption | exact Bd.neg (by assumption)); k_whole; intro x' d' t1' t2' t3' t4' n' l1 l2 h' tk' F' N'; (try k_lt l1); (try k_lt2 l2); (try k_sweep); (try dsimp only [PySem.W.CmpBack, PySem.W.LenBack, PySem.W.StrBack, PySem.W.BoolBack, Mine.NotBack]); (try dsimp only))))
theorem rsub_i {w : World} {news : Led} {x dx : Addr} {r : Rat} {t1 t2 t3 t4 : Tok} {n : Nat} (hx : (x, instObj 165 dx) ∈ news) (hdx : (dx, fdict w r.num r.den t1 t2 t3 t4 n) ∈ news) (b : Bd r) {i : Int} {ti : Tok} (c : Bd (i : Rat)) :
    Does w (call (.ref 99) [.ref x, .int i ti]) 9 news (RF w ((i : Rat) - r) news) := by
  unfold Does
  k_fill
  intro p loose mean mg mb dp un gd cn cs a ccd cl outer A₀ base h₀ L m s Q E B F X N T hk hd hu hret
  have hbd := b.den
  have hbn := b.num
  have hcd := c.den
  have hcn := c.num
  rw [rat_int_sub r i] at hret
  k_steps
  all_goals (
    refine' hret _ _ _ _ _ _ _ ?ql1 ?ql2 _ _ ?qf ?qn
    (case qf => assumption)
    (case qn => first | assumption | (refine' cb_drop ?qN ?qS; (case qN => assumption); (case qS => exact List.forall_mem_cons.mpr ⟨by k_mem, List.forall_mem_cons.mpr ⟨by k_mem, fun p hp => by (repeat (first | exact hp | refine List.Mem.tail _ ?_))⟩⟩)))
    (case ql1 => first | assumption | exact ktn_ltOf (And.right (by assumption)) | exact ktn_ltOf (And.right (And.right (by assumption))) | exact ktn_ltOf (And.right (And.right (And.right (by assumption)))) | exact ktn_ltOf (And.right (And.right (And.right (And.right (by assumption))))) | exact ktn_ltOf (And.right (And.right (And.right (And.right (And.right (by assumption)))))))
    (case ql2 => assumption))
local macro_rules | `(tactic| walk_at "call ref") => `(tactic| (k_here; (with_reducible show wpAny _ _ (call (Value.ref 99) [Value.ref _, Value.int _ _]) _ _ _); k_dflt (refine' does_use (rsub_i ?qx ?qdx ?qb ?qc) ?k1 ?k2 ?k3 ?k4 ?k5 ?kK ?kd ?ku ?_; (case k1 => k_asm); (case k2 => k_asm); (case k3 => k_asm); (case k4 => k_asm); (case k5 => k_asm); (case kK => first | exact rfl | assumption); (case kd => k_room); (case ku => ktr_units); (case qx => k_mem); (case qdx => k_mem); (case qb => first | assumption | exact Bd.neg (by assumption)); (case qc => first | assumption | exact Bd.neg (by assumption)); k_whole; intro x' d' t1' t2' t3' t4' n' l1 l2 h' tk' F' N'; (try k_lt l1); (try k_lt2 l2); (try k_sweep); (try dsimp only [PySem.W.CmpBack, PySem.W.LenBack, PySem.W.StrBack, PySem.W.BoolBack, Mine.NotBack]); (try dsimp only))))
theorem mul_v {w : World} {news : Led} {x dx : Addr} {r : Rat} {t1 t2 t3 t4 : Tok} {n : Nat} (hx : (x, instObj 165 dx) ∈ news) (hdx : (dx, fdict w r.num r.den t1 t2 t3 t4 n) ∈ news) (b : Bd r) {v : Value} {q : Rat} (H : NumAt w news v q) (c : Bd q) :
    Does w (call (.ref 106) [.ref x, v]) 6 news (RF w (r * q) news) := by
  unfold Does
  k_fill
  intro p loose mean mg mb dp un gd cn cs a ccd cl outer A₀ base h₀ L m s Q E B F X N T hk hd hu hret
  have hbd := b.den
  have hbn := b.num
  have hcd := c.den
  have hcn := c.num
  rw [← rat_mul_eq r q] at hret
  k_steps
  all_goals (
    refine' hret _ _ _ _ _ _ _ ?ql1 ?ql2 _ _ ?qf ?qn
    (case qf => assumption)
    (case qn => first | assumption | (refine' cb_drop ?qN ?qS; (case qN => assumption); (case qS => exact List.forall_mem_cons.mpr ⟨by k_mem, List.forall_mem_cons.mpr ⟨by k_mem, fun p hp => by (repeat (first | exact hp | refine List.Mem.tail _ ?_))⟩⟩)))
    (case ql1 => first | assumption | exact ktn_ltOf (And.right (by assumption)) | exact ktn_ltOf (And.right (And.right (by assumption))) | exact ktn_ltOf (And.right (And.right (And.right (by assumption)))) | exact ktn_ltOf (And.right (And.right (And.right (And.right (by assumption))))) | exact ktn_ltOf (And.right (And.right (And.right (And.right (And.right (by assumption)))))))
    (case ql2 => assumption))
local macro_rules | `(tactic| walk_at "call ref") => `(tactic| (k_here; (with_reducible show wpAny _ _ (call (Value.ref 106) [Value.ref _, _]) _ _ _); k_dflt (refine' does_use (mul_v ?qx ?qdx ?qb ?qn ?qc) ?k1 ?k2 ?k3 ?k4 ?k5 ?kK ?kd ?ku ?_; (case k1 => k_asm); (case k2 => k_asm); (case k3 => k_asm); (case k4 => k_asm); (case k5 => k_asm); (case kK => first | exact rfl | assumption); (case kd => k_room); (case ku => ktr_units); (case qx => k_mem); (case qdx => k_mem); (case qb => first | assumption | exact Bd.neg (by assumption)); (case qn => first | exact NumAt.int _ _ | exact NumAt.frac (by k_mem) (by k_mem) | assumption | exact NumAt.cons (by assumption) | exact NumAt.cons (NumAt.cons (by assumption)) | exact NumAt.cons (NumAt.cons (NumAt.cons (by assumption)))); (case qc => first | assumption | exact Bd.neg (by assumption)); k_whole; intro x' d' t1' t2' t3' t4' n' l1 l2 h' tk' F' N'; (try k_lt l1); (try k_lt2 l2); (try k_sweep); (try dsimp only [PySem.W.CmpBack, PySem.W.LenBack, PySem.W.StrBack, PySem.W.BoolBack, Mine.NotBack]); (try dsimp only))))
theorem rmul_i {w : World} {news : Led} {x dx : Addr} {r : Rat} {t1 t2 t3 t4 : Tok} {n : Nat} (hx : (x, instObj 165 dx) ∈ news) (hdx : (dx, fdict w r.num r.den t1 t2 t3 t4 n) ∈ news) (b : Bd r) {i : Int} {ti : Tok} (c : Bd (i : Rat)) :
    Does w (call (.ref 113) [.ref x, .int i ti]) 8 news (RF w ((i : Rat) * r) news) := by
  unfold Does
  k_fill
  intro p loose mean mg mb dp un gd cn cs a ccd cl outer A₀ base h₀ L m s Q E B F X N T hk hd hu hret
  have hbd := b.den
  have hbn := b.num
  have hcd := c.den
  have hcn := c.num
  rw [Rat.mul_comm (i : Rat) r] at hret
  k_steps
  all_goals (
    refine' hret _ _ _ _ _ _ _ ?ql1 ?ql2 _ _ ?qf ?qn
    (case qf => assumption)
    (case qn => first | assumption | (refine' cb_drop ?qN ?qS; (case qN => assumption); (case qS => exact List.forall_mem_cons.mpr ⟨by k_mem, List.forall_mem_cons.mpr ⟨by k_mem, fun p hp => by (repeat (first | exact hp | refine List.Mem.tail _ ?_))⟩⟩)))
    (case ql1 => first | assumption | exact ktn_ltOf (And.right (by assumption)) | exact ktn_ltOf (And.right (And.right (by assumption))) | exact ktn_ltOf (And.right (And.right (And.right (by assumption)))) | exact ktn_ltOf (And.right (And.right (And.right (And.right (by assumption))))) | exact ktn_ltOf (And.right (And.right (And.right (And.right (And.right (by assumption)))))))
    (case ql2 => assumption))
local macro_rules | `(tactic| walk_at "call ref") => `(tactic| (k_here; (with_reducible show wpAny _ _ (call (Value.ref 113) [Value.ref _, Value.int _ _]) _ _ _); k_dflt (refine' does_use (rmul_i ?qx ?qdx ?qb ?qc) ?k1 ?k2 ?k3 ?k4 ?k5 ?kK ?kd ?ku ?_; (case k1 => k_asm); (case k2 => k_asm); (case k3 => k_asm); (case k4 => k_asm); (case k5 => k_asm); (case kK => first | exact rfl | assumption); (case kd => k_room); (case ku => ktr_units); (case qx => k_mem); (case qdx => k_mem); (case qb => first | assumption | exact Bd.neg (by assumption)); (case qc => first | assumption | exact Bd.neg (by assumption)); k_whole; intro x' d' t1' t2' t3' t4' n' l1 l2 h' tk' F' N'; (try k_lt l1); (try k_lt2 l2); (try k_sweep); (try dsimp only [PySem.W.CmpBack, PySem.W.LenBack, PySem.W.StrBack, PySem.W.BoolBack, Mine.NotBack]); (try dsimp only))))
local macro_rules | `(tactic| walk_at "call ref") => `(tactic| (k_here; (with_reducible show wpAny _ _ (call (Value.ref 165) [_, _]) _ _ _); k_dflt (refine' does_use (new_num ?qn1 ?qn2 ?qz ?qm1 ?qm2 ?qb) ?k1 ?k2 ?k3 ?k4 ?k5 ?kK ?kd ?ku ?_; (case k1 => k_asm); (case k2 => k_asm); (case k3 => k_asm); (case k4 => k_asm); (case k5 => k_asm); (case kK => first | exact rfl | assumption); (case kd => k_room); (case ku => ktr_units); (case qn1 => first | exact NumAt.int _ _ | exact NumAt.frac (by k_mem) (by k_mem) | assumption | exact NumAt.cons (by assumption) | exact NumAt.cons (NumAt.cons (by assumption)) | exact NumAt.cons (NumAt.cons (NumAt.cons (by assumption)))); (case qn2 => first | exact NumAt.int _ _ | exact NumAt.frac (by k_mem) (by k_mem) | assumption | exact NumAt.cons (by assumption) | exact NumAt.cons (NumAt.cons (by assumption)) | exact NumAt.cons (NumAt.cons (NumAt.cons (by assumption)))); (case qz => assumption); (case qm1 => first | exact bd_mul (by assumption) (by assumption) | mul_fits); (case qm2 => first | exact bd_mul (by assumption) (by assumption) | mul_fits); (case qb => first | assumption | exact num_den_lt (by assumption) (by assumption)); k_whole; intro x' d' t1' t2' t3' t4' n' l1 l2 h' tk' F' N'; (try k_lt l1); (try k_lt2 l2); (try k_sweep); (try dsimp only [PySem.W.CmpBack, PySem.W.LenBack, PySem.W.StrBack, PySem.W.BoolBack, Mine.NotBack]); (try dsimp only))))
local macro_rules | `(tactic| walk_at "call ref") => `(tactic| (k_here; (with_reducible show wpAny _ _ (call (Value.ref 165) [Value.int _ _, Value.int _ _]) _ _ _); k_dflt (refine' does_use (new_ii ?qz ?qb) ?k1 ?k2 ?k3 ?k4 ?k5 ?kK ?kd ?ku ?_; (case k1 => k_asm); (case k2 => k_asm); (case k3 => k_asm); (case k4 => k_asm); (case k5 => k_asm); (case kK => first | exact rfl | assumption); (case kd => k_room); (case ku => ktr_units); (case qz => first | assumption | exact den_ne _ | exact den_mul_ne _ _); (case qb => first | assumption | omega | exact den_mul_lt (by assumption) (by assumption)); k_whole; intro x' d' t1' t2' t3' t4' n' l1 l2 h' tk' F' N'; (try k_lt l1); (try k_lt2 l2); (try k_sweep); (try dsimp only [PySem.W.CmpBack, PySem.W.LenBack, PySem.W.StrBack, PySem.W.BoolBack, Mine.NotBack]); (try dsimp only))))
theorem div_v {w : World} {news : Led} {x dx : Addr} {r : Rat} {t1 t2 t3 t4 : Tok} {n : Nat} (hx : (x, instObj 165 dx) ∈ news) (hdx : (dx, fdict w r.num r.den t1 t2 t3 t4 n) ∈ news) (b : Bd r) {v : Value} {q : Rat} (H : NumAt w news v q) (c : Bd q) (hz : q ≠ 0) :
    Does w (call (.ref 120) [.ref x, v]) 6 news (RF w (r / q) news) := by
  unfold Does
  k_fill
  intro p loose mean mg mb dp un gd cn cs a ccd cl outer A₀ base h₀ L m s Q E B F X N T hk hd hu hret
  have hbd := b.den
  have hbn := b.num
  have hcd := c.den
  have hcn := c.num
  k_steps
  all_goals (
    refine' hret _ _ _ _ _ _ _ ?ql1 ?ql2 _ _ ?qf ?qn
    (case qf => assumption)
    (case qn => first | assumption | (refine' cb_drop ?qN ?qS; (case qN => assumption); (case qS => exact List.forall_mem_cons.mpr ⟨by k_mem, List.forall_mem_cons.mpr ⟨by k_mem, fun p hp => by (repeat (first | exact hp | refine List.Mem.tail _ ?_))⟩⟩)))
    (case ql1 => first | assumption | exact ktn_ltOf (And.right (by assumption)) | exact ktn_ltOf (And.right (And.right (by assumption))) | exact ktn_ltOf (And.right (And.right (And.right (by assumption)))) | exact ktn_ltOf (And.right (And.right (And.right (And.right (by assumption))))) | exact ktn_ltOf (And.right (And.right (And.right (And.right (And.right (by assumption)))))))
    (case ql2 => assumption))
local macro_rules | `(tactic| walk_at "call ref") => `(tactic| (k_here; (with_reducible show wpAny _ _ (call (Value.ref 120) [Value.ref _, _]) _ _ _); k_dflt (refine' does_use (div_v ?qx ?qdx ?qb ?qn ?qc ?qz) ?k1 ?k2 ?k3 ?k4 ?k5 ?kK ?kd ?ku ?_; (case k1 => k_asm); (case k2 => k_asm); (case k3 => k_asm); (case k4 => k_asm); (case k5 => k_asm); (case kK => first | exact rfl | assumption); (case kd => k_room); (case ku => ktr_units); (case qx => k_mem); (case qdx => k_mem); (case qb => first | assumption | exact Bd.neg (by assumption)); (case qn => first | exact NumAt.int _ _ | exact NumAt.frac (by k_mem) (by k_mem) | assumption | exact NumAt.cons (by assumption) | exact NumAt.cons (NumAt.cons (by assumption)) | exact NumAt.cons (NumAt.cons (NumAt.cons (by assumption)))); (case qc => first | assumption | exact Bd.neg (by assumption)); (case qz => assumption); k_whole; intro x' d' t1' t2' t3' t4' n' l1 l2 h' tk' F' N'; (try k_lt l1); (try k_lt2 l2); (try k_sweep); (try dsimp only [PySem.W.CmpBack, PySem.W.LenBack, PySem.W.StrBack, PySem.W.BoolBack, Mine.NotBack]); (try dsimp only))))
theorem rdiv_i {w : World} {news : Led} {x dx : Addr} {r : Rat} {t1 t2 t3 t4 : Tok} {n : Nat} (hx : (x, instObj 165 dx) ∈ news) (hdx : (dx, fdict w r.num r.den t1 t2 t3 t4 n) ∈ news) (b : Bd r) {i : Int} {ti : Tok} (c : Bd (i : Rat)) (hz : r ≠ 0) :
    Does w (call (.ref 127) [.ref x, .int i ti]) 6 news (RF w ((i : Rat) / r) news) := by
  unfold Does
  k_fill
  intro p loose mean mg mb dp un gd cn cs a ccd cl outer A₀ base h₀ L m s Q E B F X N T hk hd hu hret
  have hbd := b.den
  have hbn := b.num
  have hcd := c.den
  have hcn := c.num
  k_steps
  all_goals (
    refine' hret _ _ _ _ _ _ _ ?ql1 ?ql2 _ _ ?qf ?qn
    (case qf => assumption)
    (case qn => first | assumption | (refine' cb_drop ?qN ?qS; (case qN => assumption); (case qS => exact List.forall_mem_cons.mpr ⟨by k_mem, List.forall_mem_cons.mpr ⟨by k_mem, fun p hp => by (repeat (first | exact hp | refine List.Mem.tail _ ?_))⟩⟩)))
    (case ql1 => first | assumption | exact ktn_ltOf (And.right (by assumption)) | exact ktn_ltOf (And.right (And.right (by assumption))) | exact ktn_ltOf (And.right (And.right (And.right (by assumption)))) | exact ktn_ltOf (And.right (And.right (And.right (And.right (by assumption))))) | exact ktn_ltOf (And.right (And.right (And.right (And.right (And.right (by assumption)))))))
    (case ql2 => assumption))
local macro_rules | `(tactic| walk_at "call ref") => `(tactic| (k_here; (with_reducible show wpAny _ _ (call (Value.ref 127) [Value.ref _, Value.int _ _]) _ _ _); k_dflt (refine' does_use (rdiv_i ?qx ?qdx ?qb ?qc ?qz) ?k1 ?k2 ?k3 ?k4 ?k5 ?kK ?kd ?ku ?_; (case k1 => k_asm); (case k2 => k_asm); (case k3 => k_asm); (case k4 => k_asm); (case k5 => k_asm); (case kK => first | exact rfl | assumption); (case kd => k_room); (case ku => ktr_units); (case qx => k_mem); (case qdx => k_mem); (case qb => first | assumption | exact Bd.neg (by assumption)); (case qc => first | assumption | exact Bd.neg (by assumption)); (case qz => assumption); k_whole; intro x' d' t1' t2' t3' t4' n' l1 l2 h' tk' F' N'; (try k_lt l1); (try k_lt2 l2); (try k_sweep); (try dsimp only [PySem.W.CmpBack, PySem.W.LenBack, PySem.W.StrBack, PySem.W.BoolBack, Mine.NotBack]); (try dsimp only))))
theorem lt_v {w : World} {news : Led} {x dx : Addr} {r : Rat} {t1 t2 t3 t4 : Tok} {n : Nat} (hx : (x, instObj 165 dx) ∈ news) (hdx : (dx, fdict w r.num r.den t1 t2 t3 t4 n) ∈ news) (b : Bd r) {v : Value} {q : Rat} (H : NumAt w news v q) (c : Bd q) :
    Does w (call (.ref 141) [.ref x, v]) 5 news (RB (decide (r < q)) news) := by
  unfold Does
  k_fill
  intro p loose mean mg mb dp un gd cn cs a ccd cl outer A₀ base h₀ L m s Q E B F X N T hk hd hu hret
  have hbd := b.den
  have hbn := b.num
  have hcd := c.den
  have hcn := c.num
  rw [show decide (r < q) = decide (r.num * (q.den : Int) < q.num * (r.den : Int)) from decide_eq_decide.mpr (Rat.lt_iff r q)] at hret
  k_steps
  all_goals (
    refine' hret _ _ ?qf ?qn
    (case qf => assumption)
    (case qn => first | assumption | (refine' cb_drop ?qN ?qS; (case qN => assumption); (case qS => exact fun p hp => by (repeat (first | exact hp | refine List.Mem.tail _ ?_))))))
local macro_rules | `(tactic| walk_at "call ref") => `(tactic| (k_here; (with_reducible show wpAny _ _ (call (Value.ref 141) [Value.ref _, _]) _ _ _); k_dflt (refine' does_use (lt_v ?qx ?qdx ?qb ?qn ?qc) ?k1 ?k2 ?k3 ?k4 ?k5 ?kK ?kd ?ku ?_; (case k1 => k_asm); (case k2 => k_asm); (case k3 => k_asm); (case k4 => k_asm); (case k5 => k_asm); (case kK => first | exact rfl | assumption); (case kd => k_room); (case ku => ktr_units); (case qx => k_mem); (case qdx => k_mem); (case qb => first | assumption | exact Bd.neg (by assumption)); (case qn => first | exact NumAt.int _ _ | exact NumAt.frac (by k_mem) (by k_mem) | assumption | exact NumAt.cons (by assumption) | exact NumAt.cons (NumAt.cons (by assumption)) | exact NumAt.cons (NumAt.cons (NumAt.cons (by assumption)))); (case qc => first | assumption | exact Bd.neg (by assumption)); k_whole; intro h' tk' F' N'; (try k_sweep); (try dsimp only [PySem.W.CmpBack, PySem.W.LenBack, PySem.W.StrBack, PySem.W.BoolBack, Mine.NotBack]); (try dsimp only))))
theorem le_v {w : World} {news : Led} {x dx : Addr} {r : Rat} {t1 t2 t3 t4 : Tok} {n : Nat} (hx : (x, instObj 165 dx) ∈ news) (hdx : (dx, fdict w r.num r.den t1 t2 t3 t4 n) ∈ news) (b : Bd r) {v : Value} {q : Rat} (H : NumAt w news v q) (c : Bd q) :
    Does w (call (.ref 148) [.ref x, v]) 5 news (RB (decide (r ≤ q)) news) := by
  unfold Does
  k_fill
  intro p loose mean mg mb dp un gd cn cs a ccd cl outer A₀ base h₀ L m s Q E B F X N T hk hd hu hret
  have hbd := b.den
  have hbn := b.num
  have hcd := c.den
  have hcn := c.num
  rw [show decide (r ≤ q) = decide (r.num * (q.den : Int) ≤ q.num * (r.den : Int)) from decide_eq_decide.mpr (Rat.le_iff r q)] at hret
  k_steps
  all_goals (
    refine' hret _ _ ?qf ?qn
    (case qf => assumption)
    (case qn => first | assumption | (refine' cb_drop ?qN ?qS; (case qN => assumption); (case qS => exact fun p hp => by (repeat (first | exact hp | refine List.Mem.tail _ ?_))))))
local macro_rules | `(tactic| walk_at "call ref") => `(tactic| (k_here; (with_reducible show wpAny _ _ (call (Value.ref 148) [Value.ref _, _]) _ _ _); k_dflt (refine' does_use (le_v ?qx ?qdx ?qb ?qn ?qc) ?k1 ?k2 ?k3 ?k4 ?k5 ?kK ?kd ?ku ?_; (case k1 => k_asm); (case k2 => k_asm); (case k3 => k_asm); (case k4 => k_asm); (case k5 => k_asm); (case kK => first | exact rfl | assumption); (case kd => k_room); (case ku => ktr_units); (case qx => k_mem); (case qdx => k_mem); (case qb => first | assumption | exact Bd.neg (by assumption)); (case qn => first | exact NumAt.int _ _ | exact NumAt.frac (by k_mem) (by k_mem) | assumption | exact NumAt.cons (by assumption) | exact NumAt.cons (NumAt.cons (by assumption)) | exact NumAt.cons (NumAt.cons (NumAt.cons (by assumption)))); (case qc => first | assumption | exact Bd.neg (by assumption)); k_whole; intro h' tk' F' N'; (try k_sweep); (try dsimp only [PySem.W.CmpBack, PySem.W.LenBack, PySem.W.StrBack, PySem.W.BoolBack, Mine.NotBack]); (try dsimp only))))
theorem gt_f {w : World} {news : Led} {x dx : Addr} {r : Rat} {t1 t2 t3 t4 : Tok} {n : Nat} (hx : (x, instObj 165 dx) ∈ news) (hdx : (dx, fdict w r.num r.den t1 t2 t3 t4 n) ∈ news) (b : Bd r) {y dy : Addr} {q : Rat} {u1 u2 u3 u4 : Tok} {k : Nat} (hy : (y, instObj 165 dy) ∈ news) (hdy : (dy, fdict w q.num q.den u1 u2 u3 u4 k) ∈ news) (c : Bd q) :
    Does w (call (.ref 155) [.ref x, .ref y]) 8 news (RB (!decide (r ≤ q)) news) := by
  unfold Does
  k_fill
  intro p loose mean mg mb dp un gd cn cs a ccd cl outer A₀ base h₀ L m s Q E B F X N T hk hd hu hret
  have hbd := b.den
  have hbn := b.num
  have hcd := c.den
  have hcn := c.num
  k_steps
  all_goals (
    refine' hret _ _ ?qf ?qn
    (case qf => assumption)
    (case qn => first | assumption | (refine' cb_drop ?qN ?qS; (case qN => assumption); (case qS => exact fun p hp => by (repeat (first | exact hp | refine List.Mem.tail _ ?_))))))
local macro_rules | `(tactic| walk_at "call ref") => `(tactic| (k_here; (with_reducible show wpAny _ _ (call (Value.ref 155) [Value.ref _, Value.ref _]) _ _ _); k_dflt (refine' does_use (gt_f ?qx ?qdx ?qb ?qy ?qdy ?qc) ?k1 ?k2 ?k3 ?k4 ?k5 ?kK ?kd ?ku ?_; (case k1 => k_asm); (case k2 => k_asm); (case k3 => k_asm); (case k4 => k_asm); (case k5 => k_asm); (case kK => first | exact rfl | assumption); (case kd => k_room); (case ku => ktr_units); (case qx => k_mem); (case qdx => k_mem); (case qb => first | assumption | exact Bd.neg (by assumption)); (case qy => k_mem); (case qdy => k_mem); (case qc => first | assumption | exact Bd.neg (by assumption)); k_whole; intro h' tk' F' N'; (try k_sweep); (try dsimp only [PySem.W.CmpBack, PySem.W.LenBack, PySem.W.StrBack, PySem.W.BoolBack, Mine.NotBack]); (try dsimp only))))
theorem gt_i {w : World} {news : Led} {x dx : Addr} {r : Rat} {t1 t2 t3 t4 : Tok} {n : Nat} (hx : (x, instObj 165 dx) ∈ news) (hdx : (dx, fdict w r.num r.den t1 t2 t3 t4 n) ∈ news) (b : Bd r) {i : Int} {ti : Tok} (c : Bd (i : Rat)) :
    Does w (call (.ref 155) [.ref x, .int i ti]) 8 news (RB (!decide (r ≤ (i : Rat))) news) := by
  unfold Does
  k_fill
  intro p loose mean mg mb dp un gd cn cs a ccd cl outer A₀ base h₀ L m s Q E B F X N T hk hd hu hret
  have hbd := b.den
  have hbn := b.num
  have hcd := c.den
  have hcn := c.num
  k_steps
  all_goals (
    refine' hret _ _ ?qf ?qn
    (case qf => assumption)
    (case qn => first | assumption | (refine' cb_drop ?qN ?qS; (case qN => assumption); (case qS => exact fun p hp => by (repeat (first | exact hp | refine List.Mem.tail _ ?_))))))
local macro_rules | `(tactic| walk_at "call ref") => `(tactic| (k_here; (with_reducible show wpAny _ _ (call (Value.ref 155) [Value.ref _, Value.int _ _]) _ _ _); k_dflt (refine' does_use (gt_i ?qx ?qdx ?qb ?qc) ?k1 ?k2 ?k3 ?k4 ?k5 ?kK ?kd ?ku ?_; (case k1 => k_asm); (case k2 => k_asm); (case k3 => k_asm); (case k4 => k_asm); (case k5 => k_asm); (case kK => first | exact rfl | assumption); (case kd => k_room); (case ku => ktr_units); (case qx => k_mem); (case qdx => k_mem); (case qb => first | assumption | exact Bd.neg (by assumption)); (case qc => first | assumption | exact Bd.neg (by assumption)); k_whole; intro h' tk' F' N'; (try k_sweep); (try dsimp only [PySem.W.CmpBack, PySem.W.LenBack, PySem.W.StrBack, PySem.W.BoolBack, Mine.NotBack]); (try dsimp only))))
theorem ge_f {w : World} {news : Led} {x dx : Addr} {r : Rat} {t1 t2 t3 t4 : Tok} {n : Nat} (hx : (x, instObj 165 dx) ∈ news) (hdx : (dx, fdict w r.num r.den t1 t2 t3 t4 n) ∈ news) (b : Bd r) {y dy : Addr} {q : Rat} {u1 u2 u3 u4 : Tok} {k : Nat} (hy : (y, instObj 165 dy) ∈ news) (hdy : (dy, fdict w q.num q.den u1 u2 u3 u4 k) ∈ news) (c : Bd q) :
    Does w (call (.ref 162) [.ref x, .ref y]) 8 news (RB (!decide (r < q)) news) := by
  unfold Does
  k_fill
  intro p loose mean mg mb dp un gd cn cs a ccd cl outer A₀ base h₀ L m s Q E B F X N T hk hd hu hret
  have hbd := b.den
  have hbn := b.num
  have hcd := c.den
  have hcn := c.num
  k_steps
  all_goals (
    refine' hret _ _ ?qf ?qn
    (case qf => assumption)
    (case qn => first | assumption | (refine' cb_drop ?qN ?qS; (case qN => assumption); (case qS => exact fun p hp => by (repeat (first | exact hp | refine List.Mem.tail _ ?_))))))
local macro_rules | `(tactic| walk_at "call ref") => `(tactic| (k_here; (with_reducible show wpAny _ _ (call (Value.ref 162) [Value.ref _, Value.ref _]) _ _ _); k_dflt (refine' does_use (ge_f ?qx ?qdx ?qb ?qy ?qdy ?qc) ?k1 ?k2 ?k3 ?k4 ?k5 ?kK ?kd ?ku ?_; (case k1 => k_asm); (case k2 => k_asm); (case k3 => k_asm); (case k4 => k_asm); (case k5 => k_asm); (case kK => first | exact rfl | assumption); (case kd => k_room); (case ku => ktr_units); (case qx => k_mem); (case qdx => k_mem); (case qb => first | assumption | exact Bd.neg (by assumption)); (case qy => k_mem); (case qdy => k_mem); (case qc => first | assumption | exact Bd.neg (by assumption)); k_whole; intro h' tk' F' N'; (try k_sweep); (try dsimp only [PySem.W.CmpBack, PySem.W.LenBack, PySem.W.StrBack, PySem.W.BoolBack, Mine.NotBack]); (try dsimp only))))
theorem ge_i {w : World} {news : Led} {x dx : Addr} {r : Rat} {t1 t2 t3 t4 : Tok} {n : Nat} (hx : (x, instObj 165 dx) ∈ news) (hdx : (dx, fdict w r.num r.den t1 t2 t3 t4 n) ∈ news) (b : Bd r) {i : Int} {ti : Tok} (c : Bd (i : Rat)) :
    Does w (call (.ref 162) [.ref x, .int i ti]) 8 news (RB (!decide (r < (i : Rat))) news) := by
  unfold Does
  k_fill
  intro p loose mean mg mb dp un gd cn cs a ccd cl outer A₀ base h₀ L m s Q E B F X N T hk hd hu hret
  have hbd := b.den
  have hbn := b.num
  have hcd := c.den
  have hcn := c.num
  k_steps
  all_goals (
    refine' hret _ _ ?qf ?qn
    (case qf => assumption)
    (case qn => first | assumption | (refine' cb_drop ?qN ?qS; (case qN => assumption); (case qS => exact fun p hp => by (repeat (first | exact hp | refine List.Mem.tail _ ?_))))))
local macro_rules | `(tactic| walk_at "call ref") => `(tactic| (k_here; (with_reducible show wpAny _ _ (call (Value.ref 162) [Value.ref _, Value.int _ _]) _ _ _); k_dflt (refine' does_use (ge_i ?qx ?qdx ?qb ?qc) ?k1 ?k2 ?k3 ?k4 ?k5 ?kK ?kd ?ku ?_; (case k1 => k_asm); (case k2 => k_asm); (case k3 => k_asm); (case k4 => k_asm); (case k5 => k_asm); (case kK => first | exact rfl | assumption); (case kd => k_room); (case ku => ktr_units); (case qx => k_mem); (case qdx => k_mem); (case qb => first | assumption | exact Bd.neg (by assumption)); (case qc => first | assumption | exact Bd.neg (by assumption)); k_whole; intro h' tk' F' N'; (try k_sweep); (try dsimp only [PySem.W.CmpBack, PySem.W.LenBack, PySem.W.StrBack, PySem.W.BoolBack, Mine.NotBack]); (try dsimp only))))
theorem bool_f {w : World} {news : Led} {x dx : Addr} {r : Rat} {t1 t2 t3 t4 : Tok} {n : Nat} (hx : (x, instObj 165 dx) ∈ news) (hdx : (dx, fdict w r.num r.den t1 t2 t3 t4 n) ∈ news) :
    Does w (call (.ref 43) [.ref x]) 3 news (RB (r.num != 0) news) := by
  unfold Does
  k_fill
  intro p loose mean mg mb dp un gd cn cs a ccd cl outer A₀ base h₀ L m s Q E B F X N T hk hd hu hret
  k_steps
  all_goals (
    refine' hret _ _ ?qf ?qn
    (case qf => assumption)
    (case qn => first | assumption | (refine' cb_drop ?qN ?qS; (case qN => assumption); (case qS => exact fun p hp => by (repeat (first | exact hp | refine List.Mem.tail _ ?_))))))
local macro_rules | `(tactic| walk_at "call ref") => `(tactic| (k_here; (with_reducible show wpAny _ _ (call (Value.ref 43) [Value.ref _]) _ _ _); k_dflt (refine' does_use (bool_f ?qx ?qdx) ?k1 ?k2 ?k3 ?k4 ?k5 ?kK ?kd ?ku ?_; (case k1 => k_asm); (case k2 => k_asm); (case k3 => k_asm); (case k4 => k_asm); (case k5 => k_asm); (case kK => first | exact rfl | assumption); (case kd => k_room); (case ku => ktr_units); (case qx => k_mem); (case qdx => k_mem); k_whole; intro h' tk' F' N'; (try k_sweep); (try dsimp only [PySem.W.CmpBack, PySem.W.LenBack, PySem.W.StrBack, PySem.W.BoolBack, Mine.NotBack]); (try dsimp only))))
theorem floor_f {w : World} {news : Led} {x dx : Addr} {r : Rat} {t1 t2 t3 t4 : Tok} {n : Nat} (hx : (x, instObj 165 dx) ∈ news) (hdx : (dx, fdict w r.num r.den t1 t2 t3 t4 n) ∈ news) (b : Bd r) :
    Does w (call (.ref 57) [.ref x]) 3 news (RI (r.num.fdiv r.den) news) := by
  unfold Does
  k_fill
  intro p loose mean mg mb dp un gd cn cs a ccd cl outer A₀ base h₀ L m s Q E B F X N T hk hd hu hret
  have hbd := b.den
  have hbn := b.num
  have hdn := den_ne r
  k_steps
  all_goals (
    refine' hret _ _ _ ?qf ?qn
    (case qf => assumption)
    (case qn => first | assumption | (refine' cb_drop ?qN ?qS; (case qN => assumption); (case qS => exact fun p hp => by (repeat (first | exact hp | refine List.Mem.tail _ ?_))))))
local macro_rules | `(tactic| walk_at "call ref") => `(tactic| (k_here; (with_reducible show wpAny _ _ (call (Value.ref 57) [Value.ref _]) _ _ _); k_dflt (refine' does_use (floor_f ?qx ?qdx ?qb) ?k1 ?k2 ?k3 ?k4 ?k5 ?kK ?kd ?ku ?_; (case k1 => k_asm); (case k2 => k_asm); (case k3 => k_asm); (case k4 => k_asm); (case k5 => k_asm); (case kK => first | exact rfl | assumption); (case kd => k_room); (case ku => ktr_units); (case qx => k_mem); (case qdx => k_mem); (case qb => first | assumption | exact Bd.neg (by assumption)); k_whole; intro ti' h' tk' F' N'; (try k_sweep); (try dsimp only [PySem.W.CmpBack, PySem.W.LenBack, PySem.W.StrBack, PySem.W.BoolBack, Mine.NotBack]); (try dsimp only))))
theorem ceil_f {w : World} {news : Led} {x dx : Addr} {r : Rat} {t1 t2 t3 t4 : Tok} {n : Nat} (hx : (x, instObj 165 dx) ∈ news) (hdx : (dx, fdict w r.num r.den t1 t2 t3 t4 n) ∈ news) (b : Bd r) :
    Does w (call (.ref 64) [.ref x]) 3 news (RI (-((-r.num).fdiv r.den)) news) := by
  unfold Does
  k_fill
  intro p loose mean mg mb dp un gd cn cs a ccd cl outer A₀ base h₀ L m s Q E B F X N T hk hd hu hret
  have hbd := b.den
  have hbn := b.num
  have hdn := den_ne r
  k_steps
  all_goals (
    refine' hret _ _ _ ?qf ?qn
    (case qf => assumption)
    (case qn => first | assumption | (refine' cb_drop ?qN ?qS; (case qN => assumption); (case qS => exact fun p hp => by (repeat (first | exact hp | refine List.Mem.tail _ ?_))))))
local macro_rules | `(tactic| walk_at "call ref") => `(tactic| (k_here; (with_reducible show wpAny _ _ (call (Value.ref 64) [Value.ref _]) _ _ _); k_dflt (refine' does_use (ceil_f ?qx ?qdx ?qb) ?k1 ?k2 ?k3 ?k4 ?k5 ?kK ?kd ?ku ?_; (case k1 => k_asm); (case k2 => k_asm); (case k3 => k_asm); (case k4 => k_asm); (case k5 => k_asm); (case kK => first | exact rfl | assumption); (case kd => k_room); (case ku => ktr_units); (case qx => k_mem); (case qdx => k_mem); (case qb => first | assumption | exact Bd.neg (by assumption)); k_whole; intro ti' h' tk' F' N'; (try k_sweep); (try dsimp only [PySem.W.CmpBack, PySem.W.LenBack, PySem.W.StrBack, PySem.W.BoolBack, Mine.NotBack]); (try dsimp only))))
theorem eq_f {w : World} {news : Led} {x dx : Addr} {r : Rat} {t1 t2 t3 t4 : Tok} {n : Nat} (hx : (x, instObj 165 dx) ∈ news) (hdx : (dx, fdict w r.num r.den t1 t2 t3 t4 n) ∈ news) {y dy : Addr} {q : Rat} {u1 u2 u3 u4 : Tok} {k : Nat} (hy : (y, instObj 165 dy) ∈ news) (hdy : (dy, fdict w q.num q.den u1 u2 u3 u4 k) ∈ news) :
    Does w (call (.ref 134) [.ref x, .ref y]) 4 news (RB (decide (r = q)) news) := by
  unfold Does
  k_fill
  intro p loose mean mg mb dp un gd cn cs a ccd cl outer A₀ base h₀ L m s Q E B F X N T hk hd hu hret
  rw [show decide (r = q) = decide (r.num = q.num ∧ (r.den : Int) = (q.den : Int)) from decide_eq_decide.mpr (rat_eq_iff r q)] at hret
  k_steps
  all_goals (
    refine' hret _ _ ?qf ?qn
    (case qf => assumption)
    (case qn => first | assumption | (refine' cb_drop ?qN ?qS; (case qN => assumption); (case qS => exact fun p hp => by (repeat (first | exact hp | refine List.Mem.tail _ ?_))))))
local macro_rules | `(tactic| walk_at "call ref") => `(tactic| (k_here; (with_reducible show wpAny _ _ (call (Value.ref 134) [Value.ref _, Value.ref _]) _ _ _); k_dflt (refine' does_use (eq_f ?qx ?qdx ?qy ?qdy) ?k1 ?k2 ?k3 ?k4 ?k5 ?kK ?kd ?ku ?_; (case k1 => k_asm); (case k2 => k_asm); (case k3 => k_asm); (case k4 => k_asm); (case k5 => k_asm); (case kK => first | exact rfl | assumption); (case kd => k_room); (case ku => ktr_units); (case qx => k_mem); (case qdx => k_mem); (case qy => k_mem); (case qdy => k_mem); k_whole; intro h' tk' F' N'; (try k_sweep); (try dsimp only [PySem.W.CmpBack, PySem.W.LenBack, PySem.W.StrBack, PySem.W.BoolBack, Mine.NotBack]); (try dsimp only))))
theorem eq_i {w : World} {news : Led} {x dx : Addr} {r : Rat} {t1 t2 t3 t4 : Tok} {n : Nat} (hx : (x, instObj 165 dx) ∈ news) (hdx : (dx, fdict w r.num r.den t1 t2 t3 t4 n) ∈ news) {i : Int} {ti : Tok} :
    Does w (call (.ref 134) [.ref x, .int i ti]) 4 news (RB (decide (r = (i : Rat))) news) := by
  unfold Does
  k_fill
  intro p loose mean mg mb dp un gd cn cs a ccd cl outer A₀ base h₀ L m s Q E B F X N T hk hd hu hret
  rw [show decide (r = (i : Rat)) = decide (r.num = (i : Rat).num ∧ (r.den : Int) = ((i : Rat).den : Int)) from decide_eq_decide.mpr (rat_eq_iff r (i : Rat))] at hret
  k_steps
  all_goals (
    refine' hret _ _ ?qf ?qn
    (case qf => assumption)
    (case qn => first | assumption | (refine' cb_drop ?qN ?qS; (case qN => assumption); (case qS => exact fun p hp => by (repeat (first | exact hp | refine List.Mem.tail _ ?_))))))
local macro_rules | `(tactic| walk_at "call ref") => `(tactic| (k_here; (with_reducible show wpAny _ _ (call (Value.ref 134) [Value.ref _, Value.int _ _]) _ _ _); k_dflt (refine' does_use (eq_i ?qx ?qdx) ?k1 ?k2 ?k3 ?k4 ?k5 ?kK ?kd ?ku ?_; (case k1 => k_asm); (case k2 => k_asm); (case k3 => k_asm); (case k4 => k_asm); (case k5 => k_asm); (case kK => first | exact rfl | assumption); (case kd => k_room); (case ku => ktr_units); (case qx => k_mem); (case qdx => k_mem); k_whole; intro h' tk' F' N'; (try k_sweep); (try dsimp only [PySem.W.CmpBack, PySem.W.LenBack, PySem.W.StrBack, PySem.W.BoolBack, Mine.NotBack]); (try dsimp only))))
theorem eq_none {w : World} {news : Led} {x : Addr} :
    Does w (call (.ref 134) [.ref x, .none]) 4 news (RB false news) := by
  unfold Does
  k_fill
  intro p loose mean mg mb dp un gd cn cs a ccd cl outer A₀ base h₀ L m s Q E B F X N T hk hd hu hret
  k_steps
  all_goals (
    refine' hret _ _ ?qf ?qn
    (case qf => assumption)
    (case qn => first | assumption | (refine' cb_drop ?qN ?qS; (case qN => assumption); (case qS => exact fun p hp => by (repeat (first | exact hp | refine List.Mem.tail _ ?_))))))
local macro_rules | `(tactic| walk_at "call ref") => `(tactic| (k_here; (with_reducible show wpAny _ _ (call (Value.ref 134) [Value.ref _, Value.none]) _ _ _); k_dflt (refine' does_use (eq_none ) ?k1 ?k2 ?k3 ?k4 ?k5 ?kK ?kd ?ku ?_; (case k1 => k_asm); (case k2 => k_asm); (case k3 => k_asm); (case k4 => k_asm); (case k5 => k_asm); (case kK => first | exact rfl | assumption); (case kd => k_room); (case ku => ktr_units); k_whole; intro h' tk' F' N'; (try k_sweep); (try dsimp only [PySem.W.CmpBack, PySem.W.LenBack, PySem.W.StrBack, PySem.W.BoolBack, Mine.NotBack]); (try dsimp only))))
theorem eq_str {w : World} {news : Led} {x : Addr} {z : Str} {ti : Tok} :
    Does w (call (.ref 134) [.ref x, .str z ti]) 4 news (RB false news) := by
  unfold Does
  k_fill
  intro p loose mean mg mb dp un gd cn cs a ccd cl outer A₀ base h₀ L m s Q E B F X N T hk hd hu hret
  k_steps
  all_goals (
    refine' hret _ _ ?qf ?qn
    (case qf => assumption)
    (case qn => first | assumption | (refine' cb_drop ?qN ?qS; (case qN => assumption); (case qS => exact fun p hp => by (repeat (first | exact hp | refine List.Mem.tail _ ?_))))))
local macro_rules | `(tactic| walk_at "call ref") => `(tactic| (k_here; (with_reducible show wpAny _ _ (call (Value.ref 134) [Value.ref _, Value.str _ _]) _ _ _); k_dflt (refine' does_use (eq_str ) ?k1 ?k2 ?k3 ?k4 ?k5 ?kK ?kd ?ku ?_; (case k1 => k_asm); (case k2 => k_asm); (case k3 => k_asm); (case k4 => k_asm); (case k5 => k_asm); (case kK => first | exact rfl | assumption); (case kd => k_room); (case ku => ktr_units); k_whole; intro h' tk' F' N'; (try k_sweep); (try dsimp only [PySem.W.CmpBack, PySem.W.LenBack, PySem.W.StrBack, PySem.W.BoolBack, Mine.NotBack]); (try dsimp only))))
theorem common_ii {w : World} {news : Led} {u l : Int} {t t' : Tok} :
    Does w (call (.ref 176) [.int u t, .int l t']) 2 news (RI (Int.gcd u l : Int) news) := by
  unfold Does
  k_fill
  intro p loose mean mg mb dp un gd cn cs a ccd cl outer A₀ base h₀ L m s Q E B F X N T hk hd hu hret
  k_with "exec While Compare cons nil" => k_while_given ["one!", "other!"] (fun a0 b0 _ a b => 0 ≤ a ∧ 0 ≤ b ∧ Co a0 b0 a b) (fun _ _ _ _ b => b.natAbs) "one" "other"
  k_with "state" => first | exact ⟨abs_if _, abs_if _, co_start⟩ | exact ⟨by assumption, Int.fmod_nonneg_of_pos _ (by assumption), co_turn (by assumption)⟩
  k_with "measure" => exact eu_less (by omega)
  k_steps
  all_goals (
    have e := co_end (by assumption) (by assumption) (by assumption) (by assumption)
    rw [← e] at hret)
  all_goals (
    refine' hret _ _ _ ?qf ?qn
    (case qf => assumption)
    (case qn => first | assumption | (refine' cb_drop ?qN ?qS; (case qN => assumption); (case qS => exact fun p hp => by (repeat (first | exact hp | refine List.Mem.tail _ ?_))))))
local macro_rules | `(tactic| walk_at "call ref") => `(tactic| (k_here; (with_reducible show wpAny _ _ (call (Value.ref 176) [Value.int _ _, Value.int _ _]) _ _ _); k_dflt (refine' does_use (common_ii ) ?k1 ?k2 ?k3 ?k4 ?k5 ?kK ?kd ?ku ?_; (case k1 => k_asm); (case k2 => k_asm); (case k3 => k_asm); (case k4 => k_asm); (case k5 => k_asm); (case kK => first | exact rfl | assumption); (case kd => k_room); (case ku => ktr_units); k_whole; intro ti' h' tk' F' N'; (try k_sweep); (try dsimp only [PySem.W.CmpBack, PySem.W.LenBack, PySem.W.StrBack, PySem.W.BoolBack, Mine.NotBack]); (try dsimp only))))
theorem low_ii {w : World} {news : Led} {u l : Int} {t t' : Tok} (hl : l ≠ 0) (hb : l.natAbs < 1073741824) :
    Does w (call (.ref 183) [.int u t, .int l t']) 4 news (RO (fun o => ∃ t u' n, o = tup2 (Rat.divInt u l).num (Rat.divInt u l).den t u' n) news) := by
  unfold Does
  k_fill
  intro p loose mean mg mb dp un gd cn cs a ccd cl outer A₀ base h₀ L m s Q E B F X N T hk hd hu hret
  k_steps
  all_goals (
    have hB : By u l _ := (by first | exact by_pos (by assumption) | exact by_neg (by assumption) (by assumption))
    rw [← By.num hB hl, ← By.den hB hl] at hret
    refine' hret _ _ ?ql ?qp _ _ ?qf ?qn; (case qn => assumption); (case qf => assumption); (case ql => first | assumption | exact ktn_ltOf (And.right (by assumption)) | exact ktn_ltOf (And.right (And.right (by assumption))) | exact ktn_ltOf (And.right (And.right (And.right (by assumption)))) | exact ktn_ltOf (And.right (And.right (And.right (And.right (by assumption))))) | exact ktn_ltOf (And.right (And.right (And.right (And.right (And.right (by assumption))))))); (case qp => exact ⟨_, _, _, rfl⟩))
local macro_rules | `(tactic| walk_at "call ref") => `(tactic| (k_here; (with_reducible show wpAny _ _ (call (Value.ref 183) [Value.int _ _, Value.int _ _]) _ _ _); k_dflt (refine' does_use (low_ii ?ql ?qb) ?k1 ?k2 ?k3 ?k4 ?k5 ?kK ?kd ?ku ?_; (case k1 => k_asm); (case k2 => k_asm); (case k3 => k_asm); (case k4 => k_asm); (case k5 => k_asm); (case kK => first | exact rfl | assumption); (case kd => k_room); (case ku => ktr_units); (case ql => first | assumption | exact den_ne _); (case qb => first | assumption | omega); k_whole; intro a' o' l1 ho' h' tk' F' N'; obtain ⟨t', u', n', eo'⟩ := ho'; subst eo'; (try k_lt l1); (try k_sweep); (try dsimp only))))
theorem is_f {w : World} {news : Led} {x dx : Addr} {r : Rat} {t1 t2 t3 t4 : Tok} {n : Nat} (hx : (x, instObj 165 dx) ∈ news) (hdx : (dx, fdict w r.num r.den t1 t2 t3 t4 n) ∈ news) {u l : Int} {t t' : Tok} (hl : l ≠ 0) (hb : l.natAbs < 1073741824) (hr : r = Rat.divInt u l) :
    Does w (call (.ref 190) [.ref x, .int u t, .int l t']) 6 news (RB true news) := by
  unfold Does
  k_fill
  intro p loose mean mg mb dp un gd cn cs a ccd cl outer A₀ base h₀ L m s Q E B F X N T hk hd hu hret
  rw [show (true = decide (r.num = (Rat.divInt u l).num ∧ (r.den : Int) = ((Rat.divInt u l).den : Int))) from by rw [hr]; simp] at hret
  k_steps
  all_goals (
    refine' hret _ _ ?qf ?qn
    (case qf => assumption)
    (case qn => first | assumption | (refine' cb_drop ?qN ?qS; (case qN => assumption); (case qS => exact fun p hp => by (repeat (first | exact hp | refine List.Mem.tail _ ?_))))))
local macro_rules | `(tactic| walk_at "binaryOp Add int ref") => `(tactic| (k_here; (with_reducible show wpAny _ _ (binaryOp Operator.Add (Value.int _ _) (Value.ref _)) _ _ _); k_dflt (refine' refl_bin ?F ?X ?I ?hc ?hs0 ?hs ?hf ?hsub ?hT ?hl ?hcall ?_; (case F => k_asm); (case X => k_asm); (case I => k_inst); (case hc => k_is); (case hs0 => k_is); (case hs => k_is); (case hf => k_is); (case hsub => k_is); (case hT => exact PySem.F.fills_int_add); (case hl => exact PySem.F.slot_int_add); (case hcall => exact call_add (News.get (by k_asm) (by k_mem))); k_whole)))
local macro_rules | `(tactic| walk_at "binaryOp Sub int ref") => `(tactic| (k_here; (with_reducible show wpAny _ _ (binaryOp Operator.Sub (Value.int _ _) (Value.ref _)) _ _ _); k_dflt (refine' refl_bin ?F ?X ?I ?hc ?hs0 ?hs ?hf ?hsub ?hT ?hl ?hcall ?_; (case F => k_asm); (case X => k_asm); (case I => k_inst); (case hc => k_is); (case hs0 => k_is); (case hs => k_is); (case hf => k_is); (case hsub => k_is); (case hT => exact PySem.F.fills_int_sub); (case hl => exact PySem.F.slot_int_sub); (case hcall => exact call_sub (News.get (by k_asm) (by k_mem))); k_whole)))
local macro_rules | `(tactic| walk_at "binaryOp Mult int ref") => `(tactic| (k_here; (with_reducible show wpAny _ _ (binaryOp Operator.Mult (Value.int _ _) (Value.ref _)) _ _ _); k_dflt (refine' refl_bin ?F ?X ?I ?hc ?hs0 ?hs ?hf ?hsub ?hT ?hl ?hcall ?_; (case F => k_asm); (case X => k_asm); (case I => k_inst); (case hc => k_is); (case hs0 => k_is); (case hs => k_is); (case hf => k_is); (case hsub => k_is); (case hT => exact PySem.F.fills_int_mul); (case hl => exact PySem.F.slot_int_mul); (case hcall => exact call_mul (News.get (by k_asm) (by k_mem))); k_whole)))
local macro_rules | `(tactic| walk_at "binaryOp Div int ref") => `(tactic| (k_here; (with_reducible show wpAny _ _ (binaryOp Operator.Div (Value.int _ _) (Value.ref _)) _ _ _); k_dflt (refine' refl_bin ?F ?X ?I ?hc ?hs0 ?hs ?hf ?hsub ?hT ?hl ?hcall ?_; (case F => k_asm); (case X => k_asm); (case I => k_inst); (case hc => k_is); (case hs0 => k_is); (case hs => k_is); (case hf => k_is); (case hsub => k_is); (case hT => exact PySem.F.fills_int_truediv); (case hl => exact PySem.F.slot_int_truediv); (case hcall => exact call_truediv (News.get (by k_asm) (by k_mem))); k_whole)))
local macro_rules | `(tactic| walk_at "compareOp Lt int ref") => `(tactic| (k_here; (with_reducible show wpAny _ _ (compareOp CmpOp.Lt (Value.int _ _) (Value.ref _)) _ _ _); (refine cmp_ofLt ?_); k_dflt (refine' refl_cmp ?hu ?F ?X ?I ?hs ?hf ?hsub ?hl ?hcall ?_; (case hu => k_units); (case F => k_asm); (case X => k_asm); (case I => k_inst); (case hs => k_is); (case hf => k_is); (case hsub => k_is); (case hl => exact PySem.F.slot_int_lt); (case hcall => exact call_lt (News.get (by k_asm) (by k_mem))); k_whole)))
local macro_rules | `(tactic| walk_at "compareOp LtE int ref") => `(tactic| (k_here; (with_reducible show wpAny _ _ (compareOp CmpOp.LtE (Value.int _ _) (Value.ref _)) _ _ _); (refine cmp_ofLtE ?_); k_dflt (refine' refl_cmp ?hu ?F ?X ?I ?hs ?hf ?hsub ?hl ?hcall ?_; (case hu => k_units); (case F => k_asm); (case X => k_asm); (case I => k_inst); (case hs => k_is); (case hf => k_is); (case hsub => k_is); (case hl => exact PySem.F.slot_int_le); (case hcall => exact call_le (News.get (by k_asm) (by k_mem))); k_whole)))
local macro_rules | `(tactic| walk_at "compareOp Gt int ref") => `(tactic| (k_here; (with_reducible show wpAny _ _ (compareOp CmpOp.Gt (Value.int _ _) (Value.ref _)) _ _ _); (refine cmp_ofGt ?_); k_dflt (refine' refl_cmp ?hu ?F ?X ?I ?hs ?hf ?hsub ?hl ?hcall ?_; (case hu => k_units); (case F => k_asm); (case X => k_asm); (case I => k_inst); (case hs => k_is); (case hf => k_is); (case hsub => k_is); (case hl => exact PySem.F.slot_int_gt); (case hcall => exact call_gt (News.get (by k_asm) (by k_mem))); k_whole)))
local macro_rules | `(tactic| walk_at "compareOp GtE int ref") => `(tactic| (k_here; (with_reducible show wpAny _ _ (compareOp CmpOp.GtE (Value.int _ _) (Value.ref _)) _ _ _); (refine cmp_ofGtE ?_); k_dflt (refine' refl_cmp ?hu ?F ?X ?I ?hs ?hf ?hsub ?hl ?hcall ?_; (case hu => k_units); (case F => k_asm); (case X => k_asm); (case I => k_inst); (case hs => k_is); (case hf => k_is); (case hsub => k_is); (case hl => exact PySem.F.slot_int_ge); (case hcall => exact call_ge (News.get (by k_asm) (by k_mem))); k_whole)))
local macro_rules | `(tactic| walk_at "compareOp Eq int ref") => `(tactic| (k_here; (with_reducible show wpAny _ _ (compareOp CmpOp.Eq (Value.int _ _) (Value.ref _)) _ _ _); (refine cmp_ofEq ?_); k_dflt (refine' refl_cmp ?hu ?F ?X ?I ?hs ?hf ?hsub ?hl ?hcall ?_; (case hu => k_units); (case F => k_asm); (case X => k_asm); (case I => k_inst); (case hs => k_is); (case hf => k_is); (case hsub => k_is); (case hl => exact PySem.F.slot_int_eq); (case hcall => exact call_eq (News.get (by k_asm) (by k_mem))); k_whole)))
local macro_rules | `(tactic| walk_at "compareOp NotEq ref") => `(tactic| (k_here; (with_reducible show wpAny _ _ (compareOp CmpOp.NotEq (Value.ref _) _) _ _ _); (refine cmp_ofNotEq ?_); k_dflt (refine' ne_K ?k1 ?k2 ?k3 ?k4 ?k5 ?k6 ?k7 ?k8 ?k9 ?k10 ?_; (case k1 => k_units); (case k2 => k_asm); (case k3 => k_asm); (case k4 => k_inst); (case k5 => k_typeOf); (case k6 => k_is); (case k7 => k_is); (case k8 => k_is); (case k9 => k_is); (case k10 => k_is); k_whole)))
local macro_rules | `(tactic| walk_at "compareOp NotEq ref ref") => `(tactic| (k_here; (with_reducible show wpAny _ _ (compareOp CmpOp.NotEq (Value.ref _) _) _ _ _); (refine cmp_ofNotEq ?_); k_dflt (refine' ne_K ?k1 ?k2 ?k3 ?k4 ?k5 ?k6 ?k7 ?k8 ?k9 ?k10 ?_; (case k1 => k_units); (case k2 => k_asm); (case k3 => k_asm); (case k4 => k_inst); (case k5 => k_typeOf); (case k6 => k_is); (case k7 => k_is); (case k8 => k_is); (case k9 => k_is); (case k10 => k_is); k_whole)))
local macro_rules | `(tactic| walk_at "binaryOp Div ref ref") => `(tactic| (k_here; (with_reducible show wpAny _ _ (binaryOp _ (Value.ref _) (Value.ref _)) _ _ _); k_dflt (refine' binop_K ?k1 ?k2 ?k3 ?k4 ?k5 ?k6 ?k7 ?_; (case k1 => k_asm); (case k2 => k_asm); (case k3 => k_inst); (case k4 => k_typeOf); (case k5 => k_is); (case k6 => k_is); (case k7 => k_is); k_whole)))
local macro_rules | `(tactic| walk_at "exec Raise some none") => `(tactic| (k_here; (with_reducible refine Raise_new rfl ?_)))
local macro_rules | `(tactic| walk_at "joinParts") => `(tactic| (k_here; (with_reducible refine joinParts_consE ?_); (with_reducible refine joinParts_cons ?_)))
section
theorem new_one0 {w : World} {news : Led} {i : Int} {ti : Tok} : Does w (call (.ref 165) [.int i ti]) 4 news (RF w ((i : Rat) / ((1 : Int) : Rat)) news) := by
  unfold Does
  k_fill
  intro p loose mean mg mb dp un gd cn cs a ccd cl outer A₀ base h₀ L m s Q E B F X N T hk hd hu hret
  have H1 : NumAt w news (.int i ti) (i : Rat) := NumAt.int i ti
  have hz : ((1 : Int) : Rat) ≠ 0 := by decide
  have hb : (((1 : Int) : Rat).num * (i : Rat).den).natAbs < 1073741824 := by rw [Rat.num_intCast, Rat.den_intCast]; decide
  have m1 : IntMulOk (i : Rat).num ((1 : Int) : Rat).den := IntMulOk.of_right (b := 1) (by decide)
  have m2 : IntMulOk ((1 : Int) : Rat).num (i : Rat).den := IntMulOk.of_right (b := 1) (by decide)
  have hz' : ((1 : Int) : Rat).num * ((i : Rat).den : Int) ≠ 0 := by
    have h1 : ((1 : Int) : Rat).num ≠ 0 := fun h => hz (Rat.num_eq_zero.mp h)
    have h2 : ((i : Rat).den : Int) ≠ 0 := by have := (i : Rat).den_nz; omega
    exact Int.mul_ne_zero h1 h2
  have hz2 := And.intro hz' hb
  k_with "exec While Name cons nil" => k_while_given ["divisor!", "rest!"] (fun d0 r0 _ d r => d ≠ 0 ∧ Eu d0 r0 d r) (fun _ _ _ _ r => r.natAbs) "divisor" "rest"
  k_with "state" => first | exact ⟨by assumption, eu_start (by assumption)⟩ | exact ⟨by assumption, eu_turn (by assumption) (by assumption)⟩
  k_with "measure" => exact eu_less (by assumption)
  k_steps
  all_goals (try (exfalso; first | omega | exact Int.mul_ne_zero (by assumption) (by assumption) (by assumption)))
  all_goals (
    have e1 : ((i : Rat) / ((1 : Int) : Rat)).num = _ := (rat_div_eq (i : Rat) ((1 : Int) : Rat) ▸ eu_num (by assumption) (by assumption) hz').symm
    have e2 : (((i : Rat) / ((1 : Int) : Rat)).den : Int) = _ := (rat_div_eq (i : Rat) ((1 : Int) : Rat) ▸ eu_den (by assumption) (by assumption) hz').symm
    dsimp only [RF] at hret
    rw [e1, e2] at hret
    refine' hret _ _ _ _ _ _ _ ?ql1 ?ql2 _ _ ?qf ?qn
    (case qf => assumption)
    (case qn => refine' cb_drop ?qN ?qS; (case qN => assumption); (case qS => exact List.forall_mem_cons.mpr ⟨by k_mem, List.forall_mem_cons.mpr ⟨by k_mem, fun p hp => by (repeat (first | exact hp | refine List.Mem.tail _ ?_))⟩⟩))
    (case ql1 => assumption)
    (case ql2 => assumption))
theorem new_one {w : World} {news : Led} {i : Int} {ti : Tok} : Does w (call (.ref 165) [.int i ti]) 4 news (RF w (i : Rat) news) := by
  have h := new_one0 (w := w) (news := news) (i := i) (ti := ti)
  rw [rat_int_div, ← int_divInt] at h
  exact h
local macro_rules | `(tactic| walk_at "call ref") => `(tactic| (k_here; (with_reducible show wpAny _ _ (call (Value.ref 165) [Value.int _ _]) _ _ _); k_dflt (refine' does_use (new_one ) ?k1 ?k2 ?k3 ?k4 ?k5 ?kK ?kd ?ku ?_; (case k1 => k_asm); (case k2 => k_asm); (case k3 => k_asm); (case k4 => k_asm); (case k5 => k_asm); (case kK => first | exact rfl | assumption); (case kd => k_room); (case ku => ktr_units); k_whole; intro x' d' t1' t2' t3' t4' n' l1 l2 h' tk' F' N'; (try k_lt l1); (try k_lt2 l2); (try k_sweep); (try dsimp only [PySem.W.CmpBack, PySem.W.LenBack, PySem.W.StrBack, PySem.W.BoolBack, Mine.NotBack]); (try dsimp only))))
end
section
local macro_rules | `(tactic| walk_at "call ref") => `(tactic| (k_here; (with_reducible show wpAny _ _ (call (Value.ref 190) [Value.ref _, Value.int _ _, Value.int _ _]) _ _ _); k_dflt (refine' does_use (is_f ?qx ?qdx ?ql ?qb ?qr) ?k1 ?k2 ?k3 ?k4 ?k5 ?kK ?kd ?ku ?_; (case k1 => k_asm); (case k2 => k_asm); (case k3 => k_asm); (case k4 => k_asm); (case k5 => k_asm); (case kK => first | exact rfl | assumption); (case kd => k_room); (case ku => ktr_units); (case qx => k_mem); (case qdx => k_mem); (case ql => first | assumption | exact Int.mul_ne_zero (by assumption) (by assumption) | omega); (case qb => first | assumption | omega | exact natAbs_mul_lt (m := 128) (n := 128) (by omega) (by omega) (by decide)); (case qr => first | assumption | exact two_add (by assumption) (by assumption) (by assumption) (by assumption) | exact two_sub (by assumption) (by assumption) (by assumption) (by assumption) | exact two_mul (by assumption) (by assumption) | exact two_div (by assumption) (by assumption)); k_whole; intro h' tk' F' N'; (try k_sweep); (try dsimp only [PySem.W.CmpBack, PySem.W.LenBack, PySem.W.StrBack, PySem.W.BoolBack, Mine.NotBack]); (try dsimp only))))
local macro_rules | `(tactic| walk_at "eval Name") => `(tactic| (k_here; name_kind "local"; k_dflt (refine' nameX_L ?F ?v ?_ ?a ?b; (case F => k_asm); (case a => rfl); (case b => rfl); (case v => assumption); k_whole)))
local macro_rules | `(tactic| walk_at "compareOp Eq ref ref") => `(tactic| (k_here; (with_reducible show wpAny _ _ (compareOp CmpOp.Eq (Value.ref _) _) _ _ _); (refine cmp_ofEq ?_); k_dflt (refine' cmp_K ?k1 ?k2 ?k3 ?k4 ?k5 ?k6 ?k7 ?k8 ?_; (case k1 => k_units); (case k2 => k_asm); (case k3 => k_asm); (case k4 => k_inst); (case k5 => k_typeOf); (case k6 => k_is); (case k7 => k_is); (case k8 => k_is); k_whole)))
theorem two_nz {w : World} {news : Led} {x dx : Addr} {p : Rat} {t1 t2 t3 t4 : Tok} {n : Nat} (hx : (x, instObj 165 dx) ∈ news) (hdx : (dx, fdict w p.num p.den t1 t2 t3 t4 n) ∈ news) {y dy : Addr} {q : Rat} {u1 u2 u3 u4 : Tok} {k : Nat} (hy : (y, instObj 165 dy) ∈ news) (hdy : (dy, fdict w q.num q.den u1 u2 u3 u4 k) ∈ news) {a b : Int} {ta tb : Tok} (hp : p = Rat.divInt a b) (hb : 0 < b ∧ b ≤ 12) (ha : -20 ≤ a ∧ a ≤ 20) {c d : Int} {tc td : Tok} (hq : q = Rat.divInt c d) (hd : 0 < d ∧ d ≤ 12) (hc : -20 ≤ c ∧ c ≤ 20) (hcn : c ≠ 0) :
    Does w (call (.ref 204) [.ref x, .ref y, .int a ta, .int b tb, .int c tc, .int d td]) 12 news (RB true news) := by
  unfold Does
  k_fill
  intro pg loose mean mg mb dp un gd cn cs a₁ ccd cl outer A₀ base h₀ L m s Q E B F X N T hk hdp hu hret
  refine wpAny_call ?_
  k_dflt (refine' code_defC ?k1 ?k2 ?k3 ?k4 ?k5 ?kA ?kF ?kK ?k6 ?k7 ?k8 ?k9 ?kB ?kD ?_ ?c2 ?c3 ?c4; (case kA => exact rfl); (case kF => exact rfl); (case kK => first | exact rfl | assumption); (case k1 => k_asm); (case k2 => k_asm); (case k3 => k_asm); (case k4 => k_asm); (case k5 => k_asm); (case k6 => k_is); (case k7 => k_is); (case k8 => k_room); (case k9 => exact BindsTo.of_eq rfl); (case kB => exact rfl); (case kD => decide +kernel); (case c2 => exact rfl); (case c3 => exact rfl); (case c4 => exact rfl); k_whole)
  intro g' L' h' tk' cells' FG' F' N' Y' B' X' T' l1
  k_cells Y'
  (try simp only [List.cons_append, List.nil_append] at N')
  (try dsimp only)
  (try k_lift B')
  (try k_fold)
  rename_i c1 c2 e1 e2
  have ec1 : c1.data = .cell (some (.ref y)) := e1.trans rfl
  have ec2 : c2.data = .cell (some (.ref x)) := e2.trans rfl
  clear e1 e2
  have hmm : ∃ m0, Fr g' L' h' m0 ∧ m0 (Str.ofString "a") = some (.int a ta) ∧ m0 (Str.ofString "b") = some (.int b tb) ∧ m0 (Str.ofString "c") = some (.int c tc) ∧ m0 (Str.ofString "d") = some (.int d td) := ⟨_, F', rfl, rfl, rfl, rfl⟩
  clear F'
  obtain ⟨m0, F', ra, rb, rc, rd⟩ := hmm
  have hbn : b ≠ 0 := by omega
  have hdn : d ≠ 0 := by omega
  have bp : Bd p := by rw [hp]; exact Bd.divInt (by omega) hbn (by omega)
  have bq : Bd q := by rw [hq]; exact Bd.divInt (by omega) hdn (by omega)
  have qn : q ≠ 0 := two_ne hq hdn hcn
  have bpq : Bd (p / q) := two_div_bd hp hq hb hd ha hc hcn
  have hdm : p / q * q = p := Rat.div_mul_cancel qn
  have i1 := is_lt (two_lt hp hq hb.1 hd.1)
  have i2 := is_le (two_le hp hq hb.1 hd.1)
  have i3 := is_gt (two_le hp hq hb.1 hd.1)
  have i4 := is_ge (two_lt hp hq hb.1 hd.1)
  have i5 := is_eq (two_eq hp hq hb.1 hd.1)
  have i6 := is_ne (two_eq hp hq hb.1 hd.1)
  refine wcut0 ((L' + 1 + 1, c1) :: (L' + 1, c2) :: news) (fun m => m (Str.ofString "a") = some (.int a ta) ∧ m (Str.ofString "b") = some (.int b tb) ∧ m (Str.ofString "c") = some (.int c tc) ∧ m (Str.ofString "d") = some (.int d td) ∧ m (Str.ofString "fine") = some (.bool true)) N' ?_ ?_
  · intro Q2 hret2
    k_steps
    all_goals (
      refine' hret2 _ _ _ ?qF ?qN ?qR
      (case qF => assumption)
      (case qN => first | assumption | (refine' cb_drop ?qM ?qS; (case qM => assumption); (case qS => exact fun p hp => by (repeat (first | exact hp | refine List.Mem.tail _ ?_)))))
      (case qR => (try dsimp only); refine ⟨?_, ?_, ?_, ?_, ?_⟩ <;> (first | (apply Exists.intro; (repeat (first | assumption | exact if_pos rfl | (refine (if_neg (by decide)).trans ?_) | exact (if_pos rfl).trans (congrArg (fun q => some (Value.bool q)) (rfl)))); done) | (repeat (first | assumption | exact if_pos rfl | (refine (if_neg (by decide)).trans ?_) | exact (if_pos rfl).trans (congrArg (fun q => some (Value.bool q)) (rfl)))))))
  clear N' F'
  intro h' tk m0 F' N' ⟨ra, rb, rc, rd, rf⟩
  refine wcut0 ((L' + 1 + 1, c1) :: (L' + 1, c2) :: news) (fun m => m (Str.ofString "a") = some (.int a ta) ∧ m (Str.ofString "b") = some (.int b tb) ∧ m (Str.ofString "c") = some (.int c tc) ∧ m (Str.ofString "d") = some (.int d td) ∧ m (Str.ofString "fine") = some (.bool true)) N' ?_ ?_
  · intro Q2 hret2
    k_steps
    all_goals (
      refine' hret2 _ _ _ ?qF ?qN ?qR
      (case qF => assumption)
      (case qN => first | assumption | (refine' cb_drop ?qM ?qS; (case qM => assumption); (case qS => exact fun p hp => by (repeat (first | exact hp | refine List.Mem.tail _ ?_)))))
      (case qR => (try dsimp only); refine ⟨?_, ?_, ?_, ?_, ?_⟩ <;> (first | (apply Exists.intro; (repeat (first | assumption | exact if_pos rfl | (refine (if_neg (by decide)).trans ?_) | exact (if_pos rfl).trans (congrArg (fun q => some (Value.bool q)) (decide_eq_true hdm)))); done) | (repeat (first | assumption | exact if_pos rfl | (refine (if_neg (by decide)).trans ?_) | exact (if_pos rfl).trans (congrArg (fun q => some (Value.bool q)) (decide_eq_true hdm)))))))
  clear N' F'
  intro h' tk m0 F' N' ⟨ra, rb, rc, rd, rf⟩
  refine wcut0 ((L' + 1 + 1, c1) :: (L' + 1, c2) :: news) (fun m => m (Str.ofString "a") = some (.int a ta) ∧ m (Str.ofString "b") = some (.int b tb) ∧ m (Str.ofString "c") = some (.int c tc) ∧ m (Str.ofString "d") = some (.int d td) ∧ m (Str.ofString "fine") = some (.bool true) ∧ (∃ t, m (Str.ofString "left") = some (.int (a * d) t)) ∧ ∃ t, m (Str.ofString "right") = some (.int (c * b) t)) N' ?_ ?_
  · intro Q2 hret2
    k_steps
    all_goals (
      refine' hret2 _ _ _ ?qF ?qN ?qR
      (case qF => assumption)
      (case qN => first | assumption | (refine' cb_drop ?qM ?qS; (case qM => assumption); (case qS => exact fun p hp => by (repeat (first | exact hp | refine List.Mem.tail _ ?_)))))
      (case qR => (try dsimp only); refine ⟨?_, ?_, ?_, ?_, ?_, ?_, ?_⟩ <;> (first | (apply Exists.intro; (repeat (first | assumption | exact if_pos rfl | (refine (if_neg (by decide)).trans ?_) | exact (if_pos rfl).trans (congrArg (fun q => some (Value.bool q)) (rfl)))); done) | (repeat (first | assumption | exact if_pos rfl | (refine (if_neg (by decide)).trans ?_) | exact (if_pos rfl).trans (congrArg (fun q => some (Value.bool q)) (rfl)))))))
  clear N' F'
  intro h' tk m0 F' N' ⟨ra, rb, rc, rd, rf, ⟨tl, rl⟩, tr, rr⟩
  refine wcut0 ((L' + 1 + 1, c1) :: (L' + 1, c2) :: news) (fun m => m (Str.ofString "a") = some (.int a ta) ∧ m (Str.ofString "b") = some (.int b tb) ∧ m (Str.ofString "c") = some (.int c tc) ∧ m (Str.ofString "d") = some (.int d td) ∧ m (Str.ofString "fine") = some (.bool true) ∧ (∃ t, m (Str.ofString "left") = some (.int (a * d) t)) ∧ ∃ t, m (Str.ofString "right") = some (.int (c * b) t)) N' ?_ ?_
  · intro Q2 hret2
    k_steps
    all_goals (
      refine' hret2 _ _ _ ?qF ?qN ?qR
      (case qF => assumption)
      (case qN => first | assumption | (refine' cb_drop ?qM ?qS; (case qM => assumption); (case qS => exact fun p hp => by (repeat (first | exact hp | refine List.Mem.tail _ ?_)))))
      (case qR => (try dsimp only); refine ⟨?_, ?_, ?_, ?_, ?_, ?_, ?_⟩ <;> (first | (apply Exists.intro; (repeat (first | assumption | exact if_pos rfl | (refine (if_neg (by decide)).trans ?_) | exact (if_pos rfl).trans (congrArg (fun q => some (Value.bool q)) (i3)))); done) | (repeat (first | assumption | exact if_pos rfl | (refine (if_neg (by decide)).trans ?_) | exact (if_pos rfl).trans (congrArg (fun q => some (Value.bool q)) (i3)))))))
  clear N' F'
  intro h' tk m0 F' N' ⟨ra, rb, rc, rd, rf, ⟨tl, rl⟩, tr, rr⟩
  k_steps
  all_goals rw [← i6] at hret
  all_goals (
    refine' hret _ _ ?qf ?qn
    (case qf => assumption)
    (case qn => first | assumption | (refine' cb_drop ?qN ?qS; (case qN => assumption); (case qS => exact fun p hp => by (repeat (first | exact hp | refine List.Mem.tail _ ?_))))))
end
section
theorem new_zero {w : World} {news : Led} {v1 v2 : Value} {r1 r2 : Rat} (H1 : NumAt w news v1 r1) (H2 : NumAt w news v2 r2) (hz : r2 = 0) (b : Bd r1) :
    Raises w (call (.ref 165) [v1, v2]) 4 news "ZeroDivisionError" := by
  unfold Raises
  k_fill
  intro p loose mean mg mb dp un gd cn cs a ccd cl outer A₀ base h₀ L m s Q E B F X N T hk hd hu hret
  have D0 : KtsDicts [] h₀ := ktsDicts_nil
  have hz' : r2.num * (r1.den : Int) = 0 := by rw [hz]; exact Int.zero_mul _
  have hz1 : (r2.den : Int) = 1 := by rw [hz]; rfl
  have m1 : IntMulOk r1.num r2.den := IntMulOk.of_right (intBits_le_64 (by omega) (by omega))
  have m2 : IntMulOk r2.num r1.den := IntMulOk.of_right (intBits_le_64 (by have := b.den; omega) (by have := b.den; omega))
  have hbm : -32768 < r1.num * (r2.den : Int) ∧ r1.num * (r2.den : Int) < 32768 := by rw [hz1, Int.mul_one]; exact b.num
  k_steps
  all_goals first | done | (
    refine' hret _ _ _ _ ?qf ?qr ?qu
    (case qu => assumption)
    (case qr => first | exact raised_sub (by assumption) (fun p hp => by (repeat (first | exact hp | refine List.Mem.tail _ ?_))) | exact raised_sub (raised_made (by assumption)) (fun p hp => by (repeat (first | exact hp | refine List.Mem.tail _ ?_))))
    (case qf => assumption))
local macro_rules | `(tactic| walk_at "call ref") => `(tactic| (k_here; (with_reducible show wpAny _ _ (call (Value.ref 165) [_, _]) _ _ _); k_dflt (refine' raises_use (new_zero ?qn1 ?qn2 ?qz ?qb) ?k1 ?k2 ?k3 ?k4 ?k5 ?kK ?kd ?ku ?_; (case k1 => k_asm); (case k2 => k_asm); (case k3 => k_asm); (case k4 => k_asm); (case k5 => k_asm); (case kK => first | exact rfl | assumption); (case kd => k_room); (case ku => ktr_units); (case qn1 => first | exact NumAt.int _ _ | exact NumAt.frac (by k_mem) (by k_mem) | assumption | exact NumAt.cons (by assumption) | exact NumAt.cons (NumAt.cons (by assumption)) | exact NumAt.cons (NumAt.cons (NumAt.cons (by assumption)))); (case qn2 => first | exact NumAt.int _ _ | exact NumAt.frac (by k_mem) (by k_mem) | assumption | exact NumAt.cons (by assumption) | exact NumAt.cons (NumAt.cons (by assumption)) | exact NumAt.cons (NumAt.cons (NumAt.cons (by assumption)))); (case qz => assumption); (case qb => first | assumption | exact Bd.neg (by assumption)); k_whole; intro g' e' h' tk' F' R' U'; (try dsimp only))))
theorem div_zero {w : World} {news : Led} {x dx : Addr} {r : Rat} {t1 t2 t3 t4 : Tok} {n : Nat} (hx : (x, instObj 165 dx) ∈ news) (hdx : (dx, fdict w r.num r.den t1 t2 t3 t4 n) ∈ news) (b : Bd r) {v : Value} {q : Rat} (H : NumAt w news v q) (hz : q = 0) :
    Raises w (call (.ref 120) [.ref x, v]) 6 news "ZeroDivisionError" := by
  unfold Raises
  k_fill
  intro p loose mean mg mb dp un gd cn cs a ccd cl outer A₀ base h₀ L m s Q E B F X N T hk hd hu hret
  have D0 : KtsDicts [] h₀ := ktsDicts_nil
  k_steps
  all_goals first | done | (
    refine' hret _ _ _ _ ?qf ?qr ?qu
    (case qu => assumption)
    (case qr => first | exact raised_sub (by assumption) (fun p hp => by (repeat (first | exact hp | refine List.Mem.tail _ ?_))) | exact raised_sub (raised_made (by assumption)) (fun p hp => by (repeat (first | exact hp | refine List.Mem.tail _ ?_))))
    (case qf => assumption))
local macro_rules | `(tactic| walk_at "call ref") => `(tactic| (k_here; (with_reducible show wpAny _ _ (call (Value.ref 120) [Value.ref _, _]) _ _ _); k_dflt (refine' raises_use (div_zero ?qx ?qdx ?qb ?qn ?qz) ?k1 ?k2 ?k3 ?k4 ?k5 ?kK ?kd ?ku ?_; (case k1 => k_asm); (case k2 => k_asm); (case k3 => k_asm); (case k4 => k_asm); (case k5 => k_asm); (case kK => first | exact rfl | assumption); (case kd => k_room); (case ku => ktr_units); (case qx => k_mem); (case qdx => k_mem); (case qb => first | assumption | exact Bd.neg (by assumption)); (case qn => first | exact NumAt.int _ _ | exact NumAt.frac (by k_mem) (by k_mem) | assumption | exact NumAt.cons (by assumption) | exact NumAt.cons (NumAt.cons (by assumption)) | exact NumAt.cons (NumAt.cons (NumAt.cons (by assumption)))); (case qz => assumption); k_whole; intro g' e' h' tk' F' R' U'; (try dsimp only))))
theorem rdiv_zero {w : World} {news : Led} {x dx : Addr} {r : Rat} {t1 t2 t3 t4 : Tok} {n : Nat} (hx : (x, instObj 165 dx) ∈ news) (hdx : (dx, fdict w r.num r.den t1 t2 t3 t4 n) ∈ news) {i : Int} {ti : Tok} (c : Bd (i : Rat)) (hz : r = 0) :
    Raises w (call (.ref 127) [.ref x, .int i ti]) 6 news "ZeroDivisionError" := by
  unfold Raises
  k_fill
  intro p loose mean mg mb dp un gd cn cs a ccd cl outer A₀ base h₀ L m s Q E B F X N T hk hd hu hret
  have D0 : KtsDicts [] h₀ := ktsDicts_nil
  k_steps
  all_goals first | done | (
    refine' hret _ _ _ _ ?qf ?qr ?qu
    (case qu => assumption)
    (case qr => first | exact raised_sub (by assumption) (fun p hp => by (repeat (first | exact hp | refine List.Mem.tail _ ?_))) | exact raised_sub (raised_made (by assumption)) (fun p hp => by (repeat (first | exact hp | refine List.Mem.tail _ ?_))))
    (case qf => assumption))
local macro_rules | `(tactic| walk_at "call ref") => `(tactic| (k_here; (with_reducible show wpAny _ _ (call (Value.ref 127) [Value.ref _, Value.int _ _]) _ _ _); k_dflt (refine' raises_use (rdiv_zero ?qx ?qdx ?qc ?qz) ?k1 ?k2 ?k3 ?k4 ?k5 ?kK ?kd ?ku ?_; (case k1 => k_asm); (case k2 => k_asm); (case k3 => k_asm); (case k4 => k_asm); (case k5 => k_asm); (case kK => first | exact rfl | assumption); (case kd => k_room); (case ku => ktr_units); (case qx => k_mem); (case qdx => k_mem); (case qc => first | assumption | exact Bd.neg (by assumption)); (case qz => assumption); k_whole; intro g' e' h' tk' F' R' U'; (try dsimp only))))
end
section
local macro_rules | `(tactic| walk_at "call builtin:isinstance") => `(tactic| (k_here; (with_reducible show wpAny _ _ (call _ [Value.float _ _, Value.ref _]) _ _ _); k_dflt (refine' isn_call (P := fun _ => True) ?k1 ?k2 ?k3 ?k4 ?k5 float_cls ?_; (case k1 => k_in); (case k2 => (intro M; exact Looks.of_pure rfl)); (case k3 => k_not); (case k4 => intro e; cases e); (case k5 => trivial); k_whole)))
theorem parts_str {w : World} {news : Led} {z : Str} {tz : Tok} :
    Raises w (call (.ref 21) [.str z tz]) 1 news "TypeError" := by
  unfold Raises
  k_fill
  intro p loose mean mg mb dp un gd cn cs a ccd cl outer A₀ base h₀ L m s Q E B F X N T hk hd hu hret
  have D0 : KtsDicts [] h₀ := ktsDicts_nil
  k_steps
  all_goals first | done | (
    refine' hret _ _ _ _ ?qf ?qr ?qu
    (case qu => assumption)
    (case qr => first | exact raised_sub (by assumption) (fun p hp => by (repeat (first | exact hp | refine List.Mem.tail _ ?_))) | exact raised_sub (raised_made (by assumption)) (fun p hp => by (repeat (first | exact hp | refine List.Mem.tail _ ?_))))
    (case qf => assumption))
local macro_rules | `(tactic| walk_at "call ref") => `(tactic| (k_here; (with_reducible show wpAny _ _ (call (Value.ref 21) [Value.str _ _]) _ _ _); k_dflt (refine' raises_use (parts_str ) ?k1 ?k2 ?k3 ?k4 ?k5 ?kK ?kd ?ku ?_; (case k1 => k_asm); (case k2 => k_asm); (case k3 => k_asm); (case k4 => k_asm); (case k5 => k_asm); (case kK => first | exact rfl | assumption); (case kd => k_room); (case ku => ktr_units); k_whole; intro g' e' h' tk' F' R' U'; (try dsimp only))))
theorem parts_float {w : World} {news : Led} {z : UInt64} {tz : Tok} :
    Raises w (call (.ref 21) [.float z tz]) 1 news "TypeError" := by
  unfold Raises
  k_fill
  intro p loose mean mg mb dp un gd cn cs a ccd cl outer A₀ base h₀ L m s Q E B F X N T hk hd hu hret
  have D0 : KtsDicts [] h₀ := ktsDicts_nil
  k_steps
  all_goals first | done | (
    refine' hret _ _ _ _ ?qf ?qr ?qu
    (case qu => assumption)
    (case qr => first | exact raised_sub (by assumption) (fun p hp => by (repeat (first | exact hp | refine List.Mem.tail _ ?_))) | exact raised_sub (raised_made (by assumption)) (fun p hp => by (repeat (first | exact hp | refine List.Mem.tail _ ?_))))
    (case qf => assumption))
local macro_rules | `(tactic| walk_at "call ref") => `(tactic| (k_here; (with_reducible show wpAny _ _ (call (Value.ref 21) [Value.float _ _]) _ _ _); k_dflt (refine' raises_use (parts_float ) ?k1 ?k2 ?k3 ?k4 ?k5 ?kK ?kd ?ku ?_; (case k1 => k_asm); (case k2 => k_asm); (case k3 => k_asm); (case k4 => k_asm); (case k5 => k_asm); (case kK => first | exact rfl | assumption); (case kd => k_room); (case ku => ktr_units); k_whole; intro g' e' h' tk' F' R' U'; (try dsimp only))))
theorem parts_none {w : World} {news : Led}  :
    Raises w (call (.ref 21) [.none]) 1 news "TypeError" := by
  unfold Raises
  k_fill
  intro p loose mean mg mb dp un gd cn cs a ccd cl outer A₀ base h₀ L m s Q E B F X N T hk hd hu hret
  have D0 : KtsDicts [] h₀ := ktsDicts_nil
  k_steps
  all_goals first | done | (
    refine' hret _ _ _ _ ?qf ?qr ?qu
    (case qu => assumption)
    (case qr => first | exact raised_sub (by assumption) (fun p hp => by (repeat (first | exact hp | refine List.Mem.tail _ ?_))) | exact raised_sub (raised_made (by assumption)) (fun p hp => by (repeat (first | exact hp | refine List.Mem.tail _ ?_))))
    (case qf => assumption))
local macro_rules | `(tactic| walk_at "call ref") => `(tactic| (k_here; (with_reducible show wpAny _ _ (call (Value.ref 21) [Value.none]) _ _ _); k_dflt (refine' raises_use (parts_none ) ?k1 ?k2 ?k3 ?k4 ?k5 ?kK ?kd ?ku ?_; (case k1 => k_asm); (case k2 => k_asm); (case k3 => k_asm); (case k4 => k_asm); (case k5 => k_asm); (case kK => first | exact rfl | assumption); (case kd => k_room); (case ku => ktr_units); k_whole; intro g' e' h' tk' F' R' U'; (try dsimp only))))
theorem new_str {w : World} {news : Led} {z : Str} {tz : Tok} :
    Raises w (call (.ref 165) [.str z tz]) 4 news "TypeError" := by
  unfold Raises
  k_fill
  intro p loose mean mg mb dp un gd cn cs a ccd cl outer A₀ base h₀ L m s Q E B F X N T hk hd hu hret
  have D0 : KtsDicts [] h₀ := ktsDicts_nil
  k_steps
  all_goals first | done | (
    refine' hret _ _ _ _ ?qf ?qr ?qu
    (case qu => assumption)
    (case qr => first | exact raised_sub (by assumption) (fun p hp => by (repeat (first | exact hp | refine List.Mem.tail _ ?_))) | exact raised_sub (raised_made (by assumption)) (fun p hp => by (repeat (first | exact hp | refine List.Mem.tail _ ?_))))
    (case qf => assumption))
local macro_rules | `(tactic| walk_at "call ref") => `(tactic| (k_here; (with_reducible show wpAny _ _ (call (Value.ref 165) [Value.str _ _]) _ _ _); k_dflt (refine' raises_use (new_str ) ?k1 ?k2 ?k3 ?k4 ?k5 ?kK ?kd ?ku ?_; (case k1 => k_asm); (case k2 => k_asm); (case k3 => k_asm); (case k4 => k_asm); (case k5 => k_asm); (case kK => first | exact rfl | assumption); (case kd => k_room); (case ku => ktr_units); k_whole; intro g' e' h' tk' F' R' U'; (try dsimp only))))
theorem new_float {w : World} {news : Led} {i : Int} {ti : Tok} {z : UInt64} {tz : Tok} :
    Raises w (call (.ref 165) [.int i ti, .float z tz]) 4 news "TypeError" := by
  unfold Raises
  k_fill
  intro p loose mean mg mb dp un gd cn cs a ccd cl outer A₀ base h₀ L m s Q E B F X N T hk hd hu hret
  have D0 : KtsDicts [] h₀ := ktsDicts_nil
  k_steps
  all_goals first | done | (
    refine' hret _ _ _ _ ?qf ?qr ?qu
    (case qu => assumption)
    (case qr => first | exact raised_sub (by assumption) (fun p hp => by (repeat (first | exact hp | refine List.Mem.tail _ ?_))) | exact raised_sub (raised_made (by assumption)) (fun p hp => by (repeat (first | exact hp | refine List.Mem.tail _ ?_))))
    (case qf => assumption))
local macro_rules | `(tactic| walk_at "call ref") => `(tactic| (k_here; (with_reducible show wpAny _ _ (call (Value.ref 165) [Value.int _ _, Value.float _ _]) _ _ _); k_dflt (refine' raises_use (new_float ) ?k1 ?k2 ?k3 ?k4 ?k5 ?kK ?kd ?ku ?_; (case k1 => k_asm); (case k2 => k_asm); (case k3 => k_asm); (case k4 => k_asm); (case k5 => k_asm); (case kK => first | exact rfl | assumption); (case kd => k_room); (case ku => ktr_units); k_whole; intro g' e' h' tk' F' R' U'; (try dsimp only))))
theorem add_float {w : World} {news : Led} {x : Addr} {z : UInt64} {tz : Tok} :
    Raises w (call (.ref 78) [.ref x, .float z tz]) 4 news "TypeError" := by
  unfold Raises
  k_fill
  intro p loose mean mg mb dp un gd cn cs a ccd cl outer A₀ base h₀ L m s Q E B F X N T hk hd hu hret
  have D0 : KtsDicts [] h₀ := ktsDicts_nil
  k_steps
  all_goals first | done | (
    refine' hret _ _ _ _ ?qf ?qr ?qu
    (case qu => assumption)
    (case qr => first | exact raised_sub (by assumption) (fun p hp => by (repeat (first | exact hp | refine List.Mem.tail _ ?_))) | exact raised_sub (raised_made (by assumption)) (fun p hp => by (repeat (first | exact hp | refine List.Mem.tail _ ?_))))
    (case qf => assumption))
local macro_rules | `(tactic| walk_at "call ref") => `(tactic| (k_here; (with_reducible show wpAny _ _ (call (Value.ref 78) [Value.ref _, Value.float _ _]) _ _ _); k_dflt (refine' raises_use (add_float ) ?k1 ?k2 ?k3 ?k4 ?k5 ?kK ?kd ?ku ?_; (case k1 => k_asm); (case k2 => k_asm); (case k3 => k_asm); (case k4 => k_asm); (case k5 => k_asm); (case kK => first | exact rfl | assumption); (case kd => k_room); (case ku => ktr_units); k_whole; intro g' e' h' tk' F' R' U'; (try dsimp only))))
theorem mul_str {w : World} {news : Led} {x : Addr} {z : Str} {tz : Tok} :
    Raises w (call (.ref 106) [.ref x, .str z tz]) 4 news "TypeError" := by
  unfold Raises
  k_fill
  intro p loose mean mg mb dp un gd cn cs a ccd cl outer A₀ base h₀ L m s Q E B F X N T hk hd hu hret
  have D0 : KtsDicts [] h₀ := ktsDicts_nil
  k_steps
  all_goals first | done | (
    refine' hret _ _ _ _ ?qf ?qr ?qu
    (case qu => assumption)
    (case qr => first | exact raised_sub (by assumption) (fun p hp => by (repeat (first | exact hp | refine List.Mem.tail _ ?_))) | exact raised_sub (raised_made (by assumption)) (fun p hp => by (repeat (first | exact hp | refine List.Mem.tail _ ?_))))
    (case qf => assumption))
local macro_rules | `(tactic| walk_at "call ref") => `(tactic| (k_here; (with_reducible show wpAny _ _ (call (Value.ref 106) [Value.ref _, Value.str _ _]) _ _ _); k_dflt (refine' raises_use (mul_str ) ?k1 ?k2 ?k3 ?k4 ?k5 ?kK ?kd ?ku ?_; (case k1 => k_asm); (case k2 => k_asm); (case k3 => k_asm); (case k4 => k_asm); (case k5 => k_asm); (case kK => first | exact rfl | assumption); (case kd => k_room); (case ku => ktr_units); k_whole; intro g' e' h' tk' F' R' U'; (try dsimp only))))
theorem lt_str {w : World} {news : Led} {x : Addr} {z : Str} {tz : Tok} :
    Raises w (call (.ref 141) [.ref x, .str z tz]) 4 news "TypeError" := by
  unfold Raises
  k_fill
  intro p loose mean mg mb dp un gd cn cs a ccd cl outer A₀ base h₀ L m s Q E B F X N T hk hd hu hret
  have D0 : KtsDicts [] h₀ := ktsDicts_nil
  k_steps
  all_goals first | done | (
    refine' hret _ _ _ _ ?qf ?qr ?qu
    (case qu => assumption)
    (case qr => first | exact raised_sub (by assumption) (fun p hp => by (repeat (first | exact hp | refine List.Mem.tail _ ?_))) | exact raised_sub (raised_made (by assumption)) (fun p hp => by (repeat (first | exact hp | refine List.Mem.tail _ ?_))))
    (case qf => assumption))
local macro_rules | `(tactic| walk_at "call ref") => `(tactic| (k_here; (with_reducible show wpAny _ _ (call (Value.ref 141) [Value.ref _, Value.str _ _]) _ _ _); k_dflt (refine' raises_use (lt_str ) ?k1 ?k2 ?k3 ?k4 ?k5 ?kK ?kd ?ku ?_; (case k1 => k_asm); (case k2 => k_asm); (case k3 => k_asm); (case k4 => k_asm); (case k5 => k_asm); (case kK => first | exact rfl | assumption); (case kd => k_room); (case ku => ktr_units); k_whole; intro g' e' h' tk' F' R' U'; (try dsimp only))))
theorem le_none {w : World} {news : Led} {x : Addr} :
    Raises w (call (.ref 148) [.ref x, .none]) 4 news "TypeError" := by
  unfold Raises
  k_fill
  intro p loose mean mg mb dp un gd cn cs a ccd cl outer A₀ base h₀ L m s Q E B F X N T hk hd hu hret
  have D0 : KtsDicts [] h₀ := ktsDicts_nil
  k_steps
  all_goals first | done | (
    refine' hret _ _ _ _ ?qf ?qr ?qu
    (case qu => assumption)
    (case qr => first | exact raised_sub (by assumption) (fun p hp => by (repeat (first | exact hp | refine List.Mem.tail _ ?_))) | exact raised_sub (raised_made (by assumption)) (fun p hp => by (repeat (first | exact hp | refine List.Mem.tail _ ?_))))
    (case qf => assumption))
local macro_rules | `(tactic| walk_at "call ref") => `(tactic| (k_here; (with_reducible show wpAny _ _ (call (Value.ref 148) [Value.ref _, Value.none]) _ _ _); k_dflt (refine' raises_use (le_none ) ?k1 ?k2 ?k3 ?k4 ?k5 ?kK ?kd ?ku ?_; (case k1 => k_asm); (case k2 => k_asm); (case k3 => k_asm); (case k4 => k_asm); (case k5 => k_asm); (case kK => first | exact rfl | assumption); (case kd => k_room); (case ku => ktr_units); k_whole; intro g' e' h' tk' F' R' U'; (try dsimp only))))
theorem eq_float {w : World} {news : Led} {x : Addr} {z : UInt64} {tz : Tok} :
    Does w (call (.ref 134) [.ref x, .float z tz]) 4 news (RB false news) := by
  unfold Does
  k_fill
  intro p loose mean mg mb dp un gd cn cs a ccd cl outer A₀ base h₀ L m s Q E B F X N T hk hd hu hret
  k_steps
  all_goals (
    refine' hret _ _ ?qf ?qn
    (case qf => assumption)
    (case qn => first | assumption | (refine' cb_drop ?qN ?qS; (case qN => assumption); (case qS => exact fun p hp => by (repeat (first | exact hp | refine List.Mem.tail _ ?_))))))
local macro_rules | `(tactic| walk_at "call ref") => `(tactic| (k_here; (with_reducible show wpAny _ _ (call (Value.ref 134) [Value.ref _, Value.float _ _]) _ _ _); k_dflt (refine' does_use (eq_float ) ?k1 ?k2 ?k3 ?k4 ?k5 ?kK ?kd ?ku ?_; (case k1 => k_asm); (case k2 => k_asm); (case k3 => k_asm); (case k4 => k_asm); (case k5 => k_asm); (case kK => first | exact rfl | assumption); (case kd => k_room); (case ku => ktr_units); k_whole; intro h' tk' F' N'; (try k_sweep); (try dsimp only [PySem.W.CmpBack, PySem.W.LenBack, PySem.W.StrBack, PySem.W.BoolBack, Mine.NotBack]); (try dsimp only))))
end
section
local macro_rules | `(tactic| walk_at "call ref") => `(tactic| (k_here; (with_reducible show wpAny _ _ (call (Value.ref _) []) _ _ _); (with_reducible rename Raises _ _ _ _ _ => hRz); k_dflt (refine' raises_use hRz ?k1 ?k2 ?k3 ?k4 ?k5 ?kK ?kd ?ku ?_; (case k1 => k_asm); (case k2 => k_asm); (case k3 => k_asm); (case k4 => k_asm); (case k5 => k_asm); (case kK => first | exact rfl | assumption); (case kd => k_room); (case ku => ktr_units); k_whole; intro g' e' h' tk' F' R' U'; (try dsimp only))))
local macro_rules | `(tactic| walk_at "call ref") => `(tactic| (k_here; (with_reducible show wpAny _ _ (call (Value.ref 165) [_, _]) _ _ _); k_dflt (refine' raises_use (new_zero ?qn1 ?qn2 ?qz ?qb) ?k1 ?k2 ?k3 ?k4 ?k5 ?kK ?kd ?ku ?_; (case k1 => k_asm); (case k2 => k_asm); (case k3 => k_asm); (case k4 => k_asm); (case k5 => k_asm); (case kK => first | exact rfl | assumption); (case kd => k_room); (case ku => ktr_units); (case qn1 => first | exact NumAt.int _ _ | exact NumAt.frac (by k_mem) (by k_mem) | assumption | exact NumAt.cons (by assumption) | exact NumAt.cons (NumAt.cons (by assumption)) | exact NumAt.cons (NumAt.cons (NumAt.cons (by assumption)))); (case qn2 => first | exact NumAt.int _ _ | exact NumAt.frac (by k_mem) (by k_mem) | assumption | exact NumAt.cons (by assumption) | exact NumAt.cons (NumAt.cons (by assumption)) | exact NumAt.cons (NumAt.cons (NumAt.cons (by assumption)))); (case qz => assumption); (case qb => first | assumption | exact Bd.neg (by assumption)); k_whole; intro g' e' h' tk' F' R' U'; (try dsimp only))))
local macro_rules | `(tactic| walk_at "call ref") => `(tactic| (k_here; (with_reducible show wpAny _ _ (call (Value.ref 120) [Value.ref _, _]) _ _ _); k_dflt (refine' raises_use (div_zero ?qx ?qdx ?qb ?qn ?qz) ?k1 ?k2 ?k3 ?k4 ?k5 ?kK ?kd ?ku ?_; (case k1 => k_asm); (case k2 => k_asm); (case k3 => k_asm); (case k4 => k_asm); (case k5 => k_asm); (case kK => first | exact rfl | assumption); (case kd => k_room); (case ku => ktr_units); (case qx => k_mem); (case qdx => k_mem); (case qb => first | assumption | exact Bd.neg (by assumption)); (case qn => first | exact NumAt.int _ _ | exact NumAt.frac (by k_mem) (by k_mem) | assumption | exact NumAt.cons (by assumption) | exact NumAt.cons (NumAt.cons (by assumption)) | exact NumAt.cons (NumAt.cons (NumAt.cons (by assumption)))); (case qz => assumption); k_whole; intro g' e' h' tk' F' R' U'; (try dsimp only))))
local macro_rules | `(tactic| walk_at "call ref") => `(tactic| (k_here; (with_reducible show wpAny _ _ (call (Value.ref 127) [Value.ref _, Value.int _ _]) _ _ _); k_dflt (refine' raises_use (rdiv_zero ?qx ?qdx ?qc ?qz) ?k1 ?k2 ?k3 ?k4 ?k5 ?kK ?kd ?ku ?_; (case k1 => k_asm); (case k2 => k_asm); (case k3 => k_asm); (case k4 => k_asm); (case k5 => k_asm); (case kK => first | exact rfl | assumption); (case kd => k_room); (case ku => ktr_units); (case qx => k_mem); (case qdx => k_mem); (case qc => first | assumption | exact Bd.neg (by assumption)); (case qz => assumption); k_whole; intro g' e' h' tk' F' R' U'; (try dsimp only))))
local macro_rules | `(tactic| walk_at "eval Name") => `(tactic| (k_here; name_kind "free"; k_dflt (refine' nameX_F ?N ?c ?m ?d ?_ ?a ?b; (case a => rfl); (case b => rfl); (case N => k_asm); (case c => rfl); (case m => k_mem); (case d => k_asm); k_whole)))
local macro_rules | `(tactic| k_mem) => `(tactic| ((repeat ((show (_ : Addr × Obj) ∈ (_ : List (Addr × Obj))); first | ((with_reducible refine List.mem_append_left _ ?_); ktr_member) | ((with_reducible refine List.mem_append_right _ ?_); ktr_member) | exact List.Mem.head _ | ktr_member | refine List.Mem.tail _ ?_)); done))
local macro_rules | `(tactic| kn_code) => `(tactic| exact codeHd_of_K (by assumption) (by kernel_rfl))
local macro_rules | `(tactic| walk_at "call ref") => `(tactic| (k_here; (with_reducible show wpAny _ _ (call (Value.ref 190) [Value.ref _, Value.int _ _, Value.int _ _]) _ _ _); k_dflt (refine' does_use (is_f ?qx ?qdx ?ql ?qb ?qr) ?k1 ?k2 ?k3 ?k4 ?k5 ?kK ?kd ?ku ?_; (case k1 => k_asm); (case k2 => k_asm); (case k3 => k_asm); (case k4 => k_asm); (case k5 => k_asm); (case kK => first | exact rfl | assumption); (case kd => k_room); (case ku => ktr_units); (case qx => k_mem); (case qdx => k_mem); (case ql => first | assumption | exact Int.mul_ne_zero (by assumption) (by assumption) | omega); (case qb => first | assumption | omega | exact natAbs_mul_lt (m := 128) (n := 128) (by omega) (by omega) (by decide)); (case qr => first | assumption | exact two_add (by assumption) (by assumption) (by assumption) (by assumption) | exact two_sub (by assumption) (by assumption) (by assumption) (by assumption) | exact two_mul (by assumption) (by assumption) | exact two_div (by assumption) (by assumption)); k_whole; intro h' tk' F' N'; (try k_sweep); (try dsimp only [PySem.W.CmpBack, PySem.W.LenBack, PySem.W.StrBack, PySem.W.BoolBack, Mine.NotBack]); (try dsimp only))))
local macro_rules | `(tactic| walk_at "call ref") => `(tactic| (k_here; (with_reducible show wpAny _ _ (call (Value.ref 197) [Value.ref _]) _ _ _); (with_reducible rename News _ _ _ _ => hNN); k_dflt (refine' doesT_use (refl_nothing ?qm ?qc ?qd ?qv ?qbind ?qco ?qgen ?qkk ?qcell ?qB) ?k1 ?k2 ?k3 hNN ?k5 ?k6 ?kK ?kd ?ku ?_; (case qm => exact List.Mem.head _); (case qc => (repeat (first | exact List.mem_append_right _ (by assumption) | refine List.Mem.tail _ ?_))); (case qd => assumption); (case qv => assumption); (case qbind => exact rfl); (case qco => exact rfl); (case qgen => exact rfl); (case qkk => exact rfl); (case qcell => decide); (case k1 => k_asm); (case k2 => k_asm); (case k3 => k_asm); (case k5 => k_asm); (case k6 => k_asm); (case kK => first | exact rfl | assumption); (case kd => k_room); (case ku => ktr_units); (case qB => (intro p' l' m' mg' mb' dp' un' gd' o' A' b' g' L' m' s' Q' E' B' F' X' N' T' hd' hu' hr'; k_steps; (refine' hr' _ _ _ _ ?qf ?qr ?qu; (case qu => assumption); (case qr => first | exact raised_sub (by assumption) (fun p hp => by (repeat (first | exact hp | refine List.Mem.tail _ ?_))) | exact raised_sub (raised_made (by assumption)) (fun p hp => by (repeat (first | exact hp | refine List.Mem.tail _ ?_)))); (case qf => assumption))))); (intro v' hv' kg' h' tk' KT' B' D' F' N'; obtain ⟨t', e'⟩ := hv'; subst e'; (have KT2' := KtsTurn.trans (by assumption) KT'); clear KT'; k_dflt (have X' : (Mine.hd.heap_39 _).In _ := Frag.In.keeps (by assumption) (Below.stays B')); k_dflt (have T' := Top.keeps (by assumption) (Below.stays B')); (try dsimp only))))
local macro_rules | `(tactic| walk_at "eval Lambda") => `(tactic| (k_here; k_dflt (refine' kla_eval ?d0 ?_; (case d0 => exact rfl)); k_dflt (refine' lam_te (qual := q2) ?hS ?kF ?kN ?hn ?hNT ?kT ?kC ?cd ?kcl ?_; (case kF => k_asm); (case kN => k_asm); (case hS => exact Tabs.at2 (by assumption)); (case hn => (repeat (first | exact rfl | exact split_nil | apply split_cons))); (case hNT => (repeat (first | assumption | exact NoTab.nil | refine NoTab.cons (by first | exact noTab_data (by assumption) | (intro ws hw; cases hw; done) | exact noTab_cls (by intro h; cases h) | (intro ws hw; simp_all; done)) ?_))); (case kT => k_asm); (case cd => exact rfl); (case kC => kn_code); (case kcl => exact rfl)); intro f' c' oc' vs' t' ct' pm' te' h' tk' F' N' S' K' hc' hd' hv'; (have TB' := Tabs.lam2 (by assumption) S' K'); clear K' S'; (try simp only [List.cons_append, List.nil_append] at N'); (try k_sweep)))
local macro_rules | `(tactic| walk_at "eval Name") => `(tactic| (k_here; name_kind "local"; k_dflt (refine' nameX_L ?F ?v ?_ ?a ?b; (case F => k_asm); (case a => rfl); (case b => rfl); (case v => assumption); k_whole)))
local macro_rules | `(tactic| walk_at "compareOp Eq ref ref") => `(tactic| (k_here; (with_reducible show wpAny _ _ (compareOp CmpOp.Eq (Value.ref _) _) _ _ _); (refine cmp_ofEq ?_); k_dflt (refine' cmp_K ?k1 ?k2 ?k3 ?k4 ?k5 ?k6 ?k7 ?k8 ?_; (case k1 => k_units); (case k2 => k_asm); (case k3 => k_asm); (case k4 => k_inst); (case k5 => k_typeOf); (case k6 => k_is); (case k7 => k_is); (case k8 => k_is); k_whole)))
local macro_rules | `(tactic| walk_at "pad1") => `(tactic| done)
theorem two_z {w : World} {news rest te : Led} (hn : news = rest ++ te) (TS : Tabs te) (nt : NoTab rest) {x dx : Addr} {p : Rat} {t1 t2 t3 t4 : Tok} {n : Nat} (hx : (x, instObj 165 dx) ∈ rest) (hdx : (dx, fdict w p.num p.den t1 t2 t3 t4 n) ∈ rest) {y dy : Addr} {q : Rat} {u1 u2 u3 u4 : Tok} {k : Nat} (hy : (y, instObj 165 dy) ∈ rest) (hdy : (dy, fdict w q.num q.den u1 u2 u3 u4 k) ∈ rest) {a b : Int} {ta tb : Tok} (hp : p = Rat.divInt a b) (hb : 0 < b ∧ b ≤ 12) (ha : -20 ≤ a ∧ a ≤ 20) {c d : Int} {tc td : Tok} (hq : q = Rat.divInt c d) (hd : 0 < d ∧ d ≤ 12) (hc : -20 ≤ c ∧ c ≤ 20) (hcn : c = 0) :
    DoesT w (call (.ref 204) [.ref x, .ref y, .int a ta, .int b tb, .int c tc, .int d td]) 24 news (fun J => ∀ te', Tabs te' → J (.bool true) (rest ++ te')) := by
  subst hn
  unfold DoesT
  k_fill
  intro pg loose mean mg mb dp un gd cn cs a₁ ccd cl outer A₀ base h₀ L m s Q E B F XB N TB D hk hdp hu hret
  have X₀ : (Mine.hd.heap_39 w.params).In h₀ := XB.keeps B.stays
  have T : Top pg loose mean mg mb h₀ := TB.keeps B.stays
  refine wpAny_call ?_
  k_dflt (refine' callT_cells B F X₀ N T D rfl rfl hk ?k6 ?k7 ?k8 ?k9 ?kB ?kD ?_ ?c2 ?c3 ?c4; (case k6 => k_is); (case k7 => k_is); (case k8 => k_room); (case k9 => exact BindsTo.of_eq rfl); (case kB => exact rfl); (case kD => decide +kernel); (case c2 => exact rfl); (case c3 => exact rfl); (case c4 => exact rfl); k_whole)
  intro g' L' h' tk' cells' FG' F' N' Y' B' X' T' D' l1
  k_cells Y'
  (try simp only [List.cons_append, List.nil_append] at N')
  (try dsimp only)
  (try k_lift B')
  (try k_fold)
  have KT0 := @KtsTurn.refl (frs (envX cn cs L a₁ ccd cl :: outer)) g'
  rename_i c1 c2 e1 e2
  have ec1 : c1.data = .cell (some (.ref y)) := e1.trans rfl
  have ec2 : c2.data = .cell (some (.ref x)) := e2.trans rfl
  clear e1 e2
  have hmm : ∃ m0, Fr g' L' h' m0 ∧ m0 (Str.ofString "a") = some (.int a ta) ∧ m0 (Str.ofString "b") = some (.int b tb) ∧ m0 (Str.ofString "c") = some (.int c tc) ∧ m0 (Str.ofString "d") = some (.int d td) := ⟨_, F', rfl, rfl, rfl, rfl⟩
  clear F'
  obtain ⟨m0, F', ra, rb, rc, rd⟩ := hmm
  have hbn : b ≠ 0 := by omega
  have hdn : d ≠ 0 := by omega
  have bp : Bd p := by rw [hp]; exact Bd.divInt (by omega) hbn (by omega)
  have bq : Bd q := by rw [hq]; exact Bd.divInt (by omega) hdn (by omega)
  have i1 := is_lt (two_lt hp hq hb.1 hd.1)
  have i2 := is_le (two_le hp hq hb.1 hd.1)
  have i3 := is_gt (two_le hp hq hb.1 hd.1)
  have i4 := is_ge (two_lt hp hq hb.1 hd.1)
  have i5 := is_eq (two_eq hp hq hb.1 hd.1)
  have i6 := is_ne (two_eq hp hq hb.1 hd.1)
  have hqz : q = 0 := by rw [hq, hcn]; exact Rat.zero_divInt d
  refine wcut ((L' + 1 + 1, c1) :: (L' + 1, c2) :: rest) (fun m => m (Str.ofString "a") = some (.int a ta) ∧ m (Str.ofString "b") = some (.int b tb) ∧ m (Str.ofString "c") = some (.int c tc) ∧ m (Str.ofString "d") = some (.int d td) ∧ m (Str.ofString "fine") = some (.bool true)) XB TB B' N' KT0 ?_ ?_
  · intro Q2 hret2
    k_steps
    all_goals (
      refine' hret2 _ _ _ _ _ ?qTS ?qK ?qB ?qD ?qF ?qN ?qR
      (case qF => assumption)
      (case qN => first | assumption | (refine' cb_drop ?qM ?qS; (case qM => assumption); (case qS => exact fun p hp => by (repeat (first | exact hp | refine List.Mem.tail _ ?_)))))
      (case qTS => assumption)
      (case qK => assumption)
      (case qB => assumption)
      (case qD => assumption)
      (case qR => (try dsimp only); refine ⟨?_, ?_, ?_, ?_, ?_⟩ <;> (first | (apply Exists.intro; (repeat (first | assumption | exact if_pos rfl | (refine (if_neg (by decide)).trans ?_) | exact (if_pos rfl).trans (congrArg (fun q => some (Value.bool q)) (rfl)))); done) | (repeat (first | assumption | exact if_pos rfl | (refine (if_neg (by decide)).trans ?_) | exact (if_pos rfl).trans (congrArg (fun q => some (Value.bool q)) (rfl)))))))
  clear N' F' D' T' X' B' KT0 TS
  intro kg h' tk te m0 TS KT0 B' D' F' N' ⟨ra, rb, rc, rd, rf⟩ X' T'
  (try simp only [List.cons_append, List.nil_append] at N')
  refine wcut ((L' + 1 + 1, c1) :: (L' + 1, c2) :: rest) (fun m => m (Str.ofString "a") = some (.int a ta) ∧ m (Str.ofString "b") = some (.int b tb) ∧ m (Str.ofString "c") = some (.int c tc) ∧ m (Str.ofString "d") = some (.int d td) ∧ m (Str.ofString "fine") = some (.bool true)) XB TB B' N' KT0 ?_ ?_
  · intro Q2 hret2
    k_steps
    all_goals (
      refine' hret2 _ _ _ _ _ ?qTS ?qK ?qB ?qD ?qF ?qN ?qR
      (case qF => assumption)
      (case qN => first | assumption | (refine' cb_drop ?qM ?qS; (case qM => assumption); (case qS => exact fun p hp => by (repeat (first | exact hp | refine List.Mem.tail _ ?_)))))
      (case qTS => assumption)
      (case qK => assumption)
      (case qB => assumption)
      (case qD => assumption)
      (case qR => (try dsimp only); refine ⟨?_, ?_, ?_, ?_, ?_⟩ <;> (first | (apply Exists.intro; (repeat (first | assumption | exact if_pos rfl | (refine (if_neg (by decide)).trans ?_) | exact (if_pos rfl).trans (congrArg (fun q => some (Value.bool q)) (rfl)))); done) | (repeat (first | assumption | exact if_pos rfl | (refine (if_neg (by decide)).trans ?_) | exact (if_pos rfl).trans (congrArg (fun q => some (Value.bool q)) (rfl)))))))
  clear N' F' D' T' X' B' KT0 TS
  intro kg h' tk te m0 TS KT0 B' D' F' N' ⟨ra, rb, rc, rd, rf⟩ X' T'
  (try simp only [List.cons_append, List.nil_append] at N')
  refine wcut ((L' + 1 + 1, c1) :: (L' + 1, c2) :: rest) (fun m => m (Str.ofString "a") = some (.int a ta) ∧ m (Str.ofString "b") = some (.int b tb) ∧ m (Str.ofString "c") = some (.int c tc) ∧ m (Str.ofString "d") = some (.int d td) ∧ m (Str.ofString "fine") = some (.bool true) ∧ (∃ t, m (Str.ofString "left") = some (.int (a * d) t)) ∧ ∃ t, m (Str.ofString "right") = some (.int (c * b) t)) XB TB B' N' KT0 ?_ ?_
  · intro Q2 hret2
    k_steps
    all_goals (
      refine' hret2 _ _ _ _ _ ?qTS ?qK ?qB ?qD ?qF ?qN ?qR
      (case qF => assumption)
      (case qN => first | assumption | (refine' cb_drop ?qM ?qS; (case qM => assumption); (case qS => exact fun p hp => by (repeat (first | exact hp | refine List.Mem.tail _ ?_)))))
      (case qTS => assumption)
      (case qK => assumption)
      (case qB => assumption)
      (case qD => assumption)
      (case qR => (try dsimp only); refine ⟨?_, ?_, ?_, ?_, ?_, ?_, ?_⟩ <;> (first | (apply Exists.intro; (repeat (first | assumption | exact if_pos rfl | (refine (if_neg (by decide)).trans ?_) | exact (if_pos rfl).trans (congrArg (fun q => some (Value.bool q)) (rfl)))); done) | (repeat (first | assumption | exact if_pos rfl | (refine (if_neg (by decide)).trans ?_) | exact (if_pos rfl).trans (congrArg (fun q => some (Value.bool q)) (rfl)))))))
  clear N' F' D' T' X' B' KT0 TS
  intro kg h' tk te m0 TS KT0 B' D' F' N' ⟨ra, rb, rc, rd, rf, ⟨tl, rl⟩, tr, rr⟩ X' T'
  (try simp only [List.cons_append, List.nil_append] at N')
  refine wcut ((L' + 1 + 1, c1) :: (L' + 1, c2) :: rest) (fun m => m (Str.ofString "a") = some (.int a ta) ∧ m (Str.ofString "b") = some (.int b tb) ∧ m (Str.ofString "c") = some (.int c tc) ∧ m (Str.ofString "d") = some (.int d td) ∧ m (Str.ofString "fine") = some (.bool true) ∧ (∃ t, m (Str.ofString "left") = some (.int (a * d) t)) ∧ ∃ t, m (Str.ofString "right") = some (.int (c * b) t)) XB TB B' N' KT0 ?_ ?_
  · intro Q2 hret2
    k_steps
    all_goals (
      refine' hret2 _ _ _ _ _ ?qTS ?qK ?qB ?qD ?qF ?qN ?qR
      (case qF => assumption)
      (case qN => first | assumption | (refine' cb_drop ?qM ?qS; (case qM => assumption); (case qS => exact fun p hp => by (repeat (first | exact hp | refine List.Mem.tail _ ?_)))))
      (case qTS => assumption)
      (case qK => assumption)
      (case qB => assumption)
      (case qD => assumption)
      (case qR => (try dsimp only); refine ⟨?_, ?_, ?_, ?_, ?_, ?_, ?_⟩ <;> (first | (apply Exists.intro; (repeat (first | assumption | exact if_pos rfl | (refine (if_neg (by decide)).trans ?_) | exact (if_pos rfl).trans (congrArg (fun q => some (Value.bool q)) (i3)))); done) | (repeat (first | assumption | exact if_pos rfl | (refine (if_neg (by decide)).trans ?_) | exact (if_pos rfl).trans (congrArg (fun q => some (Value.bool q)) (i3)))))))
  clear N' F' D' T' X' B' KT0 TS
  intro kg h' tk te m0 TS KT0 B' D' F' N' ⟨ra, rb, rc, rd, rf, ⟨tl, rl⟩, tr, rr⟩ X' T'
  (try simp only [List.cons_append, List.nil_append] at N')
  k_steps
  all_goals rw [← i6] at hret
  all_goals (
    refine' leaveT_ ?qT ?qF ?qN ?_
    (case qF => assumption)
    (case qN => first | assumption | (refine' cb_drop ?qM ?qS; (case qM => assumption); (case qS => exact fun p hp => by (repeat (first | exact hp | refine List.Mem.tail _ ?_)))))
    (case qT => assumption)
    intro kg kT kF kN kB kD
    exact hret _ (by assumption) kg _ _ kT kB kD kF (cb_drop kN (fun p hp => by (repeat (first | exact hp | refine List.Mem.tail _ ?_)))))
end
section
local macro_rules | `(tactic| walk_at "call ref") => `(tactic| (k_here; (with_reducible show wpAny _ _ (call (Value.ref 165) [Value.int _ _]) _ _ _); k_dflt (refine' does_use (new_one ) ?k1 ?k2 ?k3 ?k4 ?k5 ?kK ?kd ?ku ?_; (case k1 => k_asm); (case k2 => k_asm); (case k3 => k_asm); (case k4 => k_asm); (case k5 => k_asm); (case kK => first | exact rfl | assumption); (case kd => k_room); (case ku => ktr_units); k_whole; intro x' d' t1' t2' t3' t4' n' l1 l2 h' tk' F' N'; (try k_lt l1); (try k_lt2 l2); (try k_sweep); (try dsimp only [PySem.W.CmpBack, PySem.W.LenBack, PySem.W.StrBack, PySem.W.BoolBack, Mine.NotBack]); (try dsimp only))))
local macro_rules | `(tactic| walk_at "call ref") => `(tactic| (k_here; (with_reducible show wpAny _ _ (call (Value.ref _) []) _ _ _); (with_reducible rename Raises _ _ _ _ _ => hRz); k_dflt (refine' raises_use hRz ?k1 ?k2 ?k3 ?k4 ?k5 ?kK ?kd ?ku ?_; (case k1 => k_asm); (case k2 => k_asm); (case k3 => k_asm); (case k4 => k_asm); (case k5 => k_asm); (case kK => first | exact rfl | assumption); (case kd => k_room); (case ku => ktr_units); k_whole; intro g' e' h' tk' F' R' U'; (try dsimp only))))
local macro_rules | `(tactic| walk_at "call ref") => `(tactic| (k_here; (with_reducible show wpAny _ _ (call (Value.ref 165) [_, _]) _ _ _); k_dflt (refine' raises_use (new_zero ?qn1 ?qn2 ?qz ?qb) ?k1 ?k2 ?k3 ?k4 ?k5 ?kK ?kd ?ku ?_; (case k1 => k_asm); (case k2 => k_asm); (case k3 => k_asm); (case k4 => k_asm); (case k5 => k_asm); (case kK => first | exact rfl | assumption); (case kd => k_room); (case ku => ktr_units); (case qn1 => first | exact NumAt.int _ _ | exact NumAt.frac (by k_mem) (by k_mem) | assumption | exact NumAt.cons (by assumption) | exact NumAt.cons (NumAt.cons (by assumption)) | exact NumAt.cons (NumAt.cons (NumAt.cons (by assumption)))); (case qn2 => first | exact NumAt.int _ _ | exact NumAt.frac (by k_mem) (by k_mem) | assumption | exact NumAt.cons (by assumption) | exact NumAt.cons (NumAt.cons (by assumption)) | exact NumAt.cons (NumAt.cons (NumAt.cons (by assumption)))); (case qz => assumption); (case qb => first | assumption | exact Bd.neg (by assumption)); k_whole; intro g' e' h' tk' F' R' U'; (try dsimp only))))
local macro_rules | `(tactic| walk_at "call ref") => `(tactic| (k_here; (with_reducible show wpAny _ _ (call (Value.ref 120) [Value.ref _, _]) _ _ _); k_dflt (refine' raises_use (div_zero ?qx ?qdx ?qb ?qn ?qz) ?k1 ?k2 ?k3 ?k4 ?k5 ?kK ?kd ?ku ?_; (case k1 => k_asm); (case k2 => k_asm); (case k3 => k_asm); (case k4 => k_asm); (case k5 => k_asm); (case kK => first | exact rfl | assumption); (case kd => k_room); (case ku => ktr_units); (case qx => k_mem); (case qdx => k_mem); (case qb => first | assumption | exact Bd.neg (by assumption)); (case qn => first | exact NumAt.int _ _ | exact NumAt.frac (by k_mem) (by k_mem) | assumption | exact NumAt.cons (by assumption) | exact NumAt.cons (NumAt.cons (by assumption)) | exact NumAt.cons (NumAt.cons (NumAt.cons (by assumption)))); (case qz => assumption); k_whole; intro g' e' h' tk' F' R' U'; (try dsimp only))))
local macro_rules | `(tactic| walk_at "call ref") => `(tactic| (k_here; (with_reducible show wpAny _ _ (call (Value.ref 127) [Value.ref _, Value.int _ _]) _ _ _); k_dflt (refine' raises_use (rdiv_zero ?qx ?qdx ?qc ?qz) ?k1 ?k2 ?k3 ?k4 ?k5 ?kK ?kd ?ku ?_; (case k1 => k_asm); (case k2 => k_asm); (case k3 => k_asm); (case k4 => k_asm); (case k5 => k_asm); (case kK => first | exact rfl | assumption); (case kd => k_room); (case ku => ktr_units); (case qx => k_mem); (case qdx => k_mem); (case qc => first | assumption | exact Bd.neg (by assumption)); (case qz => assumption); k_whole; intro g' e' h' tk' F' R' U'; (try dsimp only))))
local macro_rules | `(tactic| walk_at "eval Name") => `(tactic| (k_here; name_kind "free"; k_dflt (refine' nameX_F ?N ?c ?m ?d ?_ ?a ?b; (case a => rfl); (case b => rfl); (case N => k_asm); (case c => rfl); (case m => k_mem); (case d => k_asm); k_whole)))
local macro_rules | `(tactic| k_mem) => `(tactic| ((repeat ((show (_ : Addr × Obj) ∈ (_ : List (Addr × Obj))); first | ((with_reducible refine List.mem_append_left _ ?_); ktr_member) | ((with_reducible refine List.mem_append_right _ ?_); ktr_member) | exact List.Mem.head _ | ktr_member | refine List.Mem.tail _ ?_)); done))
local macro_rules | `(tactic| kn_code) => `(tactic| exact codeHd_of_K (by assumption) (by kernel_rfl))
theorem two_ok {w : World} {news rest te : Led} (hn : news = rest ++ te) (TS : Tabs te) (nt : NoTab rest) {x dx : Addr} {p : Rat} {t1 t2 t3 t4 : Tok} {n : Nat} (hx : (x, instObj 165 dx) ∈ rest) (hdx : (dx, fdict w p.num p.den t1 t2 t3 t4 n) ∈ rest) {y dy : Addr} {q : Rat} {u1 u2 u3 u4 : Tok} {k : Nat} (hy : (y, instObj 165 dy) ∈ rest) (hdy : (dy, fdict w q.num q.den u1 u2 u3 u4 k) ∈ rest) {a b : Int} {ta tb : Tok} (hp : p = Rat.divInt a b) (hb : 0 < b ∧ b ≤ 12) (ha : -20 ≤ a ∧ a ≤ 20) {c d : Int} {tc td : Tok} (hq : q = Rat.divInt c d) (hd : 0 < d ∧ d ≤ 12) (hc : -20 ≤ c ∧ c ≤ 20) : DoesT w (call (.ref 204) [.ref x, .ref y, .int a ta, .int b tb, .int c tc, .int d td]) 24 news (fun J => ∀ te', Tabs te' → J (.bool true) (rest ++ te')) := by
  by_cases h : c = 0
  · exact two_z hn TS nt hx hdx hy hdy hp hb ha hq hd hc h
  · intro pg loose mean mg mb dp un gd cn cs a₁ ccd cl outer A₀ base h₀ L m s Q E B F XB N TB D hk hdp hu hret
    subst hn
    exact does_use (two_nz (List.mem_append_left _ hx) (List.mem_append_left _ hdx) (List.mem_append_left _ hy) (List.mem_append_left _ hdy) hp hb ha hq hd hc h) B F (XB.keeps B.stays) N (TB.keeps B.stays) hk (by omega) (by omega) (fun h' tk' F' N' => hret te TS h₀ h' tk' KtsTurn.refl B D F' N')
local macro_rules | `(tactic| walk_at "call ref") => `(tactic| (k_here; (with_reducible show wpAny _ _ (call (Value.ref 204) [Value.ref _, Value.ref _, Value.int _ _, Value.int _ _, Value.int _ _, Value.int _ _]) _ _ _); (with_reducible rename News _ _ _ _ => hNN); k_dflt (refine' doesT_use (two_ok ?qn ?qTS ?qnt ?qx ?qdx ?qy ?qdy ?qp ?qb ?qa ?qq ?qd ?qc) ?k1 ?k2 ?k3 hNN ?k5 ?k6 ?kK ?kd ?ku ?_; (case qTS => assumption); (case qn => (repeat (first | exact rfl | exact split_nil | apply split_cons))); (case qnt => (repeat (first | assumption | exact NoTab.nil | refine NoTab.cons (by first | exact noTab_data (by assumption) | (intro ws hw; cases hw; done) | exact noTab_cls (by intro h; cases h) | (intro ws hw; simp_all; done)) ?_))); (case qx => k_mem); (case qdx => k_mem); (case qy => k_mem); (case qdy => k_mem); (case qp => assumption); (case qb => first | assumption | exact ⟨by omega, by omega⟩); (case qa => first | assumption | exact ⟨by omega, by omega⟩); (case qq => assumption); (case qd => first | assumption | exact ⟨by omega, by omega⟩); (case qc => first | assumption | exact ⟨by omega, by omega⟩); (case k1 => k_asm); (case k2 => k_asm); (case k3 => k_asm); (case k5 => k_asm); (case k6 => k_asm); (case kK => first | exact rfl | assumption); (case kd => k_room); (case ku => ktr_units)); (intro te' TS' kg' h' tk' KT' B' D' F' N'; (have KT2' := KtsTurn.trans (by assumption) KT'); clear KT'; k_dflt (have X' : (Mine.hd.heap_39 _).In _ := Frag.In.keeps (by assumption) (Below.stays B')); k_dflt (have T' := Top.keeps (by assumption) (Below.stays B')); (try simp only [List.cons_append, List.nil_append] at N'); (try dsimp only))))
local macro_rules | `(tactic| walk_at "call ref") => `(tactic| (k_here; (with_reducible show wpAny _ _ (call (Value.ref 190) [Value.ref _, Value.int _ _, Value.int _ _]) _ _ _); k_dflt (refine' does_use (is_f ?qx ?qdx ?ql ?qb ?qr) ?k1 ?k2 ?k3 ?k4 ?k5 ?kK ?kd ?ku ?_; (case k1 => k_asm); (case k2 => k_asm); (case k3 => k_asm); (case k4 => k_asm); (case k5 => k_asm); (case kK => first | exact rfl | assumption); (case kd => k_room); (case ku => ktr_units); (case qx => k_mem); (case qdx => k_mem); (case ql => first | assumption | exact Int.mul_ne_zero (by assumption) (by assumption) | omega); (case qb => first | assumption | omega | exact natAbs_mul_lt (m := 128) (n := 128) (by omega) (by omega) (by decide)); (case qr => first | assumption | exact w_add (by assumption) (by assumption) | exact w_radd (by assumption) (by assumption) | exact w_sub (by assumption) (by assumption) | exact w_rsub (by assumption) (by assumption) | exact w_mul (by assumption) | exact w_rmul (by assumption) | exact w_div (by assumption) | exact w_rdiv (by assumption)); k_whole; intro h' tk' F' N'; (try k_sweep); (try dsimp only [PySem.W.CmpBack, PySem.W.LenBack, PySem.W.StrBack, PySem.W.BoolBack, Mine.NotBack]); (try dsimp only))))
local macro_rules | `(tactic| walk_at "call ref") => `(tactic| (k_here; (with_reducible show wpAny _ _ (call (Value.ref 197) [Value.ref _]) _ _ _); (with_reducible rename News _ _ _ _ => hNN); k_dflt (refine' doesT_use (refl_nothing ?qm ?qc ?qd ?qv ?qbind ?qco ?qgen ?qkk ?qcell ?qB) ?k1 ?k2 ?k3 hNN ?k5 ?k6 ?kK ?kd ?ku ?_; (case qm => exact List.Mem.head _); (case qc => (repeat (first | exact List.mem_append_right _ (by assumption) | refine List.Mem.tail _ ?_))); (case qd => assumption); (case qv => assumption); (case qbind => exact rfl); (case qco => exact rfl); (case qgen => exact rfl); (case qkk => exact rfl); (case qcell => decide); (case k1 => k_asm); (case k2 => k_asm); (case k3 => k_asm); (case k5 => k_asm); (case k6 => k_asm); (case kK => first | exact rfl | assumption); (case kd => k_room); (case ku => ktr_units); (case qB => (intro p' l' m' mg' mb' dp' un' gd' o' A' b' g' L' m' s' Q' E' B' F' X' N' T' hd' hu' hr'; k_steps; (refine' hr' _ _ _ _ ?qf ?qr ?qu; (case qu => assumption); (case qr => first | exact raised_sub (by assumption) (fun p hp => by (repeat (first | exact hp | refine List.Mem.tail _ ?_))) | exact raised_sub (raised_made (by assumption)) (fun p hp => by (repeat (first | exact hp | refine List.Mem.tail _ ?_)))); (case qf => assumption))))); (intro v' hv' kg' h' tk' KT' B' D' F' N'; obtain ⟨t', e'⟩ := hv'; subst e'; (have KT2' := KtsTurn.trans (by assumption) KT'); clear KT'; k_dflt (have X' : (Mine.hd.heap_39 _).In _ := Frag.In.keeps (by assumption) (Below.stays B')); k_dflt (have T' := Top.keeps (by assumption) (Below.stays B')); (try dsimp only))))
local macro_rules | `(tactic| walk_at "eval Lambda") => `(tactic| (k_here; k_dflt (refine' kla_eval ?d0 ?_; (case d0 => exact rfl)); k_dflt (refine' lam_te (qual := q1) ?hS ?kF ?kN ?hn ?hNT ?kT ?kC ?cd ?kcl ?_; (case kF => k_asm); (case kN => k_asm); (case hS => exact Tabs.at1 (by assumption)); (case hn => (repeat (first | exact rfl | exact split_nil | apply split_cons))); (case hNT => (repeat (first | assumption | exact NoTab.nil | refine NoTab.cons (by first | exact noTab_data (by assumption) | (intro ws hw; cases hw; done) | exact noTab_cls (by intro h; cases h) | (intro ws hw; simp_all; done)) ?_))); (case kT => k_asm); (case cd => exact rfl); (case kC => kn_code); (case kcl => exact rfl)); intro f' c' oc' vs' t' ct' pm' te' h' tk' F' N' S' K' hc' hd' hv'; (have TB' := Tabs.lam1 (by assumption) S' K'); clear K' S'; (try simp only [List.cons_append, List.nil_append] at N'); (try k_sweep)))
local macro_rules | `(tactic| walk_at "eval Name") => `(tactic| (k_here; name_kind "local"; k_dflt (refine' nameX_L ?F ?v ?_ ?a ?b; (case F => k_asm); (case a => rfl); (case b => rfl); (case v => assumption); k_whole)))
local macro_rules | `(tactic| walk_at "ite") => `(tactic| (k_here; refine ite_a (by assumption) (by first | assumption | decide) ?_ ?_ <;> intro hz1 hz2))
theorem whole_ok {w : World} {news rest te : Led} (hn : news = rest ++ te) (TS : Tabs te) (nt : NoTab rest) {x dx : Addr} {p : Rat} {t1 t2 t3 t4 : Tok} {n₁ : Nat} (hx : (x, instObj 165 dx) ∈ rest) (hdx : (dx, fdict w p.num p.den t1 t2 t3 t4 n₁) ∈ rest) {a b : Int} {ta tb : Tok} (hp : p = Rat.divInt a b) (hb : 0 < b ∧ b ≤ 12) (ha : -20 ≤ a ∧ a ≤ 20) {n : Int} {tn : Tok} (hn' : -15 ≤ n ∧ n ≤ 15) :
    DoesT w (call (.ref 211) [.ref x, .int n tn, .int a ta, .int b tb]) 30 news (fun J => ∀ te', Tabs te' → J (.bool true) (rest ++ te')) := by
  subst hn
  unfold DoesT
  k_fill
  intro pg loose mean mg mb dp un gd cn cs a₁ ccd cl outer A₀ base h₀ L m s Q E B F XB N TB D hk hdp hu hret
  have X₀ : (Mine.hd.heap_39 w.params).In h₀ := XB.keeps B.stays
  have T : Top pg loose mean mg mb h₀ := TB.keeps B.stays
  refine wpAny_call ?_
  k_dflt (refine' callT_cells B F X₀ N T D rfl rfl hk ?k6 ?k7 ?k8 ?k9 ?kB ?kD ?_ ?c2 ?c3 ?c4; (case k6 => k_is); (case k7 => k_is); (case k8 => k_room); (case k9 => exact BindsTo.of_eq rfl); (case kB => exact rfl); (case kD => decide +kernel); (case c2 => exact rfl); (case c3 => exact rfl); (case c4 => exact rfl); k_whole)
  intro g' L' h' tk' cells' FG' F' N' Y' B' X' T' D' l1
  k_cells Y'
  (try simp only [List.cons_append, List.nil_append] at N')
  (try dsimp only)
  (try k_lift B')
  (try k_fold)
  have KT0 := @KtsTurn.refl (frs (envX cn cs L a₁ ccd cl :: outer)) g'
  rename_i c1 c2 e1 e2
  have ec1 : c1.data = .cell (some (.int n tn)) := e1.trans rfl
  have ec2 : c2.data = .cell (some (.ref x)) := e2.trans rfl
  clear e1 e2
  have hmm : ∃ m0, Fr g' L' h' m0 ∧ m0 (Str.ofString "a") = some (.int a ta) ∧ m0 (Str.ofString "b") = some (.int b tb) := ⟨_, F', rfl, rfl⟩
  clear F'
  obtain ⟨m0, F', ra, rb⟩ := hmm
  have hbn : b ≠ 0 := by omega
  have bp : Bd p := by rw [hp]; exact Bd.divInt (by omega) hbn (by omega)
  have bn : Bd (n : Rat) := bd_int (by omega)
  have hqn : (n : Rat) = Rat.divInt n 1 := int_divInt n
  have i1 := is_lt (w_lt (n := n) hp hb.1)
  have i2 := is_le (w_le (n := n) hp hb.1)
  have i3 := is_gt (w_le (n := n) hp hb.1)
  have i4 := is_ge (w_lt (n := n) hp hb.1)
  have i5 := is_eq (w_eq (n := n) hp hb.1)
  refine wcut ((L' + 1 + 1, c1) :: (L' + 1, c2) :: rest) (fun m => m (Str.ofString "a") = some (.int a ta) ∧ m (Str.ofString "b") = some (.int b tb) ∧ m (Str.ofString "fine") = some (.bool true)) XB TB B' N' KT0 ?_ ?_
  · intro Q2 hret2
    k_steps
    all_goals (
      refine' hret2 _ _ _ _ _ ?qTS ?qK ?qB ?qD ?qF ?qN ?qR
      (case qF => assumption)
      (case qN => first | assumption | (refine' cb_drop ?qM ?qS; (case qM => assumption); (case qS => exact fun p hp => by (repeat (first | exact hp | refine List.Mem.tail _ ?_)))))
      (case qTS => assumption)
      (case qK => assumption)
      (case qB => assumption)
      (case qD => assumption)
      (case qR => (try dsimp only); refine ⟨?_, ?_, ?_⟩ <;> (first | (apply Exists.intro; (repeat (first | assumption | exact if_pos rfl | (refine (if_neg (by decide)).trans ?_) | (rw [if_pos rfl, i5]))); done) | (repeat (first | assumption | exact if_pos rfl | (refine (if_neg (by decide)).trans ?_) | (rw [if_pos rfl, i5]))))))
  clear N' F' D' T' X' B' KT0 TS
  intro kg h' tk te m0 TS KT0 B' D' F' N' ⟨ra, rb, rf⟩ X' T'
  (try simp only [List.cons_append, List.nil_append] at N')
  refine wcut ((L' + 1 + 1, c1) :: (L' + 1, c2) :: rest) (fun m => m (Str.ofString "a") = some (.int a ta) ∧ m (Str.ofString "b") = some (.int b tb) ∧ m (Str.ofString "fine") = some (.bool true)) XB TB B' N' KT0 ?_ ?_
  · intro Q2 hret2
    k_steps
    all_goals (
      refine' hret2 _ _ _ _ _ ?qTS ?qK ?qB ?qD ?qF ?qN ?qR
      (case qF => assumption)
      (case qN => first | assumption | (refine' cb_drop ?qM ?qS; (case qM => assumption); (case qS => exact fun p hp => by (repeat (first | exact hp | refine List.Mem.tail _ ?_)))))
      (case qTS => assumption)
      (case qK => assumption)
      (case qB => assumption)
      (case qD => assumption)
      (case qR => (try dsimp only); refine ⟨?_, ?_, ?_⟩ <;> (first | (apply Exists.intro; (repeat (first | assumption | exact if_pos rfl | (refine (if_neg (by decide)).trans ?_) | (rw [if_pos rfl, i5]))); done) | (repeat (first | assumption | exact if_pos rfl | (refine (if_neg (by decide)).trans ?_) | (rw [if_pos rfl, i5]))))))
  clear N' F' D' T' X' B' KT0 TS
  intro kg h' tk te m0 TS KT0 B' D' F' N' ⟨ra, rb, rf⟩ X' T'
  (try simp only [List.cons_append, List.nil_append] at N')
  refine wcut ((L' + 1 + 1, c1) :: (L' + 1, c2) :: rest) (fun m => m (Str.ofString "a") = some (.int a ta) ∧ m (Str.ofString "b") = some (.int b tb) ∧ m (Str.ofString "fine") = some (.bool true)) XB TB B' N' KT0 ?_ ?_
  · intro Q2 hret2
    k_steps
    all_goals (
      refine' hret2 _ _ _ _ _ ?qTS ?qK ?qB ?qD ?qF ?qN ?qR
      (case qF => assumption)
      (case qN => first | assumption | (refine' cb_drop ?qM ?qS; (case qM => assumption); (case qS => exact fun p hp => by (repeat (first | exact hp | refine List.Mem.tail _ ?_)))))
      (case qTS => assumption)
      (case qK => assumption)
      (case qB => assumption)
      (case qD => assumption)
      (case qR => (try dsimp only); refine ⟨?_, ?_, ?_⟩ <;> (first | (apply Exists.intro; (repeat (first | assumption | exact if_pos rfl | (refine (if_neg (by decide)).trans ?_) | (rw [if_pos rfl, i5]))); done) | (repeat (first | assumption | exact if_pos rfl | (refine (if_neg (by decide)).trans ?_) | (rw [if_pos rfl, i5]))))))
  clear N' F' D' T' X' B' KT0 TS
  intro kg h' tk te m0 TS KT0 B' D' F' N' ⟨ra, rb, rf⟩ X' T'
  (try simp only [List.cons_append, List.nil_append] at N')
  refine wcut ((L' + 1 + 1, c1) :: (L' + 1, c2) :: rest) (fun m => m (Str.ofString "a") = some (.int a ta) ∧ m (Str.ofString "b") = some (.int b tb) ∧ m (Str.ofString "fine") = some (.bool true)) XB TB B' N' KT0 ?_ ?_
  · intro Q2 hret2
    k_steps
    all_goals (
      refine' hret2 _ _ _ _ _ ?qTS ?qK ?qB ?qD ?qF ?qN ?qR
      (case qF => assumption)
      (case qN => first | assumption | (refine' cb_drop ?qM ?qS; (case qM => assumption); (case qS => exact fun p hp => by (repeat (first | exact hp | refine List.Mem.tail _ ?_)))))
      (case qTS => assumption)
      (case qK => assumption)
      (case qB => assumption)
      (case qD => assumption)
      (case qR => (try dsimp only); refine ⟨?_, ?_, ?_⟩ <;> (first | (apply Exists.intro; (repeat (first | assumption | exact if_pos rfl | (refine (if_neg (by decide)).trans ?_) | (rw [if_pos rfl, i5]))); done) | (repeat (first | assumption | exact if_pos rfl | (refine (if_neg (by decide)).trans ?_) | (rw [if_pos rfl, i5]))))))
  clear N' F' D' T' X' B' KT0 TS
  intro kg h' tk te m0 TS KT0 B' D' F' N' ⟨ra, rb, rf⟩ X' T'
  (try simp only [List.cons_append, List.nil_append] at N')
  refine wcut ((L' + 1 + 1, c1) :: (L' + 1, c2) :: rest) (fun m => m (Str.ofString "a") = some (.int a ta) ∧ m (Str.ofString "b") = some (.int b tb) ∧ m (Str.ofString "fine") = some (.bool true) ∧ m (Str.ofString "left") = some (.int a ta) ∧ ∃ t, m (Str.ofString "right") = some (.int (n * b) t)) XB TB B' N' KT0 ?_ ?_
  · intro Q2 hret2
    k_steps
    all_goals (
      refine' hret2 _ _ _ _ _ ?qTS ?qK ?qB ?qD ?qF ?qN ?qR
      (case qF => assumption)
      (case qN => first | assumption | (refine' cb_drop ?qM ?qS; (case qM => assumption); (case qS => exact fun p hp => by (repeat (first | exact hp | refine List.Mem.tail _ ?_)))))
      (case qTS => assumption)
      (case qK => assumption)
      (case qB => assumption)
      (case qD => assumption)
      (case qR => (try dsimp only); refine ⟨?_, ?_, ?_, ?_, ?_⟩ <;> (first | (apply Exists.intro; (repeat (first | assumption | exact if_pos rfl | (refine (if_neg (by decide)).trans ?_) | (rw [if_pos rfl, i5]))); done) | (repeat (first | assumption | exact if_pos rfl | (refine (if_neg (by decide)).trans ?_) | (rw [if_pos rfl, i5]))))))
  clear N' F' D' T' X' B' KT0 TS
  intro kg h' tk te m0 TS KT0 B' D' F' N' ⟨ra, rb, rf, rl, tr, rr⟩ X' T'
  (try simp only [List.cons_append, List.nil_append] at N')
  refine wcut ((L' + 1 + 1, c1) :: (L' + 1, c2) :: rest) (fun m => m (Str.ofString "a") = some (.int a ta) ∧ m (Str.ofString "b") = some (.int b tb) ∧ m (Str.ofString "fine") = some (.bool true) ∧ m (Str.ofString "left") = some (.int a ta) ∧ ∃ t, m (Str.ofString "right") = some (.int (n * b) t)) XB TB B' N' KT0 ?_ ?_
  · intro Q2 hret2
    k_steps
    all_goals (
      refine' hret2 _ _ _ _ _ ?qTS ?qK ?qB ?qD ?qF ?qN ?qR
      (case qF => assumption)
      (case qN => first | assumption | (refine' cb_drop ?qM ?qS; (case qM => assumption); (case qS => exact fun p hp => by (repeat (first | exact hp | refine List.Mem.tail _ ?_)))))
      (case qTS => assumption)
      (case qK => assumption)
      (case qB => assumption)
      (case qD => assumption)
      (case qR => (try dsimp only); refine ⟨?_, ?_, ?_, ?_, ?_⟩ <;> (first | (apply Exists.intro; (repeat (first | assumption | exact if_pos rfl | (refine (if_neg (by decide)).trans ?_) | (rw [if_pos rfl, i5]))); done) | (repeat (first | assumption | exact if_pos rfl | (refine (if_neg (by decide)).trans ?_) | (rw [if_pos rfl, i5]))))))
  clear N' F' D' T' X' B' KT0 TS
  intro kg h' tk te m0 TS KT0 B' D' F' N' ⟨ra, rb, rf, rl, tr, rr⟩ X' T'
  (try simp only [List.cons_append, List.nil_append] at N')
  k_steps
  all_goals rw [← i1] at hret
  all_goals (
    refine' leaveT_ ?qT ?qF ?qN ?_
    (case qF => assumption)
    (case qN => first | assumption | (refine' cb_drop ?qM ?qS; (case qM => assumption); (case qS => exact fun p hp => by (repeat (first | exact hp | refine List.Mem.tail _ ?_)))))
    (case qT => assumption)
    intro kg kT kF kN kB kD
    exact hret _ (by assumption) kg _ _ kT kB kD kF (cb_drop kN (fun p hp => by (repeat (first | exact hp | refine List.Mem.tail _ ?_)))))
end
section
local macro_rules | `(tactic| walk_at "eval Name") => `(tactic| (k_here; name_kind "free"; k_dflt (refine' nameX_F ?N ?c ?m ?d ?_ ?a ?b; (case a => rfl); (case b => rfl); (case N => k_asm); (case c => rfl); (case m => k_mem); (case d => k_asm); k_whole)))
local macro_rules | `(tactic| k_mem) => `(tactic| ((repeat ((show (_ : Addr × Obj) ∈ (_ : List (Addr × Obj))); first | ((with_reducible refine List.mem_append_left _ ?_); ktr_member) | ((with_reducible refine List.mem_append_right _ ?_); ktr_member) | exact List.Mem.head _ | ktr_member | refine List.Mem.tail _ ?_)); done))
local macro_rules | `(tactic| kn_code) => `(tactic| exact codeHd_of_K (by assumption) (by kernel_rfl))
section
theorem add_ir {w : World} {news : Led} {x dx : Addr} {r : Rat} {t1 t2 t3 t4 : Tok} {n : Nat} (hx : (x, instObj 165 dx) ∈ news) (hdx : (dx, fdict w r.num r.den t1 t2 t3 t4 n) ∈ news) (b : Bd r) {i : Int} {ti : Tok} (c : Bd (i : Rat)) :
    Does w (binaryOp .Add (.int i ti) (.ref x)) 10 news (RF w ((i : Rat) + r) news) := by
  unfold Does
  k_fill
  intro p loose mean mg mb dp un gd cn cs a ccd cl outer A₀ base h₀ L m s Q E B F X N T hk hd hu hret
  k_steps
  all_goals (
    refine' hret _ _ _ _ _ _ _ ?ql1 ?ql2 _ _ ?qf ?qn
    (case qf => assumption)
    (case qn => first | assumption | (refine' cb_drop ?qN ?qS; (case qN => assumption); (case qS => exact List.forall_mem_cons.mpr ⟨by k_mem, List.forall_mem_cons.mpr ⟨by k_mem, fun p hp => by (repeat (first | exact hp | refine List.Mem.tail _ ?_))⟩⟩)))
    (case ql1 => first | assumption | exact ktn_ltOf (And.right (by assumption)) | exact ktn_ltOf (And.right (And.right (by assumption))) | exact ktn_ltOf (And.right (And.right (And.right (by assumption)))) | exact ktn_ltOf (And.right (And.right (And.right (And.right (by assumption))))) | exact ktn_ltOf (And.right (And.right (And.right (And.right (And.right (by assumption)))))))
    (case ql2 => assumption))
theorem add_rr {w : World} {news : Led} {x dx : Addr} {r : Rat} {t1 t2 t3 t4 : Tok} {n : Nat} (hx : (x, instObj 165 dx) ∈ news) (hdx : (dx, fdict w r.num r.den t1 t2 t3 t4 n) ∈ news) (b : Bd r) {y dy : Addr} {q : Rat} {u1 u2 u3 u4 : Tok} {k : Nat} (hy : (y, instObj 165 dy) ∈ news) (hdy : (dy, fdict w q.num q.den u1 u2 u3 u4 k) ∈ news) (c : Bd q) :
    Does w (binaryOp .Add (.ref x) (.ref y)) 10 news (RF w (r + q) news) := by
  unfold Does
  k_fill
  intro p loose mean mg mb dp un gd cn cs a ccd cl outer A₀ base h₀ L m s Q E B F X N T hk hd hu hret
  k_steps
  all_goals (
    refine' hret _ _ _ _ _ _ _ ?ql1 ?ql2 _ _ ?qf ?qn
    (case qf => assumption)
    (case qn => first | assumption | (refine' cb_drop ?qN ?qS; (case qN => assumption); (case qS => exact List.forall_mem_cons.mpr ⟨by k_mem, List.forall_mem_cons.mpr ⟨by k_mem, fun p hp => by (repeat (first | exact hp | refine List.Mem.tail _ ?_))⟩⟩)))
    (case ql1 => first | assumption | exact ktn_ltOf (And.right (by assumption)) | exact ktn_ltOf (And.right (And.right (by assumption))) | exact ktn_ltOf (And.right (And.right (And.right (by assumption)))) | exact ktn_ltOf (And.right (And.right (And.right (And.right (by assumption))))) | exact ktn_ltOf (And.right (And.right (And.right (And.right (And.right (by assumption)))))))
    (case ql2 => assumption))
theorem gt_rr {w : World} {news : Led} {x dx : Addr} {r : Rat} {t1 t2 t3 t4 : Tok} {n : Nat} (hx : (x, instObj 165 dx) ∈ news) (hdx : (dx, fdict w r.num r.den t1 t2 t3 t4 n) ∈ news) (b : Bd r) {y dy : Addr} {q : Rat} {u1 u2 u3 u4 : Tok} {k : Nat} (hy : (y, instObj 165 dy) ∈ news) (hdy : (dy, fdict w q.num q.den u1 u2 u3 u4 k) ∈ news) (c : Bd q) :
    Does w (compareOp .Gt (.ref x) (.ref y)) 10 news (RB (!decide (r ≤ q)) news) := by
  unfold Does
  k_fill
  intro p loose mean mg mb dp un gd cn cs a ccd cl outer A₀ base h₀ L m s Q E B F X N T hk hd hu hret
  k_steps
  all_goals (
    refine' hret _ _ ?qf ?qn
    (case qf => assumption)
    (case qn => first | assumption | (refine' cb_drop ?qN ?qS; (case qN => assumption); (case qS => exact fun p hp => by (repeat (first | exact hp | refine List.Mem.tail _ ?_))))))
theorem lt_rr {w : World} {news : Led} {x dx : Addr} {r : Rat} {t1 t2 t3 t4 : Tok} {n : Nat} (hx : (x, instObj 165 dx) ∈ news) (hdx : (dx, fdict w r.num r.den t1 t2 t3 t4 n) ∈ news) (b : Bd r) {y dy : Addr} {q : Rat} {u1 u2 u3 u4 : Tok} {k : Nat} (hy : (y, instObj 165 dy) ∈ news) (hdy : (dy, fdict w q.num q.den u1 u2 u3 u4 k) ∈ news) (c : Bd q) :
    Does w (compareOp .Lt (.ref x) (.ref y)) 10 news (RB (decide (r < q)) news) := by
  unfold Does
  k_fill
  intro p loose mean mg mb dp un gd cn cs a ccd cl outer A₀ base h₀ L m s Q E B F X N T hk hd hu hret
  k_steps
  all_goals (
    refine' hret _ _ ?qf ?qn
    (case qf => assumption)
    (case qn => first | assumption | (refine' cb_drop ?qN ?qS; (case qN => assumption); (case qS => exact fun p hp => by (repeat (first | exact hp | refine List.Mem.tail _ ?_))))))
theorem eq_rr {w : World} {news : Led} {x dx : Addr} {r : Rat} {t1 t2 t3 t4 : Tok} {n : Nat} (hx : (x, instObj 165 dx) ∈ news) (hdx : (dx, fdict w r.num r.den t1 t2 t3 t4 n) ∈ news) {y dy : Addr} {q : Rat} {u1 u2 u3 u4 : Tok} {k : Nat} (hy : (y, instObj 165 dy) ∈ news) (hdy : (dy, fdict w q.num q.den u1 u2 u3 u4 k) ∈ news) :
    Does w (compareOp .Eq (.ref x) (.ref y)) 10 news (RB (decide (r = q)) news) := by
  unfold Does
  k_fill
  intro p loose mean mg mb dp un gd cn cs a ccd cl outer A₀ base h₀ L m s Q E B F X N T hk hd hu hret
  k_steps
  all_goals (
    refine' hret _ _ ?qf ?qn
    (case qf => assumption)
    (case qn => first | assumption | (refine' cb_drop ?qN ?qS; (case qN => assumption); (case qS => exact fun p hp => by (repeat (first | exact hp | refine List.Mem.tail _ ?_))))))
end
section
theorem sorted_f {w : World} {news : Led} {x1 d1 : Addr} {r1 : Rat} {u1 v1 y1 z1 : Tok} {k1 : Nat} {x2 d2 : Addr} {r2 : Rat} {u2 v2 y2 z2 : Tok} {k2 : Nat} {x3 d3 : Addr} {r3 : Rat} {u3 v3 y3 z3 : Tok} {k3 : Nat} (hx1 : (x1, instObj 165 d1) ∈ news) (hd1 : (d1, fdict w r1.num r1.den u1 v1 y1 z1 k1) ∈ news) (b1 : Bd r1) (hx2 : (x2, instObj 165 d2) ∈ news) (hd2 : (d2, fdict w r2.num r2.den u2 v2 y2 z2 k2) ∈ news) (b2 : Bd r2) (hx3 : (x3, instObj 165 d3) ∈ news) (hd3 : (d3, fdict w r3.num r3.den u3 v3 y3 z3 k3) ∈ news) (b3 : Bd r3) {rl : Addr} {nl : Nat} (hl : (rl, listOf #[.ref x1, .ref x2, .ref x3] nl) ∈ news)  :
    Does w (call (.builtin "sorted") [.ref rl]) 40 news (fun J => ∀ D c s1 s2 s3 w1 w2 w3, (∀ q ∈ news, q.1 < D) → Srt r1 r2 r3 x1 x2 x3 s1 s2 s3 w1 w2 w3 → J (.ref D) ((D, listOf #[.ref w1, .ref w2, .ref w3] c) :: news)) := by
  unfold Does
  k_fill
  intro p loose mean mg mb dp un gd cn cs a ccd cl outer A₀ base h₀ L m s Q E B F X N T hk hd hu hret
  k_steps
  all_goals (first
    | (first | exact (lt_absurd (a := r1) (b := r2) (by assumption) (by assumption)).elim | exact (lt_absurd (a := r1) (b := r3) (by assumption) (by assumption)).elim | exact (lt_absurd (a := r2) (b := r3) (by assumption) (by assumption)).elim)
    | (refine' hret _ _ _ _ _ _ _ _ ?ql ?qs _ _ ?qf ?qn; (case qf => assumption); (case qn => assumption); (case ql => assumption); (case qs => first | (refine Srt.p123 ?_ ?_ <;> (first | exact Rat.le_of_lt (by assumption) | exact Rat.not_lt.mp (by assumption) | (refine Rat.le_trans (b := r1) ?_ ?_ <;> (first | exact Rat.le_of_lt (by assumption) | exact Rat.not_lt.mp (by assumption))) | (refine Rat.le_trans (b := r2) ?_ ?_ <;> (first | exact Rat.le_of_lt (by assumption) | exact Rat.not_lt.mp (by assumption))) | (refine Rat.le_trans (b := r3) ?_ ?_ <;> (first | exact Rat.le_of_lt (by assumption) | exact Rat.not_lt.mp (by assumption))))) | (refine Srt.p132 ?_ ?_ <;> (first | exact Rat.le_of_lt (by assumption) | exact Rat.not_lt.mp (by assumption) | (refine Rat.le_trans (b := r1) ?_ ?_ <;> (first | exact Rat.le_of_lt (by assumption) | exact Rat.not_lt.mp (by assumption))) | (refine Rat.le_trans (b := r2) ?_ ?_ <;> (first | exact Rat.le_of_lt (by assumption) | exact Rat.not_lt.mp (by assumption))) | (refine Rat.le_trans (b := r3) ?_ ?_ <;> (first | exact Rat.le_of_lt (by assumption) | exact Rat.not_lt.mp (by assumption))))) | (refine Srt.p213 ?_ ?_ <;> (first | exact Rat.le_of_lt (by assumption) | exact Rat.not_lt.mp (by assumption) | (refine Rat.le_trans (b := r1) ?_ ?_ <;> (first | exact Rat.le_of_lt (by assumption) | exact Rat.not_lt.mp (by assumption))) | (refine Rat.le_trans (b := r2) ?_ ?_ <;> (first | exact Rat.le_of_lt (by assumption) | exact Rat.not_lt.mp (by assumption))) | (refine Rat.le_trans (b := r3) ?_ ?_ <;> (first | exact Rat.le_of_lt (by assumption) | exact Rat.not_lt.mp (by assumption))))) | (refine Srt.p231 ?_ ?_ <;> (first | exact Rat.le_of_lt (by assumption) | exact Rat.not_lt.mp (by assumption) | (refine Rat.le_trans (b := r1) ?_ ?_ <;> (first | exact Rat.le_of_lt (by assumption) | exact Rat.not_lt.mp (by assumption))) | (refine Rat.le_trans (b := r2) ?_ ?_ <;> (first | exact Rat.le_of_lt (by assumption) | exact Rat.not_lt.mp (by assumption))) | (refine Rat.le_trans (b := r3) ?_ ?_ <;> (first | exact Rat.le_of_lt (by assumption) | exact Rat.not_lt.mp (by assumption))))) | (refine Srt.p312 ?_ ?_ <;> (first | exact Rat.le_of_lt (by assumption) | exact Rat.not_lt.mp (by assumption) | (refine Rat.le_trans (b := r1) ?_ ?_ <;> (first | exact Rat.le_of_lt (by assumption) | exact Rat.not_lt.mp (by assumption))) | (refine Rat.le_trans (b := r2) ?_ ?_ <;> (first | exact Rat.le_of_lt (by assumption) | exact Rat.not_lt.mp (by assumption))) | (refine Rat.le_trans (b := r3) ?_ ?_ <;> (first | exact Rat.le_of_lt (by assumption) | exact Rat.not_lt.mp (by assumption))))) | (refine Srt.p321 ?_ ?_ <;> (first | exact Rat.le_of_lt (by assumption) | exact Rat.not_lt.mp (by assumption) | (refine Rat.le_trans (b := r1) ?_ ?_ <;> (first | exact Rat.le_of_lt (by assumption) | exact Rat.not_lt.mp (by assumption))) | (refine Rat.le_trans (b := r2) ?_ ?_ <;> (first | exact Rat.le_of_lt (by assumption) | exact Rat.not_lt.mp (by assumption))) | (refine Rat.le_trans (b := r3) ?_ ?_ <;> (first | exact Rat.le_of_lt (by assumption) | exact Rat.not_lt.mp (by assumption))))))))
end
section
set_option maxRecDepth 100000
set_option maxHeartbeats 8000000
set_option Elab.async false
set_option linter.unusedVariables false
def KF (w : World) (r : Rat) (news : Led) (y : Addr) (rest : Led) : Prop :=
  ∃ (dy : Addr) (t1 t2 t3 t4 : Tok) (n : Nat), (y, instObj 165 dy) ∈ rest ∧ (dy, fdict w r.num r.den t1 t2 t3 t4 n) ∈ rest ∧ (∀ q ∈ news, q.1 < dy) ∧ dy < y ∧ ∀ p ∈ news, p ∈ rest
section
variable {w : World} {p : Program} {loose : List Str} {mean : ExcName → Option Value} {mg mb : Str → Option Value} {dp un : Nat} {gd : Option (List Code)} {cn : Str} {cs : Scope} {a : Addr} {ccd : Value} {cl : List (Str × Addr)} {outer : List Env} {A₀ : Around} {base h₀ : Heap} {L ax I S : Addr} {m : Str → Option Value} {s : Shared} {i : Nat} {rest news : Led}
theorem add_back {total v : Value} {r : Rat} {h' : Heap} {tk : Nat} (R : Run h₀ L m ax I S i #[total] rest h') (hsub : ∀ p ∈ news, p ∈ rest)
    (H : ∀ led, (∀ p ∈ rest, p ∈ led) → Does w (binaryOp .Add total v) 10 led (RF w r led))
    (B : Below A₀ base outer h₀) (X : (Mine.hd.heap_39 w.params).In h₀) (T : Top p loose mean mg mb h₀) (hk : cs.kind = .function) (hd : dp + 10 < recursionLimit) (hu : un + 200 < cLine) :
    wpAny (model PySem.Challenge.rw_at5001_01.row.prog w) (ktrTop dp un gd cn cs L a ccd cl outer) (binaryOp .Add total v) (AddBack h₀ L m ax I S i total s (KF w r news)) (fun _ _ => False) { s with heap := h', toks := tk } := by
  obtain ⟨o, c, hc, hda, N⟩ := Run.ledger (s := { s with heap := h', toks := tk }) R
  refine does_use (s := { s with heap := h', toks := tk }) (H _ fun p hp => .tail _ (.tail _ hp)) B R.F X N T hk hd (by omega) fun x dx t1 t2 t3 t4 n l1 l2 h2 tk2 F2 N2 => ?_
  have lI := l1 (I, o) (.head _)
  have lS := l1 (S, listOf #[total] c) (.tail _ (.head _))
  refine ⟨x, h2, tk2, [(x, instObj 165 dx), (dx, fdict w r.num r.den t1 t2 t3 t4 n)] ++ rest, rfl, rfl, Run.of (s := { s with heap := h', toks := tk }) (new := [(x, instObj 165 dx), (dx, fdict w r.num r.den t1 t2 t3 t4 n)]) R hc hda F2 N2 ?_, dx, t1, t2, t3, t4, n, .head _, .tail _ (.head _), fun q hq => l1 q (.tail _ (.tail _ (hsub q hq))), l2, fun p hp => .tail _ (.tail _ (hsub p hp))⟩
  intro p hp
  rcases List.mem_cons.mp hp with rfl | hp
  · exact ⟨Nat.ne_of_gt (Nat.lt_trans lI l2), Nat.ne_of_gt (Nat.lt_trans lS l2)⟩
  · rcases List.mem_cons.mp hp with rfl | hp
    · exact ⟨Nat.ne_of_gt lI, Nat.ne_of_gt lS⟩
    · cases hp
end
theorem sum3 {w : World} {news : Led} {rl x1 d1 x2 d2 x3 d3 : Addr} {n k1 k2 k3 : Nat} {r1 r2 r3 : Rat} {a1 b1 c1 e1 a2 b2 c2 e2 a3 b3 c3 e3 : Tok} (hl : (rl, listOf #[.ref x1, .ref x2, .ref x3] n) ∈ news)
    (hx1 : (x1, instObj 165 d1) ∈ news) (hd1 : (d1, fdict w r1.num r1.den a1 b1 c1 e1 k1) ∈ news) (hx2 : (x2, instObj 165 d2) ∈ news) (hd2 : (d2, fdict w r2.num r2.den a2 b2 c2 e2 k2) ∈ news) (hx3 : (x3, instObj 165 d3) ∈ news) (hd3 : (d3, fdict w r3.num r3.den a3 b3 c3 e3 k3) ∈ news)
    (v1 : Bd r1) (v2 : Bd r2) (v3 : Bd r3) (v0 : Bd ((0 : Int) : Rat)) (v01 : Bd (((0 : Int) : Rat) + r1)) (v012 : Bd (((0 : Int) : Rat) + r1 + r2)) :
    Does w (call (.builtin "sum") [.ref rl]) 20 news (RF w (((0 : Int) : Rat) + r1 + r2 + r3) news) := by
  intro p loose mean mg mb dp un gd cn cs a ccd cl outer A₀ base h₀ L m s Q E B F X N T hk hd hu hret
  refine call_sum_list F N hl fun I S h' tk t R => ?_
  refine sum_int_ref (A := ktrTop dp un gd cn cs L a ccd cl outer) (s := { s with heap := h', toks := tk }) R hl (x := x1) rfl (fun h2 R2 => add_back (s := { s with heap := h', toks := tk }) (dp := dp) (un := un + 1) R2 (fun _ h => h) (fun led hs => add_ir (hs _ hx1) (hs _ hd1) v1 v0) B X T hk (by omega) (by omega)) ?_
  intro y1 rest1 h1 tk1 K1 R1
  obtain ⟨e1', _, _, _, _, _, m1, m1', q1, q1', s1⟩ := K1
  refine sum_ref (A := ktrTop dp un gd cn cs L a ccd cl outer) (s := { s with heap := h1, toks := tk1 }) R1 (s1 _ hl) (x := x2) rfl (fun h2 R2 => add_back (s := { s with heap := h1, toks := tk1 }) (dp := dp) (un := un + 1) (news := news) R2 s1 (fun led hs => add_rr (hs _ m1) (hs _ m1') v01 (hs _ (s1 _ hx2)) (hs _ (s1 _ hd2)) v2) B X T hk (by omega) (by omega)) ?_
  intro y2 rest2 h2 tk2 K2 R2
  obtain ⟨e2', _, _, _, _, _, m2, m2', q2, q2', s2⟩ := K2
  refine sum_ref (A := ktrTop dp un gd cn cs L a ccd cl outer) (s := { s with heap := h2, toks := tk2 }) R2 (s2 _ hl) (x := x3) rfl (fun h3 R3 => add_back (s := { s with heap := h2, toks := tk2 }) (dp := dp) (un := un + 1) (news := news) R3 s2 (fun led hs => add_rr (hs _ m2) (hs _ m2') v012 (hs _ (s2 _ hx3)) (hs _ (s2 _ hd3)) v3) B X T hk (by omega) (by omega)) ?_
  intro y3 rest3 h3 tk3 K3 R3
  obtain ⟨e3', ta, tb, tc, td, nn, m3, m3', q3, q3', s3⟩ := K3
  refine sum_end (A := ktrTop dp un gd cn cs L a ccd cl outer) (s := { s with heap := h3, toks := tk3 }) rfl R3 (s3 _ hl) rfl fun h4 c F4 N4 => ?_
  show Q (Value.ref y3) { s with heap := h4, toks := tk3 }
  refine hret y3 e3' ta tb tc td nn q3 q3' h4 tk3 F4 ?_
  intro p hp
  rcases List.mem_cons.mp hp with rfl | hp
  · exact N4 _ (.tail _ m3)
  · rcases List.mem_cons.mp hp with rfl | hp
    · exact N4 _ (.tail _ m3')
    · exact N4 _ (.tail _ (s3 _ hp))
theorem sum4 {w : World} {news : Led} {rl x1 d1 x2 d2 x3 d3 : Addr} {n k1 k2 k3 : Nat} {r1 r2 r3 : Rat} {a1 b1 c1 e1 a2 b2 c2 e2 a3 b3 c3 e3 : Tok} {b : Int} {tb : Tok} (hb : -1000 ≤ b ∧ b ≤ 1000) (hl : (rl, listOf #[.int b tb, .ref x1, .ref x2, .ref x3] n) ∈ news)
    (hx1 : (x1, instObj 165 d1) ∈ news) (hd1 : (d1, fdict w r1.num r1.den a1 b1 c1 e1 k1) ∈ news) (hx2 : (x2, instObj 165 d2) ∈ news) (hd2 : (d2, fdict w r2.num r2.den a2 b2 c2 e2 k2) ∈ news) (hx3 : (x3, instObj 165 d3) ∈ news) (hd3 : (d3, fdict w r3.num r3.den a3 b3 c3 e3 k3) ∈ news)
    (v1 : Bd r1) (v2 : Bd r2) (v3 : Bd r3) (v0 : Bd ((0 + b : Int) : Rat)) (v01 : Bd (((0 + b : Int) : Rat) + r1)) (v012 : Bd (((0 + b : Int) : Rat) + r1 + r2)) :
    Does w (call (.builtin "sum") [.ref rl]) 20 news (RF w (((0 + b : Int) : Rat) + r1 + r2 + r3) news) := by
  intro p loose mean mg mb dp un gd cn cs a ccd cl outer A₀ base h₀ L m s Q E B F X N T hk hd hu hret
  refine call_sum_list F N hl fun I S h' tk t R => ?_
  refine sum_int_int (A := ktrTop dp un gd cn cs L a ccd cl outer) (s := { s with heap := h', toks := tk }) R hl rfl ⟨by omega, by omega⟩ hb fun h0 tk0 t0 R0 => ?_
  refine sum_int_ref (A := ktrTop dp un gd cn cs L a ccd cl outer) (s := { s with heap := h0, toks := tk0 }) R0 hl (x := x1) rfl (fun h2 R2 => add_back (s := { s with heap := h0, toks := tk0 }) (dp := dp) (un := un + 1) R2 (fun _ h => h) (fun led hs => add_ir (hs _ hx1) (hs _ hd1) v1 v0) B X T hk (by omega) (by omega)) ?_
  intro y1 rest1 h1 tk1 K1 R1
  obtain ⟨e1', _, _, _, _, _, m1, m1', q1, q1', s1⟩ := K1
  refine sum_ref (A := ktrTop dp un gd cn cs L a ccd cl outer) (s := { s with heap := h1, toks := tk1 }) R1 (s1 _ hl) (x := x2) rfl (fun h2 R2 => add_back (s := { s with heap := h1, toks := tk1 }) (dp := dp) (un := un + 1) (news := news) R2 s1 (fun led hs => add_rr (hs _ m1) (hs _ m1') v01 (hs _ (s1 _ hx2)) (hs _ (s1 _ hd2)) v2) B X T hk (by omega) (by omega)) ?_
  intro y2 rest2 h2 tk2 K2 R2
  obtain ⟨e2', _, _, _, _, _, m2, m2', q2, q2', s2⟩ := K2
  refine sum_ref (A := ktrTop dp un gd cn cs L a ccd cl outer) (s := { s with heap := h2, toks := tk2 }) R2 (s2 _ hl) (x := x3) rfl (fun h3 R3 => add_back (s := { s with heap := h2, toks := tk2 }) (dp := dp) (un := un + 1) (news := news) R3 s2 (fun led hs => add_rr (hs _ m2) (hs _ m2') v012 (hs _ (s2 _ hx3)) (hs _ (s2 _ hd3)) v3) B X T hk (by omega) (by omega)) ?_
  intro y3 rest3 h3 tk3 K3 R3
  obtain ⟨e3', ta, tb', tc, td, nn, m3, m3', q3, q3', s3⟩ := K3
  refine sum_end (A := ktrTop dp un gd cn cs L a ccd cl outer) (s := { s with heap := h3, toks := tk3 }) rfl R3 (s3 _ hl) rfl fun h4 c F4 N4 => ?_
  show Q (Value.ref y3) { s with heap := h4, toks := tk3 }
  refine hret y3 e3' ta tb' tc td nn q3 q3' h4 tk3 F4 ?_
  intro p hp
  rcases List.mem_cons.mp hp with rfl | hp
  · exact N4 _ (.tail _ m3)
  · rcases List.mem_cons.mp hp with rfl | hp
    · exact N4 _ (.tail _ m3')
    · exact N4 _ (.tail _ (s3 _ hp))
end
section
set_option maxRecDepth 100000
set_option maxHeartbeats 8000000
set_option Elab.async false
set_option linter.unusedVariables false
open AutoSeq1 (wpAny_loadPart')
section
variable {prog : Program} {w : World}
theorem eqb_ref {A : Around} {E : Value → Shared → Prop} {s : Shared} {x y : Addr} {Q : Bool → Shared → Prop} (H : wpAny (model prog w) A (compareOp .Eq (.ref x) (.ref y)) (fun v s' => v = .bool true ∧ Q true s') E s) (hq : x = y → Q true s) :
    wpAny (model prog w) A (eqBool (.ref x) (.ref y)) Q E s := by
  unfold eqBool
  refine wpAny_holding ?_
  by_cases h : x = y
  · subst h
    rw [if_pos (by simp)]
    exact wpAny_bind (wpAny_rule (wpAny_pure (hq rfl)))
  · rw [if_neg (by simp [h])]
    refine wpAny_bind (wpAny_mono (show wpAny (model prog w) A (richCompare .Eq (.ref x) (.ref y)) _ E s from H) (fun v s' hv => ?_) fun _ _ e => e)
    obtain ⟨rfl, hv⟩ := hv
    exact wpAny_truthy_bool hv
theorem ne_loopIn (l b : Addr) (items items2 : Array Value) (n n2 : Nat) (hsz : items.size = items2.size) (Inv : Heap → Prop) (hI : ∀ h, Inv h → h.get? l = some (listOf items n) ∧ h.get? b = some (listOf items2 n2)) (k : Nat) :
    ∀ i : Nat, items.size - i = k → MeetsIn prog w (Builtin.«list.__eq__.loop» ⟨[.ref l, .ref b, rawInt i, rawInt 3], []⟩)
      (fun A R s => Inv s.heap ∧ (∀ j (h1 : j < items.size) (h2 : j < items2.size) (h : Heap) (tk : Nat) (Q : Bool → Shared → Prop) (E : Value → Shared → Prop), Inv h → (∀ h' tk', Inv h' → Q true { s with heap := h', toks := tk' }) → wpAny (model prog w) A.in1 (eqBool items[j] items2[j]) Q E { s with heap := h, toks := tk }) ∧
        (∀ h' tk', Inv h' → R (.ok (.ret (.bool false))) { s with heap := h', toks := tk' })) := by
  induction k with
  | zero =>
    intro i hk A R s h
    obtain ⟨hp, g, d, tk, os⟩ := s; obtain ⟨hi, he, h⟩ := h
    obtain ⟨hl, hb⟩ := hI _ hi
    wp_walk using wpAny_loadPart' hl, wpAny_loadPart' hb
    have hi1 : items[((i : Nat) : Int).toNat]? = none := by simp; omega
    have hi2 : items2[((i : Nat) : Int).toNat]? = none := by simp; omega
    rw [hi1, hi2]
    wp_walk using wpAny_loadPart' hl, wpAny_loadPart' hb
    show R (.ok (.ret (.bool (items.size != items2.size)))) _
    rw [hsz]
    simpa using h _ _ hi
  | succ k ih =>
    intro i hk A R s h
    obtain ⟨hp, g, d, tk, os⟩ := s; obtain ⟨hi, he, h⟩ := h
    obtain ⟨hl, hb⟩ := hI _ hi
    wp_walk using wpAny_loadPart' hl, wpAny_loadPart' hb
    have hlt : i < items.size := by omega
    have hlt2 : i < items2.size := by omega
    have hi1 : items[((i : Nat) : Int).toNat]? = some items[i] := by simp [hlt]
    have hi2 : items2[((i : Nat) : Int).toNat]? = some items2[i] := by simp [hlt2]
    have hc : ((i : Int) + 1) = ((i + 1 : Nat) : Int) := by push_cast; rfl
    rw [hi1, hi2]
    refine wpAny_bind (he i hlt hlt2 _ _ _ _ hi fun h' tk' hi' => ?_)
    wp_walk
    rw [hc]
    exact ⟨plainId_quiet MeetsSeq3.plain_eq_loop _, codeAny_builtin MeetsSeq3.entry_eq_loop (by
      rw [Around.under_plainId MeetsSeq3.plain_eq_loop _]
      exact ih (i + 1) (by omega) A R _ ⟨hi', he, h⟩)⟩
theorem list_neIn (l b : Addr) (items items2 : Array Value) (n n2 : Nat) (hsz : items.size = items2.size) (Inv : Heap → Prop) (hI : ∀ h, Inv h → h.get? l = some (listOf items n) ∧ h.get? b = some (listOf items2 n2)) :
    MeetsIn prog w (Builtin.«list.__ne__» ⟨[.ref l, .ref b], []⟩)
      (fun A R s => Inv s.heap ∧ (∀ j (h1 : j < items.size) (h2 : j < items2.size) (h : Heap) (tk : Nat) (Q : Bool → Shared → Prop) (E : Value → Shared → Prop), Inv h → (∀ h' tk', Inv h' → Q true { s with heap := h', toks := tk' }) → wpAny (model prog w) A.in1 (eqBool items[j] items2[j]) Q E { s with heap := h, toks := tk }) ∧
        (∀ h' tk', Inv h' → R (.ok (.ret (.bool false))) { s with heap := h', toks := tk' })) := by
  intro A R s h
  obtain ⟨hp, g, d, tk, os⟩ := s; obtain ⟨hi, he, h⟩ := h
  obtain ⟨hl, hb⟩ := hI _ hi
  have f3 := AutoSeq1.sub_list_list
  have hne : ¬ (items.size != items2.size) = true := by simp [hsz]
  wp_walk using wpAny_loadPart' hl, wpAny_loadPart' hb
  exact ⟨plainId_quiet MeetsSeq3.plain_eq_loop _, codeAny_builtin MeetsSeq3.entry_eq_loop (by
    rw [Around.under_plainId MeetsSeq3.plain_eq_loop _]
    exact ne_loopIn l b items items2 n n2 hsz Inv hI _ 0 rfl A R _ ⟨hi, he, h⟩)⟩
end

section
variable {prog : Program} {w : World}
theorem ne_lists {A : Around} {E : Value → Shared → Prop} {s : Shared} {l b : Addr} {items items2 : Array Value} {n n2 : Nat} {Q : Value → Shared → Prop} (hu : A.units < cLine) (hsz : items.size = items2.size) (Inv : Heap → Prop) (hI : ∀ h, Inv h → h.get? l = some (listOf items n) ∧ h.get? b = some (listOf items2 n2)) (hi : Inv s.heap)
    (he : ∀ j (h1 : j < items.size) (h2 : j < items2.size) (h : Heap) (tk : Nat) (Q : Bool → Shared → Prop) (E : Value → Shared → Prop), Inv h → (∀ h' tk', Inv h' → Q true { s with heap := h', toks := tk' }) → wpAny (model prog w) A.in1 (eqBool items[j] items2[j]) Q E { s with heap := h, toks := tk })
    (h : ∀ h' tk', Inv h' → Q (.bool false) { s with heap := h', toks := tk' }) : wpAny (model prog w) A (compareOp .NotEq (.ref l) (.ref b)) Q E s := by
  obtain ⟨hl, hb⟩ := hI _ hi
  show wpAny (model prog w) A (richCompare .NotEq (.ref l) (.ref b)) Q E s
  refine wpAny_richCompare_same_or (op := .NotEq) (T := "list") ⟨_, hl, rfl⟩ ⟨_, hb, rfl⟩ F.slot_list_ne (call_meetsIn F.slot_list_ne ⟨_, hl, rfl⟩ F.entry_list_ne (F.args_list_ne_2 _ _) (list_neIn l b items items2 n n2 hsz Inv hI) ⟨hi, he, fun h' tk' hi' => ?_⟩) (.inr hu)
  exact ⟨by simp, h h' tk' hi'⟩
end
theorem ne_list3 {w : World} {news : Led} {l b x1 x2 x3 y1 y2 y3 d1 d2 d3 e1 e2 e3 : Addr} {n n2 k1 k2 k3 m1 m2 m3 : Nat} {r1 r2 r3 q1 q2 q3 : Rat} {a1 b1 c1 g1 a2 b2 c2 g2 a3 b3 c3 g3 o1 p1 s1 t1 o2 p2 s2 t2 o3 p3 s3 t3 : Tok}
    (hl : (l, listOf #[.ref x1, .ref x2, .ref x3] n) ∈ news) (hb : (b, listOf #[.ref y1, .ref y2, .ref y3] n2) ∈ news)
    (hx1 : (x1, instObj 165 d1) ∈ news) (hd1 : (d1, fdict w r1.num r1.den a1 b1 c1 g1 k1) ∈ news) (hx2 : (x2, instObj 165 d2) ∈ news) (hd2 : (d2, fdict w r2.num r2.den a2 b2 c2 g2 k2) ∈ news) (hx3 : (x3, instObj 165 d3) ∈ news) (hd3 : (d3, fdict w r3.num r3.den a3 b3 c3 g3 k3) ∈ news)
    (hy1 : (y1, instObj 165 e1) ∈ news) (he1 : (e1, fdict w q1.num q1.den o1 p1 s1 t1 m1) ∈ news) (hy2 : (y2, instObj 165 e2) ∈ news) (he2 : (e2, fdict w q2.num q2.den o2 p2 s2 t2 m2) ∈ news) (hy3 : (y3, instObj 165 e3) ∈ news) (he3 : (e3, fdict w q3.num q3.den o3 p3 s3 t3 m3) ∈ news)
    (v1 : r1 = q1) (v2 : r2 = q2) (v3 : r3 = q3) : Does w (compareOp .NotEq (.ref l) (.ref b)) 20 news (RB false news) := by
  intro p loose mean mg mb dp un gd cn cs a ccd cl outer A₀ base h₀ L m s Q E B F X N T hk hd hu hret
  have step : ∀ {x y dx dy : Addr} {r q : Rat} {u1 u2 u3 u4 v1 v2 v3 v4 : Tok} {k k' : Nat}, (x, instObj 165 dx) ∈ news → (dx, fdict w r.num r.den u1 u2 u3 u4 k) ∈ news → (y, instObj 165 dy) ∈ news → (dy, fdict w q.num q.den v1 v2 v3 v4 k') ∈ news → r = q →
      ∀ (h : Heap) (tk : Nat) (Q : Bool → Shared → Prop) (E : Value → Shared → Prop), (Fr h₀ L h m ∧ News h₀ L h news) → (∀ h' tk', (Fr h₀ L h' m ∧ News h₀ L h' news) → Q true { s with heap := h', toks := tk' }) →
        wpAny (model PySem.Challenge.rw_at5001_01.row.prog w) (ktrTop dp un gd cn cs L a ccd cl outer).in1 (eqBool (.ref x) (.ref y)) Q E { s with heap := h, toks := tk } := by
    intro x y dx dy r q u1 u2 u3 u4 v1 v2 v3 v4 k k' hx hdx hy hdy e h tk Q E hi hq
    refine eqb_ref (does_use (s := { s with heap := h, toks := tk }) (dp := dp) (un := un + 1) (eq_rr hx hdx hy hdy) B hi.1 X hi.2 T hk (by omega) (by omega) fun h' tk' F' N' => ⟨by rw [decide_eq_true e], hq h' tk' ⟨F', N'⟩⟩) fun _ => hq h tk hi
  refine ne_lists (A := ktrTop dp un gd cn cs L a ccd cl outer) (items := #[.ref x1, .ref x2, .ref x3]) (items2 := #[.ref y1, .ref y2, .ref y3]) (n := n) (n2 := n2) (by show un < cLine; omega) rfl (fun h => Fr h₀ L h m ∧ News h₀ L h news) (fun h hi => ⟨(hi.2 _ hl).1, (hi.2 _ hb).1⟩) ⟨F, N⟩ (fun j h1 h2 => ?_) fun h' tk' hi => hret h' tk' hi.1 hi.2
  match j, h1, h2 with
  | 0, _, _ => exact step hx1 hd1 hy1 he1 v1
  | 1, _, _ => exact step hx2 hd2 hy2 he2 v2
  | 2, _, _ => exact step hx3 hd3 hy3 he3 v3
end
section
set_option maxRecDepth 100000
set_option maxHeartbeats 8000000
set_option Elab.async false
set_option linter.unusedVariables false

theorem args_max1 (a : Value) : argsOk "max" ⟨[a], []⟩ := by unfold argsOk; kernel_rfl

theorem args_min1 (a : Value) : argsOk "min" ⟨[a], []⟩ := by unfold argsOk; kernel_rfl

abbrev mmCode (id : String) (I S : Addr) : Code := .builtin id ⟨[.ref I, .none, .ref S], []⟩
section
variable {prog : Program} {w : World} {A : Around} {R : Result → Shared → Prop} {s : Shared} {h₀ : Heap} {L ax I S : Addr} {m : Str → Option Value} {i : Nat} {rest : Led} {items : Array Value} {n : Nat}

theorem max_end {b : Addr} (hh : A.in1.handled = none) (Rn : Run h₀ L m ax I S i #[.ref b, .ref b] rest s.heap) (hl : (ax, listOf items n) ∈ rest) (hx : items[i]? = none)
    (h : ∀ h', Fr h₀ L h' m → News h₀ L h' rest → R (.ok (.ret (.ref b))) { s with heap := h' }) : codeAny (model prog w) A (mmCode "max.loop" I S) R s := by
  refine codeAny_builtin F.entry_max_loop ?_
  rw [Around.under_plainId F.plain_max_loop _]
  show wpAny _ A.in1 (seqItems? (.ref S) >>= _) _ _ s
  refine wpAny_bind (Rn.best_at ?_)
  show wpAny _ A.in1 (tryCatch (pyNext (.ref I)) _ >>= _) _ _ s
  refine wpAny_bind (wpAny_tryCatch (Rn.stop hh hl hx fun h' c F' N' => ?_))
  show wpAny _ A.in1 (updateSeq S (fun _ => #[]) >>= fun _ => letGo [.ref b] [.ref b] >>= fun _ => ret (.ref b)) _ _ _
  have hS := N' _ (.head _)
  refine wpAny_bind (wpAny_updateSeq hS.1 rfl (wpAny_bind (wpAny_letGo (wpAny_pure (h _ ?_ ?_)))) (by show 2 ≤ _; rw [sizeLine_eq]; omega) (by show 0 ≤ _; omega))
  · exact fr_off F' (Heap.SameBut.update ..) Rn.LS Rn.nS
  · exact news_off (fun p hp => N' p (.tail _ hp)) (Heap.SameBut.update ..) fun p hp => (Rn.off p hp).2
theorem max_first {v : Addr} (Rn : Run h₀ L m ax I S i #[] rest s.heap) (hl : (ax, listOf items n) ∈ rest) (hx : items[i]? = some (.ref v))
    (h : ∀ h', Run h₀ L m ax I S (i + 1) #[.ref v, .ref v] rest h' → codeAny (model prog w) A (mmCode "max.loop" I S) R { s with heap := h' }) : codeAny (model prog w) A (mmCode "max.loop" I S) R s := by
  refine codeAny_builtin F.entry_max_loop ?_
  rw [Around.under_plainId F.plain_max_loop _]
  show wpAny _ A.in1 (seqItems? (.ref S) >>= _) _ _ s
  refine wpAny_bind (Rn.best_at ?_)
  show wpAny _ A.in1 (tryCatch (pyNext (.ref I)) _ >>= _) _ _ s
  refine wpAny_bind (wpAny_tryCatch (Rn.next hl hx fun h' R' => ?_))
  show wpAny _ A.in1 (updateSeq S (fun _ => #[.ref v, .ref v]) >>= fun _ => again (mmCode "max.loop" I S)) _ _ _
  refine wpAny_bind (Run.upd (s := { s with heap := h' }) R' (Nat.le_of_ble_eq_true rfl) (Nat.le_of_ble_eq_true rfl) fun h2 R2 => ?_)
  exact wpAny_pure ⟨plainId_quiet F.plain_max_loop _, h h2 R2⟩
theorem max_step {v b : Addr} {t : Bool} (Rn : Run h₀ L m ax I S i #[.ref b, .ref b] rest s.heap) (hl : (ax, listOf items n) ∈ rest) (hx : items[i]? = some (.ref v))
    (hc : ∀ h', Run h₀ L m ax I S (i + 1) #[.ref b, .ref b] rest h' → wpAny (model prog w) A.in1 (compareOp .Gt (.ref v) (.ref b)) (fun r s' => r = .bool t ∧ ∃ h2 tk, s' = { s with heap := h2, toks := tk } ∧ Run h₀ L m ax I S (i + 1) #[.ref b, .ref b] rest h2) (fun _ _ => False) { s with heap := h' })
    (h : ∀ h' tk, Run h₀ L m ax I S (i + 1) (if t then #[.ref v, .ref v] else #[.ref b, .ref b]) rest h' → codeAny (model prog w) A (mmCode "max.loop" I S) R { s with heap := h', toks := tk }) : codeAny (model prog w) A (mmCode "max.loop" I S) R s := by
  refine codeAny_builtin F.entry_max_loop ?_
  rw [Around.under_plainId F.plain_max_loop _]
  show wpAny _ A.in1 (seqItems? (.ref S) >>= _) _ _ s
  refine wpAny_bind (Rn.best_at ?_)
  show wpAny _ A.in1 (tryCatch (pyNext (.ref I)) _ >>= _) _ _ s
  refine wpAny_bind (wpAny_tryCatch (Rn.next hl hx fun h' R' => ?_))
  show wpAny _ A.in1 (tryCatch (holding [.ref v, .ref v] (richCompare .Gt (.ref v) (.ref b) >>= fun answer => (holding [answer] (truthy answer)) >>= fun yes => letGo [answer] >>= fun _ => pure yes)) _ >>= fun better => _) _ _ _
  refine wpAny_bind (wpAny_tryCatch (wpAny_holding (wpAny_bind (wpAny_mono (show wpAny _ _ (richCompare .Gt (.ref v) (.ref b)) _ _ _ from hc h' R') (fun r s' hr => ?_) fun _ _ e => e.elim))))
  obtain ⟨rfl, h2, tk, rfl, R2⟩ := hr
  refine wpAny_bind (wpAny_holding (wpAny_truthy_bool (wpAny_bind (wpAny_letGo (wpAny_pure ?_)))))
  cases t with
  | true =>
    show wpAny _ A.in1 (updateSeq S (fun _ => #[.ref v, .ref v]) >>= fun _ => letGo [.ref b, .ref b] >>= fun _ => again (mmCode "max.loop" I S)) _ _ _
    refine wpAny_bind (Run.upd (s := { s with heap := h2, toks := tk }) R2 (Nat.le_of_ble_eq_true rfl) (Nat.le_of_ble_eq_true rfl) fun h3 R3 => wpAny_bind (wpAny_letGo ?_))
    exact wpAny_pure ⟨plainId_quiet F.plain_max_loop _, h h3 tk R3⟩
  | false =>
    show wpAny _ A.in1 (letGo [.ref v, .ref v] >>= fun _ => again (mmCode "max.loop" I S)) _ _ _
    refine wpAny_bind (wpAny_letGo ?_)
    exact wpAny_pure ⟨plainId_quiet F.plain_max_loop _, h h2 tk R2⟩
theorem call_max_list {E : Value → Shared → Prop} {news : Led} {Q : Value → Shared → Prop} (F₀ : Fr h₀ L s.heap m) (N : News h₀ L s.heap news) (hl : (ax, listOf items n) ∈ news)
    (h : ∀ I S h', Run h₀ L m ax I S 0 #[] news h' → codeAny (model prog w) A (mmCode "max.loop" I S) (wants Q E) { s with heap := h' }) :
    wpAny (model prog w) A (call (.builtin "max") [.ref ax]) Q E s := by
  refine call_function_tree F.kind_max F.plain_max F.entry_max (args_max1 _) ?_
  show wpAny (model prog w) A.in1 (pyIter (.ref ax) >>= fun it => newList [] >>= fun l => again (.builtin "max.loop" ⟨[it, .none, l], []⟩)) _ _ s
  refine wpAny_bind (Run.start F₀ N hl fun I h₁ hk hz hI hit => ?_)
  refine wpAny_bind (wpAny_newObj_type ?_)
  exact wpAny_pure ⟨plainId_quiet F.plain_max_loop _, h I _ _ (Run.begin (best := []) F₀ N hk hz hI hit)⟩

theorem min_end {b : Addr} (hh : A.in1.handled = none) (Rn : Run h₀ L m ax I S i #[.ref b, .ref b] rest s.heap) (hl : (ax, listOf items n) ∈ rest) (hx : items[i]? = none)
    (h : ∀ h', Fr h₀ L h' m → News h₀ L h' rest → R (.ok (.ret (.ref b))) { s with heap := h' }) : codeAny (model prog w) A (mmCode "min.loop" I S) R s := by
  refine codeAny_builtin F.entry_min_loop ?_
  rw [Around.under_plainId F.plain_min_loop _]
  show wpAny _ A.in1 (seqItems? (.ref S) >>= _) _ _ s
  refine wpAny_bind (Rn.best_at ?_)
  show wpAny _ A.in1 (tryCatch (pyNext (.ref I)) _ >>= _) _ _ s
  refine wpAny_bind (wpAny_tryCatch (Rn.stop hh hl hx fun h' c F' N' => ?_))
  show wpAny _ A.in1 (updateSeq S (fun _ => #[]) >>= fun _ => letGo [.ref b] [.ref b] >>= fun _ => ret (.ref b)) _ _ _
  have hS := N' _ (.head _)
  refine wpAny_bind (wpAny_updateSeq hS.1 rfl (wpAny_bind (wpAny_letGo (wpAny_pure (h _ ?_ ?_)))) (by show 2 ≤ _; rw [sizeLine_eq]; omega) (by show 0 ≤ _; omega))
  · exact fr_off F' (Heap.SameBut.update ..) Rn.LS Rn.nS
  · exact news_off (fun p hp => N' p (.tail _ hp)) (Heap.SameBut.update ..) fun p hp => (Rn.off p hp).2
theorem min_first {v : Addr} (Rn : Run h₀ L m ax I S i #[] rest s.heap) (hl : (ax, listOf items n) ∈ rest) (hx : items[i]? = some (.ref v))
    (h : ∀ h', Run h₀ L m ax I S (i + 1) #[.ref v, .ref v] rest h' → codeAny (model prog w) A (mmCode "min.loop" I S) R { s with heap := h' }) : codeAny (model prog w) A (mmCode "min.loop" I S) R s := by
  refine codeAny_builtin F.entry_min_loop ?_
  rw [Around.under_plainId F.plain_min_loop _]
  show wpAny _ A.in1 (seqItems? (.ref S) >>= _) _ _ s
  refine wpAny_bind (Rn.best_at ?_)
  show wpAny _ A.in1 (tryCatch (pyNext (.ref I)) _ >>= _) _ _ s
  refine wpAny_bind (wpAny_tryCatch (Rn.next hl hx fun h' R' => ?_))
  show wpAny _ A.in1 (updateSeq S (fun _ => #[.ref v, .ref v]) >>= fun _ => again (mmCode "min.loop" I S)) _ _ _
  refine wpAny_bind (Run.upd (s := { s with heap := h' }) R' (Nat.le_of_ble_eq_true rfl) (Nat.le_of_ble_eq_true rfl) fun h2 R2 => ?_)
  exact wpAny_pure ⟨plainId_quiet F.plain_min_loop _, h h2 R2⟩
theorem min_step {v b : Addr} {t : Bool} (Rn : Run h₀ L m ax I S i #[.ref b, .ref b] rest s.heap) (hl : (ax, listOf items n) ∈ rest) (hx : items[i]? = some (.ref v))
    (hc : ∀ h', Run h₀ L m ax I S (i + 1) #[.ref b, .ref b] rest h' → wpAny (model prog w) A.in1 (compareOp .Lt (.ref v) (.ref b)) (fun r s' => r = .bool t ∧ ∃ h2 tk, s' = { s with heap := h2, toks := tk } ∧ Run h₀ L m ax I S (i + 1) #[.ref b, .ref b] rest h2) (fun _ _ => False) { s with heap := h' })
    (h : ∀ h' tk, Run h₀ L m ax I S (i + 1) (if t then #[.ref v, .ref v] else #[.ref b, .ref b]) rest h' → codeAny (model prog w) A (mmCode "min.loop" I S) R { s with heap := h', toks := tk }) : codeAny (model prog w) A (mmCode "min.loop" I S) R s := by
  refine codeAny_builtin F.entry_min_loop ?_
  rw [Around.under_plainId F.plain_min_loop _]
  show wpAny _ A.in1 (seqItems? (.ref S) >>= _) _ _ s
  refine wpAny_bind (Rn.best_at ?_)
  show wpAny _ A.in1 (tryCatch (pyNext (.ref I)) _ >>= _) _ _ s
  refine wpAny_bind (wpAny_tryCatch (Rn.next hl hx fun h' R' => ?_))
  show wpAny _ A.in1 (tryCatch (holding [.ref v, .ref v] (richCompare .Lt (.ref v) (.ref b) >>= fun answer => (holding [answer] (truthy answer)) >>= fun yes => letGo [answer] >>= fun _ => pure yes)) _ >>= fun better => _) _ _ _
  refine wpAny_bind (wpAny_tryCatch (wpAny_holding (wpAny_bind (wpAny_mono (show wpAny _ _ (richCompare .Lt (.ref v) (.ref b)) _ _ _ from hc h' R') (fun r s' hr => ?_) fun _ _ e => e.elim))))
  obtain ⟨rfl, h2, tk, rfl, R2⟩ := hr
  refine wpAny_bind (wpAny_holding (wpAny_truthy_bool (wpAny_bind (wpAny_letGo (wpAny_pure ?_)))))
  cases t with
  | true =>
    show wpAny _ A.in1 (updateSeq S (fun _ => #[.ref v, .ref v]) >>= fun _ => letGo [.ref b, .ref b] >>= fun _ => again (mmCode "min.loop" I S)) _ _ _
    refine wpAny_bind (Run.upd (s := { s with heap := h2, toks := tk }) R2 (Nat.le_of_ble_eq_true rfl) (Nat.le_of_ble_eq_true rfl) fun h3 R3 => wpAny_bind (wpAny_letGo ?_))
    exact wpAny_pure ⟨plainId_quiet F.plain_min_loop _, h h3 tk R3⟩
  | false =>
    show wpAny _ A.in1 (letGo [.ref v, .ref v] >>= fun _ => again (mmCode "min.loop" I S)) _ _ _
    refine wpAny_bind (wpAny_letGo ?_)
    exact wpAny_pure ⟨plainId_quiet F.plain_min_loop _, h h2 tk R2⟩
theorem call_min_list {E : Value → Shared → Prop} {news : Led} {Q : Value → Shared → Prop} (F₀ : Fr h₀ L s.heap m) (N : News h₀ L s.heap news) (hl : (ax, listOf items n) ∈ news)
    (h : ∀ I S h', Run h₀ L m ax I S 0 #[] news h' → codeAny (model prog w) A (mmCode "min.loop" I S) (wants Q E) { s with heap := h' }) :
    wpAny (model prog w) A (call (.builtin "min") [.ref ax]) Q E s := by
  refine call_function_tree F.kind_min F.plain_min F.entry_min (args_min1 _) ?_
  show wpAny (model prog w) A.in1 (pyIter (.ref ax) >>= fun it => newList [] >>= fun l => again (.builtin "min.loop" ⟨[it, .none, l], []⟩)) _ _ s
  refine wpAny_bind (Run.start F₀ N hl fun I h₁ hk hz hI hit => ?_)
  refine wpAny_bind (wpAny_newObj_type ?_)
  exact wpAny_pure ⟨plainId_quiet F.plain_min_loop _, h I _ _ (Run.begin (best := []) F₀ N hk hz hI hit)⟩
end
end
section
set_option maxRecDepth 100000
set_option maxHeartbeats 8000000
set_option Elab.async false
set_option linter.unusedVariables false
def MaxOf (q r1 r2 r3 : Rat) : Prop := (q = r1 ∨ q = r2 ∨ q = r3) ∧ r1 ≤ q ∧ r2 ≤ q ∧ r3 ≤ q
def MinOf (q r1 r2 r3 : Rat) : Prop := (q = r1 ∨ q = r2 ∨ q = r3) ∧ q ≤ r1 ∧ q ≤ r2 ∧ q ≤ r3
theorem rle (r : Rat) : r ≤ r := Rat.le_refl
theorem nle {r q : Rat} (h : ¬ r ≤ q) : q ≤ r := Rat.le_of_lt (Rat.not_le.mp h)
theorem nlt {r q : Rat} (h : ¬ r < q) : q ≤ r := Rat.not_lt.mp h
section
variable {w : World} {p : Program} {loose : List Str} {mean : ExcName → Option Value} {mg mb : Str → Option Value} {dp un : Nat} {gd : Option (List Code)} {cn : Str} {cs : Scope} {a : Addr} {ccd : Value} {cl : List (Str × Addr)} {outer : List Env} {A₀ : Around} {base h₀ : Heap} {L ax I S : Addr} {m : Str → Option Value} {s : Shared} {i : Nat} {rest : Led}
theorem cmp_back {tree : Sem Value} {best : Array Value} {t : Bool} {h' : Heap} {tk : Nat} (R : Run h₀ L m ax I S i best rest h')
    (H : ∀ led, (∀ p ∈ rest, p ∈ led) → Does w tree 10 led (RB t led))
    (B : Below A₀ base outer h₀) (X : (Mine.hd.heap_39 w.params).In h₀) (T : Top p loose mean mg mb h₀) (hk : cs.kind = .function) (hd : dp + 10 < recursionLimit) (hu : un + 200 < cLine) :
    wpAny (model PySem.Challenge.rw_at5001_01.row.prog w) (ktrTop dp un gd cn cs L a ccd cl outer) tree (fun r s' => r = .bool t ∧ ∃ h2 tk, s' = { s with heap := h2, toks := tk } ∧ Run h₀ L m ax I S i best rest h2) (fun _ _ => False) { s with heap := h', toks := tk } := by
  obtain ⟨o, c, hc, hda, N⟩ := Run.ledger (s := { s with heap := h', toks := tk }) R
  refine does_use (s := { s with heap := h', toks := tk }) (H _ fun p hp => .tail _ (.tail _ hp)) B R.F X N T hk hd (by omega) fun h2 tk2 F2 N2 => ?_
  exact ⟨rfl, h2, tk2, rfl, Run.of (s := { s with heap := h', toks := tk }) (new := []) R hc hda F2 N2 (fun _ h => nomatch h)⟩
end
theorem max_f {w : World} {news : Led} {rl x1 d1 x2 d2 x3 d3 : Addr} {n k1 k2 k3 : Nat} {r1 r2 r3 : Rat} {a1 b1 c1 e1 a2 b2 c2 e2 a3 b3 c3 e3 : Tok} (hl : (rl, listOf #[.ref x1, .ref x2, .ref x3] n) ∈ news)
    (hx1 : (x1, instObj 165 d1) ∈ news) (hd1 : (d1, fdict w r1.num r1.den a1 b1 c1 e1 k1) ∈ news) (hx2 : (x2, instObj 165 d2) ∈ news) (hd2 : (d2, fdict w r2.num r2.den a2 b2 c2 e2 k2) ∈ news) (hx3 : (x3, instObj 165 d3) ∈ news) (hd3 : (d3, fdict w r3.num r3.den a3 b3 c3 e3 k3) ∈ news)
    (v1 : Bd r1) (v2 : Bd r2) (v3 : Bd r3) :
    Does w (call (.builtin "max") [.ref rl]) 20 news (fun J => ∀ (y dy : Addr) (q : Rat) (t1 t2 t3 t4 : Tok) (k : Nat), (y, instObj 165 dy) ∈ news → (dy, fdict w q.num q.den t1 t2 t3 t4 k) ∈ news → Bd q → MaxOf q r1 r2 r3 → J (.ref y) news) := by
  intro p loose mean mg mb dp un gd cn cs a ccd cl outer A₀ base h₀ L m s Q E B F X N T hk hd hu hret
  refine call_max_list F N hl fun I S h' R => ?_
  refine max_first (A := ktrTop dp un gd cn cs L a ccd cl outer) (s := { s with heap := h' }) R hl (v := x1) rfl fun h1 R1 => ?_
  have fin : ∀ {y dy : Addr} {q : Rat} {t1 t2 t3 t4 : Tok} {k : Nat} {h5 : Heap} {tk : Nat}, (y, instObj 165 dy) ∈ news → (dy, fdict w q.num q.den t1 t2 t3 t4 k) ∈ news → Bd q → MaxOf q r1 r2 r3 → Run h₀ L m rl I S 3 #[.ref y, .ref y] news h5 →
      codeAny (model PySem.Challenge.rw_at5001_01.row.prog w) (ktrTop dp un gd cn cs L a ccd cl outer) (mmCode "max.loop" I S) (wants Q E) { s with heap := h5, toks := tk } := by
    intro y dy q t1 t2 t3 t4 k h5 tk hy hdy hb hm R5
    refine max_end (A := ktrTop dp un gd cn cs L a ccd cl outer) (s := { s with heap := h5, toks := tk }) rfl R5 hl rfl fun h6 F6 N6 => ?_
    exact hret y dy q t1 t2 t3 t4 k hy hdy hb hm h6 tk F6 N6
  refine max_step (A := ktrTop dp un gd cn cs L a ccd cl outer) (s := { s with heap := h1 }) R1 hl (v := x2) rfl (fun h2 R2 => cmp_back (s := { s with heap := h1 }) (dp := dp) (un := un + 1) R2 (fun led hs => gt_rr (hs _ hx2) (hs _ hd2) v2 (hs _ hx1) (hs _ hd1) v1) B X T hk (by omega) (by omega)) fun h2 tk2 R2 => ?_
  by_cases h21 : r2 ≤ r1
  · rw [show (!decide (r2 ≤ r1)) = false from (by rw [decide_eq_true h21]; rfl)] at R2
    refine max_step (A := ktrTop dp un gd cn cs L a ccd cl outer) (s := { s with heap := h2, toks := tk2 }) (b := x1) R2 hl (v := x3) rfl (fun h3 R3 => cmp_back (s := { s with heap := h2, toks := tk2 }) (dp := dp) (un := un + 1) R3 (fun led hs => gt_rr (hs _ hx3) (hs _ hd3) v3 (hs _ hx1) (hs _ hd1) v1) B X T hk (by omega) (by omega)) fun h3 tk3 R3 => ?_
    by_cases h31 : r3 ≤ r1
    · rw [show (!decide (r3 ≤ r1)) = false from (by rw [decide_eq_true h31]; rfl)] at R3
      exact fin hx1 hd1 v1 ⟨.inl rfl, rle _, h21, h31⟩ R3
    · rw [show (!decide (r3 ≤ r1)) = true from (by rw [decide_eq_false h31]; rfl)] at R3
      exact fin hx3 hd3 v3 ⟨.inr (.inr rfl), nle h31, Rat.le_trans h21 (nle h31), rle _⟩ R3
  · rw [show (!decide (r2 ≤ r1)) = true from (by rw [decide_eq_false h21]; rfl)] at R2
    refine max_step (A := ktrTop dp un gd cn cs L a ccd cl outer) (s := { s with heap := h2, toks := tk2 }) (b := x2) R2 hl (v := x3) rfl (fun h3 R3 => cmp_back (s := { s with heap := h2, toks := tk2 }) (dp := dp) (un := un + 1) R3 (fun led hs => gt_rr (hs _ hx3) (hs _ hd3) v3 (hs _ hx2) (hs _ hd2) v2) B X T hk (by omega) (by omega)) fun h3 tk3 R3 => ?_
    by_cases h31 : r3 ≤ r2
    · rw [show (!decide (r3 ≤ r2)) = false from (by rw [decide_eq_true h31]; rfl)] at R3
      exact fin hx2 hd2 v2 ⟨.inr (.inl rfl), nle h21, rle _, h31⟩ R3
    · rw [show (!decide (r3 ≤ r2)) = true from (by rw [decide_eq_false h31]; rfl)] at R3
      exact fin hx3 hd3 v3 ⟨.inr (.inr rfl), Rat.le_trans (nle h21) (nle h31), nle h31, rle _⟩ R3
theorem min_f {w : World} {news : Led} {rl x1 d1 x2 d2 x3 d3 : Addr} {n k1 k2 k3 : Nat} {r1 r2 r3 : Rat} {a1 b1 c1 e1 a2 b2 c2 e2 a3 b3 c3 e3 : Tok} (hl : (rl, listOf #[.ref x1, .ref x2, .ref x3] n) ∈ news)
    (hx1 : (x1, instObj 165 d1) ∈ news) (hd1 : (d1, fdict w r1.num r1.den a1 b1 c1 e1 k1) ∈ news) (hx2 : (x2, instObj 165 d2) ∈ news) (hd2 : (d2, fdict w r2.num r2.den a2 b2 c2 e2 k2) ∈ news) (hx3 : (x3, instObj 165 d3) ∈ news) (hd3 : (d3, fdict w r3.num r3.den a3 b3 c3 e3 k3) ∈ news)
    (v1 : Bd r1) (v2 : Bd r2) (v3 : Bd r3) :
    Does w (call (.builtin "min") [.ref rl]) 20 news (fun J => ∀ (y dy : Addr) (q : Rat) (t1 t2 t3 t4 : Tok) (k : Nat), (y, instObj 165 dy) ∈ news → (dy, fdict w q.num q.den t1 t2 t3 t4 k) ∈ news → Bd q → MinOf q r1 r2 r3 → J (.ref y) news) := by
  intro p loose mean mg mb dp un gd cn cs a ccd cl outer A₀ base h₀ L m s Q E B F X N T hk hd hu hret
  refine call_min_list F N hl fun I S h' R => ?_
  refine min_first (A := ktrTop dp un gd cn cs L a ccd cl outer) (s := { s with heap := h' }) R hl (v := x1) rfl fun h1 R1 => ?_
  have fin : ∀ {y dy : Addr} {q : Rat} {t1 t2 t3 t4 : Tok} {k : Nat} {h5 : Heap} {tk : Nat}, (y, instObj 165 dy) ∈ news → (dy, fdict w q.num q.den t1 t2 t3 t4 k) ∈ news → Bd q → MinOf q r1 r2 r3 → Run h₀ L m rl I S 3 #[.ref y, .ref y] news h5 →
      codeAny (model PySem.Challenge.rw_at5001_01.row.prog w) (ktrTop dp un gd cn cs L a ccd cl outer) (mmCode "min.loop" I S) (wants Q E) { s with heap := h5, toks := tk } := by
    intro y dy q t1 t2 t3 t4 k h5 tk hy hdy hb hm R5
    refine min_end (A := ktrTop dp un gd cn cs L a ccd cl outer) (s := { s with heap := h5, toks := tk }) rfl R5 hl rfl fun h6 F6 N6 => ?_
    exact hret y dy q t1 t2 t3 t4 k hy hdy hb hm h6 tk F6 N6
  refine min_step (A := ktrTop dp un gd cn cs L a ccd cl outer) (s := { s with heap := h1 }) R1 hl (v := x2) rfl (fun h2 R2 => cmp_back (s := { s with heap := h1 }) (dp := dp) (un := un + 1) R2 (fun led hs => lt_rr (hs _ hx2) (hs _ hd2) v2 (hs _ hx1) (hs _ hd1) v1) B X T hk (by omega) (by omega)) fun h2 tk2 R2 => ?_
  by_cases h21 : r2 < r1
  · rw [show (decide (r2 < r1)) = true from (decide_eq_true h21)] at R2
    refine min_step (A := ktrTop dp un gd cn cs L a ccd cl outer) (s := { s with heap := h2, toks := tk2 }) (b := x2) R2 hl (v := x3) rfl (fun h3 R3 => cmp_back (s := { s with heap := h2, toks := tk2 }) (dp := dp) (un := un + 1) R3 (fun led hs => lt_rr (hs _ hx3) (hs _ hd3) v3 (hs _ hx2) (hs _ hd2) v2) B X T hk (by omega) (by omega)) fun h3 tk3 R3 => ?_
    by_cases h31 : r3 < r2
    · rw [show (decide (r3 < r2)) = true from (decide_eq_true h31)] at R3
      exact fin hx3 hd3 v3 ⟨.inr (.inr rfl), Rat.le_trans (Rat.le_of_lt h31) (Rat.le_of_lt h21), Rat.le_of_lt h31, rle _⟩ R3
    · rw [show (decide (r3 < r2)) = false from (decide_eq_false h31)] at R3
      exact fin hx2 hd2 v2 ⟨.inr (.inl rfl), Rat.le_of_lt h21, rle _, nlt h31⟩ R3
  · rw [show (decide (r2 < r1)) = false from (decide_eq_false h21)] at R2
    refine min_step (A := ktrTop dp un gd cn cs L a ccd cl outer) (s := { s with heap := h2, toks := tk2 }) (b := x1) R2 hl (v := x3) rfl (fun h3 R3 => cmp_back (s := { s with heap := h2, toks := tk2 }) (dp := dp) (un := un + 1) R3 (fun led hs => lt_rr (hs _ hx3) (hs _ hd3) v3 (hs _ hx1) (hs _ hd1) v1) B X T hk (by omega) (by omega)) fun h3 tk3 R3 => ?_
    by_cases h31 : r3 < r1
    · rw [show (decide (r3 < r1)) = true from (decide_eq_true h31)] at R3
      exact fin hx3 hd3 v3 ⟨.inr (.inr rfl), Rat.le_of_lt h31, Rat.le_trans (Rat.le_of_lt h31) (nlt h21), rle _⟩ R3
    · rw [show (decide (r3 < r1)) = false from (decide_eq_false h31)] at R3
      exact fin hx1 hd1 v1 ⟨.inl rfl, rle _, nlt h21, nlt h31⟩ R3
end
section
set_option maxRecDepth 100000
set_option maxHeartbeats 8000000
set_option Elab.async false
set_option linter.unusedVariables false
theorem lea {a b : Rat} (h : a ≤ b) (k : b ≤ a) : a = b := Rat.le_antisymm h k
theorem srt_le {r1 r2 r3 q0 q1 q2 : Rat} {x1 x2 x3 z0 z1 z2 : Addr} (h : Srt r1 r2 r3 x1 x2 x3 q0 q1 q2 z0 z1 z2) : q0 ≤ q1 ∧ q1 ≤ q2 := by cases h <;> exact ⟨by assumption, by assumption⟩
theorem srt_max {r1 r2 r3 q0 q1 q2 : Rat} {x1 x2 x3 z0 z1 z2 : Addr} (h : Srt r1 r2 r3 x1 x2 x3 q0 q1 q2 z0 z1 z2) : MaxOf q2 r1 r2 r3 := by
  cases h with
  | p123 h k => exact ⟨.inr (.inr rfl), Rat.le_trans h k, k, rle _⟩
  | p132 h k => exact ⟨.inr (.inl rfl), Rat.le_trans h k, rle _, k⟩
  | p213 h k => exact ⟨.inr (.inr rfl), k, Rat.le_trans h k, rle _⟩
  | p231 h k => exact ⟨.inl rfl, rle _, Rat.le_trans h k, k⟩
  | p312 h k => exact ⟨.inr (.inl rfl), k, rle _, Rat.le_trans h k⟩
  | p321 h k => exact ⟨.inl rfl, rle _, k, Rat.le_trans h k⟩
theorem srt_min {r1 r2 r3 q0 q1 q2 : Rat} {x1 x2 x3 z0 z1 z2 : Addr} (h : Srt r1 r2 r3 x1 x2 x3 q0 q1 q2 z0 z1 z2) : MinOf q0 r1 r2 r3 := by
  cases h with
  | p123 h k => exact ⟨.inl rfl, rle _, h, Rat.le_trans h k⟩
  | p132 h k => exact ⟨.inl rfl, rle _, Rat.le_trans h k, h⟩
  | p213 h k => exact ⟨.inr (.inl rfl), h, rle _, Rat.le_trans h k⟩
  | p231 h k => exact ⟨.inr (.inl rfl), Rat.le_trans h k, rle _, h⟩
  | p312 h k => exact ⟨.inr (.inr rfl), h, Rat.le_trans h k, rle _⟩
  | p321 h k => exact ⟨.inr (.inr rfl), Rat.le_trans h k, h, rle _⟩
theorem srt_sum {r1 r2 r3 q0 q1 q2 : Rat} {x1 x2 x3 z0 z1 z2 : Addr} (h : Srt r1 r2 r3 x1 x2 x3 q0 q1 q2 z0 z1 z2) : q0 + q1 + q2 = r1 + r2 + r3 := by
  cases h
  · rfl
  · rw [Rat.add_assoc, Rat.add_comm r3, ← Rat.add_assoc]
  · rw [Rat.add_comm r2]
  · rw [Rat.add_comm (r2 + r3), ← Rat.add_assoc]
  · rw [Rat.add_assoc, Rat.add_comm r3]
  · rw [Rat.add_comm (r3 + r2), Rat.add_comm r3, ← Rat.add_assoc]
theorem max_uniq {p q r1 r2 r3 : Rat} (h : MaxOf p r1 r2 r3) (k : MaxOf q r1 r2 r3) : p = q := by
  obtain ⟨h0, h1, h2, h3⟩ := h
  obtain ⟨k0, k1, k2, k3⟩ := k
  refine lea ?_ ?_
  · rcases h0 with rfl | rfl | rfl <;> assumption
  · rcases k0 with rfl | rfl | rfl <;> assumption
theorem min_uniq {p q r1 r2 r3 : Rat} (h : MinOf p r1 r2 r3) (k : MinOf q r1 r2 r3) : p = q := by
  obtain ⟨h0, h1, h2, h3⟩ := h
  obtain ⟨k0, k1, k2, k3⟩ := k
  refine lea ?_ ?_
  · rcases k0 with rfl | rfl | rfl <;> assumption
  · rcases h0 with rfl | rfl | rfl <;> assumption
section
variable {r1 r2 r3 q0 q1 q2 s0 s1 s2 : Rat} {x1 x2 x3 z0 z1 z2 w0 w1 w2 : Addr}
theorem srt_eq (h : Srt r1 r2 r3 x1 x2 x3 s0 s1 s2 w0 w1 w2) (k : Srt r1 r2 r3 x1 x2 x3 q0 q1 q2 z0 z1 z2) : s0 = q0 ∧ s1 = q1 ∧ s2 = q2 := by
  have e0 := min_uniq (srt_min h) (srt_min k)
  have e2 := max_uniq (srt_max h) (srt_max k)
  have e := (srt_sum h).trans (srt_sum k).symm
  refine ⟨e0, ?_, e2⟩
  rw [e0, e2] at e
  have h1 : q0 + s1 = q0 + q1 := by
    have := congrArg (· + -q2) e
    simp only [Rat.add_assoc, Rat.add_neg_cancel, Rat.add_zero] at this
    exact this
  have := congrArg (-q0 + ·) h1
  simp only [← Rat.add_assoc, Rat.neg_add_cancel, Rat.zero_add] at this
  exact this
theorem max_eq {q : Rat} (h : MaxOf q r1 r2 r3) (k : Srt r1 r2 r3 x1 x2 x3 q0 q1 q2 z0 z1 z2) : q = q2 := max_uniq h (srt_max k)
theorem min_eq {q : Rat} (h : MinOf q r1 r2 r3) (k : Srt r1 r2 r3 x1 x2 x3 q0 q1 q2 z0 z1 z2) : q = q0 := min_uniq h (srt_min k)
end
theorem fdiv_l {a b : Int} (ha : 0 < a) : (a * b).fdiv a = b := by
  rw [Int.fdiv_eq_ediv_of_nonneg _ (by omega), Int.mul_ediv_cancel_left _ (by omega)]
theorem key_le {r q : Rat} {wh e : Int} (he : 0 < e) (hw : wh = r.den * (q.den * e)) (h : r.num * wh.fdiv r.den ≤ q.num * wh.fdiv q.den) : r ≤ q := by
  have h1 : wh.fdiv r.den = q.den * e := by rw [hw, fdiv_l (den_pos r)]
  have h2 : wh.fdiv q.den = r.den * e := by rw [hw, ← Int.mul_assoc, Int.mul_comm (r.den : Int), Int.mul_assoc, fdiv_l (den_pos q)]
  rw [h1, h2, ← Int.mul_assoc, ← Int.mul_assoc, Int.mul_le_mul_right he] at h
  exact (Rat.le_iff r q).mpr h
theorem ord_srt {r1 r2 r3 : Rat} {wh o0 o1 o2 : Int} (x1 x2 x3 : Addr) (hw : wh = r1.den * r2.den * r3.den) (h : Ord (r1.num * wh.fdiv r1.den) (r2.num * wh.fdiv r2.den) (r3.num * wh.fdiv r3.den) o0 o1 o2) :
    ∃ q0 q1 q2 z0 z1 z2, Srt r1 r2 r3 x1 x2 x3 q0 q1 q2 z0 z1 z2 ∧ (0 ≤ o0 ∧ o0 < 3) ∧ (0 ≤ o1 ∧ o1 < 3) ∧ (0 ≤ o2 ∧ o2 < 3) ∧ ([Value.ref x1, .ref x2, .ref x3] : List Value)[o0.toNat]? = some (.ref z0) ∧ ([Value.ref x1, .ref x2, .ref x3] : List Value)[o1.toNat]? = some (.ref z1) ∧ ([Value.ref x1, .ref x2, .ref x3] : List Value)[o2.toNat]? = some (.ref z2) := by
  have p1 := den_pos r1
  have p2 := den_pos r2
  have p3 := den_pos r3
  have w12 : wh = r1.den * (r2.den * r3.den) := by rw [hw, Int.mul_assoc]
  have w13 : wh = r1.den * (r3.den * r2.den) := by rw [hw, Int.mul_assoc, Int.mul_comm (r2.den : Int)]
  have w21 : wh = r2.den * (r1.den * r3.den) := by rw [hw, Int.mul_comm (r1.den : Int), Int.mul_assoc]
  have w23 : wh = r2.den * (r3.den * r1.den) := by rw [w21, Int.mul_comm (r1.den : Int) r3.den]
  have w31 : wh = r3.den * (r1.den * r2.den) := by rw [hw, Int.mul_comm]
  have w32 : wh = r3.den * (r2.den * r1.den) := by rw [w31, Int.mul_comm (r1.den : Int) r2.den]
  rcases h with ⟨rfl, rfl, rfl, a, b⟩ | ⟨rfl, rfl, rfl, a, b⟩ | ⟨rfl, rfl, rfl, a, b⟩ | ⟨rfl, rfl, rfl, a, b⟩ | ⟨rfl, rfl, rfl, a, b⟩ | ⟨rfl, rfl, rfl, a, b⟩
  · exact ⟨_, _, _, _, _, _, .p123 (key_le p3 w12 a) (key_le p1 w23 b), by omega, by omega, by omega, rfl, rfl, rfl⟩
  · exact ⟨_, _, _, _, _, _, .p132 (key_le p2 w13 a) (key_le p1 w32 b), by omega, by omega, by omega, rfl, rfl, rfl⟩
  · exact ⟨_, _, _, _, _, _, .p213 (key_le p3 w21 a) (key_le p2 w13 b), by omega, by omega, by omega, rfl, rfl, rfl⟩
  · exact ⟨_, _, _, _, _, _, .p231 (key_le p1 w23 a) (key_le p2 w31 b), by omega, by omega, by omega, rfl, rfl, rfl⟩
  · exact ⟨_, _, _, _, _, _, .p312 (key_le p2 w31 a) (key_le p3 w12 b), by omega, by omega, by omega, rfl, rfl, rfl⟩
  · exact ⟨_, _, _, _, _, _, .p321 (key_le p1 w32 a) (key_le p3 w21 b), by omega, by omega, by omega, rfl, rfl, rfl⟩
theorem news_dup2 {h₀ h : Heap} {L : Addr} {news : Led} {p q : Addr × Obj} (h1 : p ∈ news) (h2 : q ∈ news) (N : News h₀ L h news) : News h₀ L h (p :: q :: news) := fun x hx => by
  rcases List.mem_cons.mp hx with rfl | hx
  · exact N _ h1
  · rcases List.mem_cons.mp hx with rfl | hx
    · exact N _ h2
    · exact N _ hx
/-- a fraction of the ledger -/
def FracIn (w : World) (news : Led) (x : Addr) (r : Rat) : Prop := ∃ (d : Addr) (t1 t2 t3 t4 : Tok) (n : Nat), (x, instObj 165 d) ∈ news ∧ (d, fdict w r.num r.den t1 t2 t3 t4 n) ∈ news
theorem srt_in {w : World} {news : Led} {r1 r2 r3 q0 q1 q2 : Rat} {x1 x2 x3 z0 z1 z2 : Addr} (h : Srt r1 r2 r3 x1 x2 x3 q0 q1 q2 z0 z1 z2) (m1 : FracIn w news x1 r1) (m2 : FracIn w news x2 r2) (m3 : FracIn w news x3 r3) :
    FracIn w news z0 q0 ∧ FracIn w news z1 q1 ∧ FracIn w news z2 q2 := by cases h <;> exact ⟨by assumption, by assumption, by assumption⟩
theorem ne_list3F {w : World} {news : Led} {l b x1 x2 x3 y1 y2 y3 : Addr} {n n2 : Nat} {r1 r2 r3 q1 q2 q3 : Rat}
    (hl : (l, listOf #[.ref x1, .ref x2, .ref x3] n) ∈ news) (hb : (b, listOf #[.ref y1, .ref y2, .ref y3] n2) ∈ news)
    (m1 : FracIn w news x1 r1) (m2 : FracIn w news x2 r2) (m3 : FracIn w news x3 r3) (k1 : FracIn w news y1 q1) (k2 : FracIn w news y2 q2) (k3 : FracIn w news y3 q3)
    (v : r1 = q1 ∧ r2 = q2 ∧ r3 = q3) : Does w (compareOp .NotEq (.ref l) (.ref b)) 20 news (RB false news) := by
  obtain ⟨_, _, _, _, _, _, a1, a2⟩ := m1
  obtain ⟨_, _, _, _, _, _, b1, b2⟩ := m2
  obtain ⟨_, _, _, _, _, _, c1, c2⟩ := m3
  obtain ⟨_, _, _, _, _, _, d1, d2⟩ := k1
  obtain ⟨_, _, _, _, _, _, e1, e2⟩ := k2
  obtain ⟨_, _, _, _, _, _, f1, f2⟩ := k3
  exact ne_list3 hl hb a1 a2 b1 b2 c1 c2 d1 d2 e1 e2 f1 f2 v.1 v.2.1 v.2.2
theorem ne_srt {w : World} {news : Led} {l b x1 x2 x3 s0 s1 s2 z0 z1 z2 : Addr} {n n2 : Nat} {r1 r2 r3 p0 p1 p2 q0 q1 q2 : Rat} (h : Srt r1 r2 r3 x1 x2 x3 p0 p1 p2 s0 s1 s2) (k : Srt r1 r2 r3 x1 x2 x3 q0 q1 q2 z0 z1 z2)
    (hl : (l, listOf #[.ref s0, .ref s1, .ref s2] n) ∈ news) (hb : (b, listOf #[.ref z0, .ref z1, .ref z2] n2) ∈ news)
    (m1 : FracIn w news x1 r1) (m2 : FracIn w news x2 r2) (m3 : FracIn w news x3 r3) : Does w (compareOp .NotEq (.ref l) (.ref b)) 20 news (RB false news) := by
  obtain ⟨a, b, c⟩ := srt_in h m1 m2 m3
  obtain ⟨d, e, f⟩ := srt_in k m1 m2 m3
  exact ne_list3F hl hb a b c d e f (srt_eq h k)
end
section
set_option maxRecDepth 100000
set_option maxHeartbeats 8000000
set_option Elab.async false
set_option linter.unusedVariables false
theorem news_clean {h₀ h : Heap} {L : Addr} {pre te : Led} (N : News h₀ L h (pre ++ te)) : News h₀ L h (pre ++ cleanT te) := fun p hp => by
  rcases List.mem_append.mp hp with hp | hp
  · exact N p (List.mem_append_left _ hp)
  · exact N p (List.mem_append_right _ (cleanT_mem.mp hp).1)
theorem Sm.of {a b : Int} (ha : -20 ≤ a ∧ a ≤ 20) (hb : InLow b) : Sm (Rat.divInt a b) := by
  obtain ⟨h0, h1, h2⟩ := hb
  have e : By a b (b.sign * (Int.gcd b a : Int)) := rfl
  have hn : (Rat.divInt a b).num.natAbs ≤ a.natAbs := by
    rw [← e.num h0]
    have h3 : (b.sign * (Int.gcd b a : Int)) ∣ a := by
      rcases Int.lt_or_gt_of_ne h0 with h | h
      · rw [Int.sign_eq_neg_one_of_neg h, Int.neg_one_mul]; exact Int.neg_dvd.mpr (Int.gcd_dvd_right ..)
      · rw [Int.sign_eq_one_of_pos h, Int.one_mul]; exact Int.gcd_dvd_right ..
    rw [Int.fdiv_eq_ediv_of_dvd h3, Int.natAbs_ediv_of_dvd h3]
    exact Nat.div_le_self _ _
  have hd : (Rat.divInt a b).den ≤ b.natAbs := by
    rw [Rat.den_divInt, if_neg h0]
    exact Nat.div_le_self _ _
  have hp := (Rat.divInt a b).den_nz
  exact ⟨by omega, by omega⟩
theorem wh_rng {r1 r2 r3 : Rat} (h1 : Sm r1) (h2 : Sm r2) (h3 : Sm r3) : 0 < (r1.den : Int) * r2.den * r3.den ∧ (r1.den : Int) * r2.den * r3.den ≤ 1728 := by
  refine ⟨Int.mul_pos (Int.mul_pos (den_pos _) (den_pos _)) (den_pos _), ?_⟩
  have a := abs_mul_le h1.da h2.da
  have b := abs_mul_le a h3.da
  omega
end
section
local macro_rules | `(tactic| walk_at "eval Name") => `(tactic| (k_here; name_kind "local"; k_dflt (refine' nameX_L ?F ?v ?_ ?a ?b; (case F => k_asm); (case a => rfl); (case b => rfl); (case v => assumption); k_whole)))
local macro_rules | `(tactic| walk_at "subscriptTail") => `(tactic| (k_here; (with_reducible show wpAny _ _ (subscriptTail _ _ (Value.ref _) (Value.int _ _)) _ _ _); k_dflt (refine' item_at ?k1 ?k2 ?k3 ?k4 ?k5 ?_ ?k6; (case k1 => k_asm); (case k2 => k_mem); (case k3 => first | assumption | omega); (case k4 => first | assumption | omega); (case k5 => assumption); (case k6 => with_unfolding_all rfl); k_whole)))
local macro_rules | `(tactic| walk_at "subscriptTail Name Name ref int") => `(tactic| (k_here; (with_reducible show wpAny _ _ (subscriptTail _ _ (Value.ref _) (Value.int _ _)) _ _ _); k_dflt (refine' item_at ?k1 ?k2 ?k3 ?k4 ?k5 ?_ ?k6; (case k1 => k_asm); (case k2 => k_mem); (case k3 => first | assumption | omega); (case k4 => first | assumption | omega); (case k5 => assumption); (case k6 => with_unfolding_all rfl); k_whole)))
local macro_rules | `(tactic| walk_at "subscriptTail Name BinOp ref int") => `(tactic| (k_here; (with_reducible show wpAny _ _ (subscriptTail _ _ (Value.ref _) (Value.int _ _)) _ _ _); k_dflt (refine' item_at ?k1 ?k2 ?k3 ?k4 ?k5 ?_ ?k6; (case k1 => k_asm); (case k2 => k_mem); (case k3 => first | assumption | omega); (case k4 => first | assumption | omega); (case k5 => assumption); (case k6 => with_unfolding_all rfl); k_whole)))
local macro_rules | `(tactic| walk_at "subscriptTail Subscript Constant ref int") => `(tactic| (k_here; (with_reducible show wpAny _ _ (subscriptTail _ _ (Value.ref _) (Value.int _ _)) _ _ _); k_dflt (refine' item_at ?k1 ?k2 ?k3 ?k4 ?k5 ?_ ?k6; (case k1 => k_asm); (case k2 => k_mem); (case k3 => first | assumption | omega); (case k4 => first | assumption | omega); (case k5 => assumption); (case k6 => with_unfolding_all rfl); k_whole)))
local macro_rules | `(tactic| k_all) => `(tactic| assumption)
local macro_rules | `(tactic| k_room) => `(tactic| ((try simp only [depth_mark, depth_under_make, depth_under_kw, depth_in1, depth_deeper, depth_caller, ktrTop]); first | omega | decide))
local macro_rules | `(tactic| ktr_units) => `(tactic| ((have hcL9 := cLine_is); (try simp only [units_under_make, units_in1, units_deeper, Around.mark_units, units_caller, ktrTop]); omega))
section
local macro_rules | `(tactic| walk_at "call ref") => `(tactic| (k_here; (with_reducible show wpAny _ _ (call (Value.ref 190) [Value.ref _, Value.int _ _, Value.int _ _]) _ _ _); k_dflt (refine' does_use (is_f ?qx ?qdx ?ql ?qb ?qr) ?k1 ?k2 ?k3 ?k4 ?k5 ?kK ?kd ?ku ?_; (case k1 => k_asm); (case k2 => k_asm); (case k3 => k_asm); (case k4 => k_asm); (case k5 => k_asm); (case kK => first | exact rfl | assumption); (case kd => k_room); (case ku => ktr_units); (case qx => k_mem); (case qdx => k_mem); (case ql => first | assumption | exact Int.mul_ne_zero (by assumption) (by assumption) | omega); (case qb => first | assumption | omega | exact natAbs_mul_lt (m := 128) (n := 128) (by omega) (by omega) (by decide)); (case qr => first | assumption | exact neg_is (by assumption)); k_whole; intro h' tk' F' N'; (try k_sweep); (try dsimp only [PySem.W.CmpBack, PySem.W.LenBack, PySem.W.StrBack, PySem.W.BoolBack, Mine.NotBack]); (try dsimp only))))
local macro_rules | `(tactic| walk_at "call ref") => `(tactic| (k_here; (with_reducible show wpAny _ _ (call (Value.ref 211) [Value.ref _, Value.int _ _, Value.int _ _, Value.int _ _]) _ _ _); (with_reducible rename News _ _ _ _ => hNN); k_dflt (refine' doesT_use (whole_ok ?qn ?qTS ?qnt ?qx ?qdx ?qp ?qb ?qa ?qw) ?k1 ?k2 ?k3 hNN ?k5 ?k6 ?kK ?kd ?ku ?_; (case qTS => assumption); (case qn => (repeat (first | exact rfl | exact split_nil | apply split_cons))); (case qnt => (repeat (first | assumption | exact NoTab.nil | refine NoTab.cons (by first | exact noTab_data (by assumption) | (intro ws hw; cases hw; done) | exact noTab_cls (by intro h; cases h) | (intro ws hw; simp_all; done)) ?_))); (case qx => k_mem); (case qdx => k_mem); (case qp => assumption); (case qb => first | assumption | exact ⟨by omega, by omega⟩); (case qa => first | assumption | exact ⟨by omega, by omega⟩); (case qw => first | assumption | exact ⟨by omega, by omega⟩); (case k1 => k_asm); (case k2 => k_asm); (case k3 => k_asm); (case k5 => k_asm); (case k6 => exact ktsDicts_nil); (case kK => first | exact rfl | assumption); (case kd => k_room); (case ku => ktr_units)); intro te' TS' kg' h' tk' KT' B' D' F' N'; (k_dflt (replace F' := fr_back KT' F')); (k_dflt (replace N' := news_back KT' N')); clear KT' B' D'; (try simp only [List.cons_append, List.nil_append] at N'); (try k_sweep); (try dsimp only)))
theorem segT1 : ∀ {w : World} {sc : Scope} {fa : Addr} {p : Program} {loose : List Str} {mean : ExcName → Option Value} {mg mb : Str → Option Value} {h₀ : Heap} {L : Addr} {m : Str → Option Value} {s : Shared} {Q : Flow → Shared → Prop} {E : Value → Shared → Prop} {t : Stmt} (ht : (lawFor 6)[1]? = some t) (hsc : lawParts.2 = sc) (B : Below callerA h₀ [] h₀) (F : Fr h₀ L s.heap m) (X : (Mine.hd.heap_39 w.params).In h₀) (T : Top p loose mean mg mb h₀) (C : CodeHd h₀ 215 213) (hL : 213 < L) {ex te : Led} (nx : NoTab ex) (TS : Tabs te) {x dx pt : Addr} {r : Rat} {u v yy z tu tv : Tok} {kk tn' : Nat} {pl rl : Addr} {np nr : Nat} {r1 : Rat} {x1 d1 : Addr} {u1 v1 y1 z1 : Tok} {k1 : Nat} {p1 : Addr} {tu1 tv1 : Tok} {tn1 : Nat} {r2 : Rat} {x2 d2 : Addr} {u2 v2 y2 z2 : Tok} {k2 : Nat} {p2 : Addr} {tu2 tv2 : Tok} {tn2 : Nat} {r3 : Rat} {x3 d3 : Addr} {u3 v3 y3 z3 : Tok} {k3 : Nat} {p3 : Addr} {tu3 tv3 : Tok} {tn3 : Nat} {n : Int} {tn : Tok} {c0 c1 c2 c3 c4 : Obj} {k : Int} {tk : Tok} (hk0 : 0 ≤ k) (hk3 : k < 3) (hm1 : m (Str.ofString "k") = some (.int k tk)) {tt tl : Tok} (hm2 : m (Str.ofString "top") = some (.int r.num tt)) (hm3 : m (Str.ofString "low") = some (.int r.den tl)) (hxk : ([.ref x1, .ref x2, .ref x3] : List Value)[k.toNat]? = some (.ref x)) (hs : Sm r) (hn : -15 ≤ n ∧ n ≤ 15) (hc0 : c0.data = .cell (some (.ref rl))) (hc1 : c1.data = .cell (some (.int n tn))) (hc2 : c2.data = .cell (none)) (hc3 : c3.data = .cell (some (.ref pl))) (hc4 : c4.data = .cell (none)) (N : News h₀ L s.heap ((x, instObj 165 dx) :: (dx, fdict w r.num r.den u v yy z kk) :: (pt, tup2 r.num r.den tu tv tn') :: (pl, listOf ([.ref p1, .ref p2, .ref p3] : List Value).toArray np) :: (p1, tup2 r1.num r1.den tu1 tv1 tn1) :: (p2, tup2 r2.num r2.den tu2 tv2 tn2) :: (p3, tup2 r3.num r3.den tu3 tv3 tn3) :: (rl, listOf ([.ref x1, .ref x2, .ref x3] : List Value).toArray nr) :: (x1, instObj 165 d1) :: (d1, fdict w r1.num r1.den u1 v1 y1 z1 k1) :: (x2, instObj 165 d2) :: (d2, fdict w r2.num r2.den u2 v2 y2 z2 k2) :: (x3, instObj 165 d3) :: (d3, fdict w r3.num r3.den u3 v3 y3 z3 k3) :: (L + 1 + 1 + 1 + 1 + 1, c4) :: (L + 1 + 1 + 1 + 1, c3) :: (L + 1 + 1 + 1, c2) :: (L + 1 + 1, c1) :: (L + 1, c0) :: (ex ++ te))) (hret : ∀ h' tk' te', Tabs te' → Fr h₀ L h' m → News h₀ L h' ((x, instObj 165 dx) :: (dx, fdict w r.num r.den u v yy z kk) :: (pt, tup2 r.num r.den tu tv tn') :: (pl, listOf ([.ref p1, .ref p2, .ref p3] : List Value).toArray np) :: (p1, tup2 r1.num r1.den tu1 tv1 tn1) :: (p2, tup2 r2.num r2.den tu2 tv2 tn2) :: (p3, tup2 r3.num r3.den tu3 tv3 tn3) :: (rl, listOf ([.ref x1, .ref x2, .ref x3] : List Value).toArray nr) :: (x1, instObj 165 d1) :: (d1, fdict w r1.num r1.den u1 v1 y1 z1 k1) :: (x2, instObj 165 d2) :: (d2, fdict w r2.num r2.den u2 v2 y2 z2 k2) :: (x3, instObj 165 d3) :: (d3, fdict w r3.num r3.den u3 v3 y3 z3 k3) :: (L + 1 + 1 + 1 + 1 + 1, c4) :: (L + 1 + 1 + 1 + 1, c3) :: (L + 1 + 1 + 1, c2) :: (L + 1 + 1, c1) :: (L + 1, c0) :: (ex ++ te')) → Q .next { s with heap := h', toks := tk' }),
    wpAny (model PySem.Challenge.rw_at5001_01.row.prog w) (callerA.deeper (lawEnv sc L fa)) (exec t (lawEnv sc L fa)) Q E s := by
  k_fill
  intro w sc fa p loose mean mg mb h₀ L m s Q E t ht hsc B F X T C hL ex te nx TS x dx pt r u v yy z tu tv kk tn' pl rl np nr r1 x1 d1 u1 v1 y1 z1 k1 p1 tu1 tv1 tn1 r2 x2 d2 u2 v2 y2 z2 k2 p2 tu2 tv2 tn2 r3 x3 d3 u3 v3 y3 z3 k3 p3 tu3 tv3 tn3 n tn c0 c1 c2 c3 c4 k tk hk0 hk3 hm1 tt tl hm2 hm3 hxk hs hn hc0 hc1 hc2 hc3 hc4 N hret
  replace hsc : (⟨_, _, _, _, _⟩ : Scope) = _ := hsc
  subst hsc
  replace ht : some _ = some _ := ht
  obtain rfl := Option.some.inj ht
  clear ht
  have er : r = Rat.divInt r.num r.den := Sm.eq r
  have hbd := hs.bd
  obtain ⟨⟨hn1, hn2⟩, hd1, hd2⟩ := hs
  have hd0 : (r.den : Int) ≠ 0 := by omega
  k_steps
  all_goals (
    refine' hret _ _ _ ?qt ?qf ?qn
    (case qf => assumption)
    (case qn => first | assumption | (refine' cb_drop ?qN ?qS; (case qN => assumption); (case qS => (repeat (first | exact List.forall_mem_nil _ | exact fun _ h => h | (intro p hp; ((repeat (first | exact hp | refine List.Mem.tail _ ?_)); done)) | (refine List.forall_mem_cons.mpr ⟨by k_mem, ?_⟩))))))
    (case qt => assumption)
)
end
section
local macro_rules | `(tactic| walk_at "callWith ref") => `(tactic| (k_here; k_dflt (refine' callWith_M0 ?k1 ?k2 ?_; (case k1 => k_meth); (case k2 => k_is); k_whole; try dsimp only [List.nil_append, List.cons_append])))
local macro_rules | `(tactic| walk_at "call ref") => `(tactic| (k_here; (with_reducible show wpAny _ _ (call (Value.ref 57) _) _ _ _); k_dflt (refine wpAny_call ?_; k_enter)))
local macro_rules | `(tactic| walk_at "call ref") => `(tactic| (k_here; (with_reducible show wpAny _ _ (call (Value.ref 64) _) _ _ _); k_dflt (refine wpAny_call ?_; k_enter)))
local macro_rules | `(tactic| walk_at "call type:bool") => `(tactic| (k_here; (with_reducible show wpAny _ _ (call _ [Value.ref _]) _ _ _); k_dflt (refine call_bool_x ?_)))
theorem segT2 : ∀ {w : World} {sc : Scope} {fa : Addr} {p : Program} {loose : List Str} {mean : ExcName → Option Value} {mg mb : Str → Option Value} {h₀ : Heap} {L : Addr} {m : Str → Option Value} {s : Shared} {Q : Flow → Shared → Prop} {E : Value → Shared → Prop} {t : Stmt} (ht : (lawFor 6)[2]? = some t) (hsc : lawParts.2 = sc) (B : Below callerA h₀ [] h₀) (F : Fr h₀ L s.heap m) (X : (Mine.hd.heap_39 w.params).In h₀) (T : Top p loose mean mg mb h₀) (C : CodeHd h₀ 215 213) (hL : 213 < L) {ex te : Led} (nx : NoTab ex) (TS : Tabs te) {x dx pt : Addr} {r : Rat} {u v yy z tu tv : Tok} {kk tn' : Nat} {pl rl : Addr} {np nr : Nat} {r1 : Rat} {x1 d1 : Addr} {u1 v1 y1 z1 : Tok} {k1 : Nat} {p1 : Addr} {tu1 tv1 : Tok} {tn1 : Nat} {r2 : Rat} {x2 d2 : Addr} {u2 v2 y2 z2 : Tok} {k2 : Nat} {p2 : Addr} {tu2 tv2 : Tok} {tn2 : Nat} {r3 : Rat} {x3 d3 : Addr} {u3 v3 y3 z3 : Tok} {k3 : Nat} {p3 : Addr} {tu3 tv3 : Tok} {tn3 : Nat} {n : Int} {tn : Tok} {c0 c1 c2 c3 c4 : Obj} {k : Int} {tk : Tok} (hk0 : 0 ≤ k) (hk3 : k < 3) (hm1 : m (Str.ofString "k") = some (.int k tk)) {tt tl : Tok} (hm2 : m (Str.ofString "top") = some (.int r.num tt)) (hm3 : m (Str.ofString "low") = some (.int r.den tl)) (hxk : ([.ref x1, .ref x2, .ref x3] : List Value)[k.toNat]? = some (.ref x)) (hs : Sm r) (hn : -15 ≤ n ∧ n ≤ 15) (hc0 : c0.data = .cell (some (.ref rl))) (hc1 : c1.data = .cell (some (.int n tn))) (hc2 : c2.data = .cell (none)) (hc3 : c3.data = .cell (some (.ref pl))) (hc4 : c4.data = .cell (none)) (N : News h₀ L s.heap ((x, instObj 165 dx) :: (dx, fdict w r.num r.den u v yy z kk) :: (pt, tup2 r.num r.den tu tv tn') :: (pl, listOf ([.ref p1, .ref p2, .ref p3] : List Value).toArray np) :: (p1, tup2 r1.num r1.den tu1 tv1 tn1) :: (p2, tup2 r2.num r2.den tu2 tv2 tn2) :: (p3, tup2 r3.num r3.den tu3 tv3 tn3) :: (rl, listOf ([.ref x1, .ref x2, .ref x3] : List Value).toArray nr) :: (x1, instObj 165 d1) :: (d1, fdict w r1.num r1.den u1 v1 y1 z1 k1) :: (x2, instObj 165 d2) :: (d2, fdict w r2.num r2.den u2 v2 y2 z2 k2) :: (x3, instObj 165 d3) :: (d3, fdict w r3.num r3.den u3 v3 y3 z3 k3) :: (L + 1 + 1 + 1 + 1 + 1, c4) :: (L + 1 + 1 + 1 + 1, c3) :: (L + 1 + 1 + 1, c2) :: (L + 1 + 1, c1) :: (L + 1, c0) :: (ex ++ te))) (hret : ∀ h' tk' te', Tabs te' → Fr h₀ L h' m → News h₀ L h' ((x, instObj 165 dx) :: (dx, fdict w r.num r.den u v yy z kk) :: (pt, tup2 r.num r.den tu tv tn') :: (pl, listOf ([.ref p1, .ref p2, .ref p3] : List Value).toArray np) :: (p1, tup2 r1.num r1.den tu1 tv1 tn1) :: (p2, tup2 r2.num r2.den tu2 tv2 tn2) :: (p3, tup2 r3.num r3.den tu3 tv3 tn3) :: (rl, listOf ([.ref x1, .ref x2, .ref x3] : List Value).toArray nr) :: (x1, instObj 165 d1) :: (d1, fdict w r1.num r1.den u1 v1 y1 z1 k1) :: (x2, instObj 165 d2) :: (d2, fdict w r2.num r2.den u2 v2 y2 z2 k2) :: (x3, instObj 165 d3) :: (d3, fdict w r3.num r3.den u3 v3 y3 z3 k3) :: (L + 1 + 1 + 1 + 1 + 1, c4) :: (L + 1 + 1 + 1 + 1, c3) :: (L + 1 + 1 + 1, c2) :: (L + 1 + 1, c1) :: (L + 1, c0) :: (ex ++ te')) → Q .next { s with heap := h', toks := tk' }),
    wpAny (model PySem.Challenge.rw_at5001_01.row.prog w) (callerA.deeper (lawEnv sc L fa)) (exec t (lawEnv sc L fa)) Q E s := by
  k_fill
  intro w sc fa p loose mean mg mb h₀ L m s Q E t ht hsc B F X T C hL ex te nx TS x dx pt r u v yy z tu tv kk tn' pl rl np nr r1 x1 d1 u1 v1 y1 z1 k1 p1 tu1 tv1 tn1 r2 x2 d2 u2 v2 y2 z2 k2 p2 tu2 tv2 tn2 r3 x3 d3 u3 v3 y3 z3 k3 p3 tu3 tv3 tn3 n tn c0 c1 c2 c3 c4 k tk hk0 hk3 hm1 tt tl hm2 hm3 hxk hs hn hc0 hc1 hc2 hc3 hc4 N hret
  replace hsc : (⟨_, _, _, _, _⟩ : Scope) = _ := hsc
  subst hsc
  replace ht : some _ = some _ := ht
  obtain rfl := Option.some.inj ht
  clear ht
  have er : r = Rat.divInt r.num r.den := Sm.eq r
  have hbd := hs.bd
  obtain ⟨⟨hn1, hn2⟩, hd1, hd2⟩ := hs
  have hd0 : (r.den : Int) ≠ 0 := by omega
  k_steps
  all_goals (
    refine' hret _ _ _ ?qt ?qf ?qn
    (case qf => assumption)
    (case qn => first | assumption | (refine' cb_drop ?qN ?qS; (case qN => assumption); (case qS => (repeat (first | exact List.forall_mem_nil _ | exact fun _ h => h | (intro p hp; ((repeat (first | exact hp | refine List.Mem.tail _ ?_)); done)) | (refine List.forall_mem_cons.mpr ⟨by k_mem, ?_⟩))))))
    (case qt => assumption)
)
end
section
local macro_rules | `(tactic| walk_at "call ref") => `(tactic| (k_here; (with_reducible show wpAny _ _ (call (Value.ref 50) _) _ _ _); k_dflt (refine wpAny_call ?_; k_enter)))
local macro_rules | `(tactic| walk_at "compareOp NotEq str str") => `(tactic| (k_here; k_dflt (refine ne_str_same ?qe ?_; (case qe => first | rfl | (rw [KT.empty_app]))); (try dsimp only)))
theorem segT3 : ∀ {w : World} {sc : Scope} {fa : Addr} {p : Program} {loose : List Str} {mean : ExcName → Option Value} {mg mb : Str → Option Value} {h₀ : Heap} {L : Addr} {m : Str → Option Value} {s : Shared} {Q : Flow → Shared → Prop} {E : Value → Shared → Prop} {t : Stmt} (ht : (lawFor 6)[3]? = some t) (hsc : lawParts.2 = sc) (B : Below callerA h₀ [] h₀) (F : Fr h₀ L s.heap m) (X : (Mine.hd.heap_39 w.params).In h₀) (T : Top p loose mean mg mb h₀) (C : CodeHd h₀ 215 213) (hL : 213 < L) {ex te : Led} (nx : NoTab ex) (TS : Tabs te) {x dx pt : Addr} {r : Rat} {u v yy z tu tv : Tok} {kk tn' : Nat} {pl rl : Addr} {np nr : Nat} {r1 : Rat} {x1 d1 : Addr} {u1 v1 y1 z1 : Tok} {k1 : Nat} {p1 : Addr} {tu1 tv1 : Tok} {tn1 : Nat} {r2 : Rat} {x2 d2 : Addr} {u2 v2 y2 z2 : Tok} {k2 : Nat} {p2 : Addr} {tu2 tv2 : Tok} {tn2 : Nat} {r3 : Rat} {x3 d3 : Addr} {u3 v3 y3 z3 : Tok} {k3 : Nat} {p3 : Addr} {tu3 tv3 : Tok} {tn3 : Nat} {n : Int} {tn : Tok} {c0 c1 c2 c3 c4 : Obj} {k : Int} {tk : Tok} (hk0 : 0 ≤ k) (hk3 : k < 3) (hm1 : m (Str.ofString "k") = some (.int k tk)) {tt tl : Tok} (hm2 : m (Str.ofString "top") = some (.int r.num tt)) (hm3 : m (Str.ofString "low") = some (.int r.den tl)) (hxk : ([.ref x1, .ref x2, .ref x3] : List Value)[k.toNat]? = some (.ref x)) (hs : Sm r) (hn : -15 ≤ n ∧ n ≤ 15) (hc0 : c0.data = .cell (some (.ref rl))) (hc1 : c1.data = .cell (some (.int n tn))) (hc2 : c2.data = .cell (none)) (hc3 : c3.data = .cell (some (.ref pl))) (hc4 : c4.data = .cell (none)) (N : News h₀ L s.heap ((x, instObj 165 dx) :: (dx, fdict w r.num r.den u v yy z kk) :: (pt, tup2 r.num r.den tu tv tn') :: (pl, listOf ([.ref p1, .ref p2, .ref p3] : List Value).toArray np) :: (p1, tup2 r1.num r1.den tu1 tv1 tn1) :: (p2, tup2 r2.num r2.den tu2 tv2 tn2) :: (p3, tup2 r3.num r3.den tu3 tv3 tn3) :: (rl, listOf ([.ref x1, .ref x2, .ref x3] : List Value).toArray nr) :: (x1, instObj 165 d1) :: (d1, fdict w r1.num r1.den u1 v1 y1 z1 k1) :: (x2, instObj 165 d2) :: (d2, fdict w r2.num r2.den u2 v2 y2 z2 k2) :: (x3, instObj 165 d3) :: (d3, fdict w r3.num r3.den u3 v3 y3 z3 k3) :: (L + 1 + 1 + 1 + 1 + 1, c4) :: (L + 1 + 1 + 1 + 1, c3) :: (L + 1 + 1 + 1, c2) :: (L + 1 + 1, c1) :: (L + 1, c0) :: (ex ++ te))) (hret : ∀ h' tk' te', Tabs te' → Fr h₀ L h' m → News h₀ L h' ((x, instObj 165 dx) :: (dx, fdict w r.num r.den u v yy z kk) :: (pt, tup2 r.num r.den tu tv tn') :: (pl, listOf ([.ref p1, .ref p2, .ref p3] : List Value).toArray np) :: (p1, tup2 r1.num r1.den tu1 tv1 tn1) :: (p2, tup2 r2.num r2.den tu2 tv2 tn2) :: (p3, tup2 r3.num r3.den tu3 tv3 tn3) :: (rl, listOf ([.ref x1, .ref x2, .ref x3] : List Value).toArray nr) :: (x1, instObj 165 d1) :: (d1, fdict w r1.num r1.den u1 v1 y1 z1 k1) :: (x2, instObj 165 d2) :: (d2, fdict w r2.num r2.den u2 v2 y2 z2 k2) :: (x3, instObj 165 d3) :: (d3, fdict w r3.num r3.den u3 v3 y3 z3 k3) :: (L + 1 + 1 + 1 + 1 + 1, c4) :: (L + 1 + 1 + 1 + 1, c3) :: (L + 1 + 1 + 1, c2) :: (L + 1 + 1, c1) :: (L + 1, c0) :: (ex ++ te')) → Q .next { s with heap := h', toks := tk' }),
    wpAny (model PySem.Challenge.rw_at5001_01.row.prog w) (callerA.deeper (lawEnv sc L fa)) (exec t (lawEnv sc L fa)) Q E s := by
  k_fill
  intro w sc fa p loose mean mg mb h₀ L m s Q E t ht hsc B F X T C hL ex te nx TS x dx pt r u v yy z tu tv kk tn' pl rl np nr r1 x1 d1 u1 v1 y1 z1 k1 p1 tu1 tv1 tn1 r2 x2 d2 u2 v2 y2 z2 k2 p2 tu2 tv2 tn2 r3 x3 d3 u3 v3 y3 z3 k3 p3 tu3 tv3 tn3 n tn c0 c1 c2 c3 c4 k tk hk0 hk3 hm1 tt tl hm2 hm3 hxk hs hn hc0 hc1 hc2 hc3 hc4 N hret
  replace hsc : (⟨_, _, _, _, _⟩ : Scope) = _ := hsc
  subst hsc
  replace ht : some _ = some _ := ht
  obtain rfl := Option.some.inj ht
  clear ht
  have er : r = Rat.divInt r.num r.den := Sm.eq r
  have hbd := hs.bd
  obtain ⟨⟨hn1, hn2⟩, hd1, hd2⟩ := hs
  have hd0 : (r.den : Int) ≠ 0 := by omega
  k_steps
  all_goals (
    refine' hret _ _ _ ?qt ?qf ?qn
    (case qf => assumption)
    (case qn => first | assumption | (refine' cb_drop ?qN ?qS; (case qN => assumption); (case qS => (repeat (first | exact List.forall_mem_nil _ | exact fun _ h => h | (intro p hp; ((repeat (first | exact hp | refine List.Mem.tail _ ?_)); done)) | (refine List.forall_mem_cons.mpr ⟨by k_mem, ?_⟩))))))
    (case qt => assumption)
)
end
section
local macro_rules | `(tactic| walk_at "subscriptTail Subscript") => `(tactic| (k_here; (with_reducible show wpAny _ _ (subscriptTail _ _ (Value.ref _) (Value.int _ _)) _ _ _); k_dflt (refine' item_tupleT ?t ?a ?b ?c ?d ?_; (case t => exact News.isTup (by k_asm) (by k_mem)); (case a => decide); (case b => decide); (case c => rfl); (case d => rfl); k_whole)))
local macro_rules | `(tactic| walk_at "subscriptTail Name Constant ref int") => `(tactic| (k_here; (with_reducible show wpAny _ _ (subscriptTail _ _ (Value.ref _) (Value.int _ _)) _ _ _); (with_unfolding_all refine' item_litK ?k1 ?k2 ?k3 ?k4 ?_ ?k6; (case k1 => is_list); (case k2 => decide); (case k3 => decide); (case k4 => rfl); (case k6 => with_unfolding_all rfl); k_whole)))
local macro_rules | `(tactic| walk_at "call ref") => `(tactic| (k_here; (with_reducible show wpAny _ _ (call (Value.ref 204) [Value.ref _, Value.ref _, Value.int _ _, Value.int _ _, Value.int _ _, Value.int _ _]) _ _ _); (with_reducible rename News _ _ _ _ => hNN); k_dflt (refine' doesT_use (two_ok ?qn ?qTS ?qnt ?qx ?qdx ?qy ?qdy ?qp ?qb ?qa ?qq ?qd ?qc) ?k1 ?k2 ?k3 hNN ?k5 ?k6 ?kK ?kd ?ku ?_; (case qTS => assumption); (case qn => (repeat (first | exact rfl | exact split_nil | apply split_cons))); (case qnt => (repeat (first | assumption | exact NoTab.nil | refine NoTab.cons (by first | exact noTab_data (by assumption) | (intro ws hw; cases hw; done) | exact noTab_cls (by intro h; cases h) | (intro ws hw; simp_all; done)) ?_))); (case qx => k_mem); (case qdx => k_mem); (case qy => k_mem); (case qdy => k_mem); (case qp => assumption); (case qb => first | assumption | exact ⟨by omega, by omega⟩); (case qa => first | assumption | exact ⟨by omega, by omega⟩); (case qq => assumption); (case qd => first | assumption | exact ⟨by omega, by omega⟩); (case qc => first | assumption | exact ⟨by omega, by omega⟩); (case k1 => k_asm); (case k2 => k_asm); (case k3 => k_asm); (case k5 => k_asm); (case k6 => exact ktsDicts_nil); (case kK => first | exact rfl | assumption); (case kd => k_room); (case ku => ktr_units)); intro te' TS' kg' h' tk' KT' B' D' F' N'; (k_dflt (replace F' := fr_back KT' F')); (k_dflt (replace N' := news_back KT' N')); clear KT' B' D'; (try simp only [List.cons_append, List.nil_append] at N'); (try k_sweep); (try dsimp only)))
theorem segT4t : ∀ {w : World} {sc : Scope} {fa : Addr} {p : Program} {loose : List Str} {mean : ExcName → Option Value} {mg mb : Str → Option Value} {h₀ : Heap} {L : Addr} {m : Str → Option Value} {s : Shared} {Q : Flow → Shared → Prop} {E : Value → Shared → Prop} {t : List Stmt} (ht : lawFor2 = t) (hsc : lawParts.2 = sc) (B : Below callerA h₀ [] h₀) (F : Fr h₀ L s.heap m) (X : (Mine.hd.heap_39 w.params).In h₀) (T : Top p loose mean mg mb h₀) (C : CodeHd h₀ 215 213) (hL : 213 < L) {ex te : Led} (nx : NoTab ex) (TS : Tabs te) {x dx pt : Addr} {r : Rat} {u v yy z tu tv : Tok} {kk tn' : Nat} {y dy pj : Addr} {q : Rat} {u' v' y' z' tu' tv' : Tok} {kk' tn'' : Nat} {pl rl : Addr} {np nr : Nat} {r1 : Rat} {x1 d1 : Addr} {u1 v1 y1 z1 : Tok} {k1 : Nat} {p1 : Addr} {tu1 tv1 : Tok} {tn1 : Nat} {r2 : Rat} {x2 d2 : Addr} {u2 v2 y2 z2 : Tok} {k2 : Nat} {p2 : Addr} {tu2 tv2 : Tok} {tn2 : Nat} {r3 : Rat} {x3 d3 : Addr} {u3 v3 y3 z3 : Tok} {k3 : Nat} {p3 : Addr} {tu3 tv3 : Tok} {tn3 : Nat} {n : Int} {tn : Tok} {c0 c1 c2 c3 c4 : Obj} {k : Int} {tk : Tok} (hk0 : 0 ≤ k) (hk3 : k < 3) (hm1 : m (Str.ofString "k") = some (.int k tk)) {tt tl : Tok} (hm2 : m (Str.ofString "top") = some (.int r.num tt)) (hm3 : m (Str.ofString "low") = some (.int r.den tl)) (hxk : ([.ref x1, .ref x2, .ref x3] : List Value)[k.toNat]? = some (.ref x)) {j : Int} {tj : Tok} (hj0 : 0 ≤ j) (hj3 : j < 3) (hm4 : m (Str.ofString "j") = some (.int j tj)) (hxj : ([.ref x1, .ref x2, .ref x3] : List Value)[j.toNat]? = some (.ref y)) (hpj : ([.ref p1, .ref p2, .ref p3] : List Value)[j.toNat]? = some (.ref pj)) (hsq : Sm q) (hs : Sm r) (hn : -15 ≤ n ∧ n ≤ 15) (hc0 : c0.data = .cell (some (.ref rl))) (hc1 : c1.data = .cell (some (.int n tn))) (hc2 : c2.data = .cell (none)) (hc3 : c3.data = .cell (some (.ref pl))) (hc4 : c4.data = .cell (none)) (N : News h₀ L s.heap ((y, instObj 165 dy) :: (dy, fdict w q.num q.den u' v' y' z' kk') :: (pj, tup2 q.num q.den tu' tv' tn'') :: (x, instObj 165 dx) :: (dx, fdict w r.num r.den u v yy z kk) :: (pt, tup2 r.num r.den tu tv tn') :: (pl, listOf ([.ref p1, .ref p2, .ref p3] : List Value).toArray np) :: (p1, tup2 r1.num r1.den tu1 tv1 tn1) :: (p2, tup2 r2.num r2.den tu2 tv2 tn2) :: (p3, tup2 r3.num r3.den tu3 tv3 tn3) :: (rl, listOf ([.ref x1, .ref x2, .ref x3] : List Value).toArray nr) :: (x1, instObj 165 d1) :: (d1, fdict w r1.num r1.den u1 v1 y1 z1 k1) :: (x2, instObj 165 d2) :: (d2, fdict w r2.num r2.den u2 v2 y2 z2 k2) :: (x3, instObj 165 d3) :: (d3, fdict w r3.num r3.den u3 v3 y3 z3 k3) :: (L + 1 + 1 + 1 + 1 + 1, c4) :: (L + 1 + 1 + 1 + 1, c3) :: (L + 1 + 1 + 1, c2) :: (L + 1 + 1, c1) :: (L + 1, c0) :: (ex ++ te))) (hret : ∀ h' tk' te', Tabs te' → Fr h₀ L h' m → News h₀ L h' ((y, instObj 165 dy) :: (dy, fdict w q.num q.den u' v' y' z' kk') :: (pj, tup2 q.num q.den tu' tv' tn'') :: (x, instObj 165 dx) :: (dx, fdict w r.num r.den u v yy z kk) :: (pt, tup2 r.num r.den tu tv tn') :: (pl, listOf ([.ref p1, .ref p2, .ref p3] : List Value).toArray np) :: (p1, tup2 r1.num r1.den tu1 tv1 tn1) :: (p2, tup2 r2.num r2.den tu2 tv2 tn2) :: (p3, tup2 r3.num r3.den tu3 tv3 tn3) :: (rl, listOf ([.ref x1, .ref x2, .ref x3] : List Value).toArray nr) :: (x1, instObj 165 d1) :: (d1, fdict w r1.num r1.den u1 v1 y1 z1 k1) :: (x2, instObj 165 d2) :: (d2, fdict w r2.num r2.den u2 v2 y2 z2 k2) :: (x3, instObj 165 d3) :: (d3, fdict w r3.num r3.den u3 v3 y3 z3 k3) :: (L + 1 + 1 + 1 + 1 + 1, c4) :: (L + 1 + 1 + 1 + 1, c3) :: (L + 1 + 1 + 1, c2) :: (L + 1 + 1, c1) :: (L + 1, c0) :: (ex ++ te')) → Q .next { s with heap := h', toks := tk' }),
    wpAny (model PySem.Challenge.rw_at5001_01.row.prog w) (callerA.deeper (lawEnv sc L fa)) (execs t (lawEnv sc L fa)) Q E s := by
  k_fill
  intro w sc fa p loose mean mg mb h₀ L m s Q E t ht hsc B F X T C hL ex te nx TS x dx pt r u v yy z tu tv kk tn' y dy pj q u' v' y' z' tu' tv' kk' tn'' pl rl np nr r1 x1 d1 u1 v1 y1 z1 k1 p1 tu1 tv1 tn1 r2 x2 d2 u2 v2 y2 z2 k2 p2 tu2 tv2 tn2 r3 x3 d3 u3 v3 y3 z3 k3 p3 tu3 tv3 tn3 n tn c0 c1 c2 c3 c4 k tk hk0 hk3 hm1 tt tl hm2 hm3 hxk j tj hj0 hj3 hm4 hxj hpj hsq hs hn hc0 hc1 hc2 hc3 hc4 N hret
  replace hsc : (⟨_, _, _, _, _⟩ : Scope) = _ := hsc
  subst hsc
  replace ht : _ :: _ = _ := ht
  subst ht
  have er : r = Rat.divInt r.num r.den := Sm.eq r
  have hbd := hs.bd
  obtain ⟨⟨hn1, hn2⟩, hd1, hd2⟩ := hs
  have hd0 : (r.den : Int) ≠ 0 := by omega
  have eq : q = Rat.divInt q.num q.den := Sm.eq q
  obtain ⟨⟨hqn1, hqn2⟩, hqd1, hqd2⟩ := hsq
  k_steps
  all_goals (
    refine' hret _ _ _ ?qt ?qf ?qn
    (case qf => assumption)
    (case qn => first | assumption | (refine' cb_drop ?qN ?qS; (case qN => assumption); (case qS => (repeat (first | exact List.forall_mem_nil _ | exact fun _ h => h | (intro p hp; ((repeat (first | exact hp | refine List.Mem.tail _ ?_)); done)) | (refine List.forall_mem_cons.mpr ⟨by k_mem, ?_⟩))))))
    (case qt => assumption)
)
end
section
local macro_rules | `(tactic| walk_at "ite") => `(tactic| (k_here; (with_reducible refine ite_neg ?qi ?_); (case qi => assumption)))
theorem segA8 : ∀ {w : World} {sc : Scope} {fa : Addr} {p : Program} {loose : List Str} {mean : ExcName → Option Value} {mg mb : Str → Option Value} {h₀ : Heap} {L : Addr} {m : Str → Option Value} {s : Shared} {Q : Flow → Shared → Prop} {E : Value → Shared → Prop} {t : Stmt} (ht : lawParts.1[8]? = some t) (hsc : lawParts.2 = sc) (B : Below callerA h₀ [] h₀) (F : Fr h₀ L s.heap m) (X : (Mine.hd.heap_39 w.params).In h₀) (T : Top p loose mean mg mb h₀) (C : CodeHd h₀ 215 213) (hL : 213 < L) {te : Led} {pl rl : Addr} {np nr : Nat} {r1 : Rat} {x1 d1 : Addr} {u1 v1 y1 z1 : Tok} {k1 : Nat} {p1 : Addr} {tu1 tv1 : Tok} {tn1 : Nat} {r2 : Rat} {x2 d2 : Addr} {u2 v2 y2 z2 : Tok} {k2 : Nat} {p2 : Addr} {tu2 tv2 : Tok} {tn2 : Nat} {r3 : Rat} {x3 d3 : Addr} {u3 v3 y3 z3 : Tok} {k3 : Nat} {p3 : Addr} {tu3 tv3 : Tok} {tn3 : Nat} {n : Int} {tn : Tok} {c0 c1 c2 c3 c4 : Obj} (hm2 : m (Str.ofString "two") = some (.ref x2)) (hm3 : m (Str.ofString "three") = some (.ref x3)) (hs1 : Sm r1) (hs2 : Sm r2) (hs3 : Sm r3) (hc0 : c0.data = .cell (some (.ref rl))) (hc1 : c1.data = .cell (some (.int n tn))) (hc2 : c2.data = .cell (some (.ref x1))) (hc3 : c3.data = .cell (some (.ref pl))) (hc4 : c4.data = .cell (none)) (N : News h₀ L s.heap ((pl, listOf ([.ref p1, .ref p2, .ref p3] : List Value).toArray np) :: (p1, tup2 r1.num r1.den tu1 tv1 tn1) :: (p2, tup2 r2.num r2.den tu2 tv2 tn2) :: (p3, tup2 r3.num r3.den tu3 tv3 tn3) :: (rl, listOf ([.ref x1, .ref x2, .ref x3] : List Value).toArray nr) :: (x1, instObj 165 d1) :: (d1, fdict w r1.num r1.den u1 v1 y1 z1 k1) :: (x2, instObj 165 d2) :: (d2, fdict w r2.num r2.den u2 v2 y2 z2 k2) :: (x3, instObj 165 d3) :: (d3, fdict w r3.num r3.den u3 v3 y3 z3 k3) :: (L + 1 + 1 + 1 + 1 + 1, c4) :: (L + 1 + 1 + 1 + 1, c3) :: (L + 1 + 1 + 1, c2) :: (L + 1 + 1, c1) :: (L + 1, c0) :: te)) (hret : ∀ h' tk', Fr h₀ L h' m → News h₀ L h' ((pl, listOf ([.ref p1, .ref p2, .ref p3] : List Value).toArray np) :: (p1, tup2 r1.num r1.den tu1 tv1 tn1) :: (p2, tup2 r2.num r2.den tu2 tv2 tn2) :: (p3, tup2 r3.num r3.den tu3 tv3 tn3) :: (rl, listOf ([.ref x1, .ref x2, .ref x3] : List Value).toArray nr) :: (x1, instObj 165 d1) :: (d1, fdict w r1.num r1.den u1 v1 y1 z1 k1) :: (x2, instObj 165 d2) :: (d2, fdict w r2.num r2.den u2 v2 y2 z2 k2) :: (x3, instObj 165 d3) :: (d3, fdict w r3.num r3.den u3 v3 y3 z3 k3) :: (L + 1 + 1 + 1 + 1 + 1, c4) :: (L + 1 + 1 + 1 + 1, c3) :: (L + 1 + 1 + 1, c2) :: (L + 1 + 1, c1) :: (L + 1, c0) :: te) → Q .next { s with heap := h', toks := tk' }),
    wpAny (model PySem.Challenge.rw_at5001_01.row.prog w) (callerA.deeper (lawEnv sc L fa)) (exec t (lawEnv sc L fa)) Q E s := by
  k_fill
  intro w sc fa p loose mean mg mb h₀ L m s Q E t ht hsc B F X T C hL te pl rl np nr r1 x1 d1 u1 v1 y1 z1 k1 p1 tu1 tv1 tn1 r2 x2 d2 u2 v2 y2 z2 k2 p2 tu2 tv2 tn2 r3 x3 d3 u3 v3 y3 z3 k3 p3 tu3 tv3 tn3 n tn c0 c1 c2 c3 c4 hm2 hm3 hs1 hs2 hs3 hc0 hc1 hc2 hc3 hc4 N hret
  replace hsc : (⟨_, _, _, _, _⟩ : Scope) = _ := hsc
  subst hsc
  replace ht : some _ = some _ := ht
  obtain rfl := Option.some.inj ht
  clear ht
  have hb1 := hs1.bd
  have hb2 := hs2.bd
  have hb3 := hs3.bd
  have b12 : Bd (r1 + r2) := Sm.add hs1 hs2
  have b23 : Bd (r2 + r3) := Sm.add hs2 hs3
  have m12 : Bd (r1 * r2) := Sm.mul hs1 hs2
  have m13 : Bd (r1 * r3) := Sm.mul hs1 hs3
  have m23 : Bd (r2 * r3) := Sm.mul hs2 hs3
  have e1 : ¬ ((!decide ((r1 + r2) * r3 = r1 * r3 + r2 * r3)) = true) := not_ne (Rat.add_mul _ _ _)
  have e2 : ¬ ((!decide (r1 + (r2 + r3) = r1 + r2 + r3)) = true) := not_ne (Rat.add_assoc _ _ _).symm
  have e3 : ¬ ((!decide (r1 * (r2 * r3) = r1 * r2 * r3)) = true) := not_ne (Rat.mul_assoc _ _ _).symm
  k_steps
  all_goals (
    refine' hret _ _ ?qf ?qn
    (case qf => assumption)
    (case qn => first | assumption | (refine' cb_drop ?qN ?qS; (case qN => assumption); (case qS => (repeat (first | exact List.forall_mem_nil _ | exact fun _ h => h | (intro p hp; ((repeat (first | exact hp | refine List.Mem.tail _ ?_)); done)) | (refine List.forall_mem_cons.mpr ⟨by k_mem, ?_⟩))))))
)
end
section
local macro_rules | `(tactic| walk_at "ite") => `(tactic| (k_here; (with_reducible refine ite_neg ?qi ?_); (case qi => assumption)))
local macro_rules | `(tactic| walk_at "call builtin:sum") => `(tactic| (k_here; (with_reducible show wpAny _ _ (call (Value.builtin _) [Value.ref _]) _ _ _); k_dflt (refine' does_use (sum3 ?ql ?x1 ?d1 ?x2 ?d2 ?x3 ?d3 ?v1 ?v2 ?v3 ?v0 ?v01 ?v012) ?k1 ?k2 ?k3 ?k4 ?k5 ?kK ?kd ?ku ?_; (case k1 => k_asm); (case k2 => k_asm); (case k3 => k_asm); (case k4 => k_asm); (case k5 => k_asm); (case kK => first | exact rfl | assumption); (case kd => k_room); (case ku => ktr_units); (case ql => k_mem); (case x1 => k_mem); (case d1 => k_mem); (case x2 => k_mem); (case d2 => k_mem); (case x3 => k_mem); (case d3 => k_mem); (case v1 => assumption); (case v2 => assumption); (case v3 => assumption); (case v0 => assumption); (case v01 => assumption); (case v012 => assumption); k_whole; intro x' d' t1' t2' t3' t4' n' l1 l2 h' tk' F' N'; (try k_lt l1); (try k_lt2 l2); (try k_sweep); (try dsimp only [PySem.W.CmpBack, PySem.W.LenBack, PySem.W.StrBack, PySem.W.BoolBack, Mine.NotBack]); (try dsimp only))))
local macro_rules | `(tactic| walk_at "call builtin:sum") => `(tactic| (k_here; (with_reducible show wpAny _ _ (call (Value.builtin _) [Value.ref _]) _ _ _); k_dflt (refine' does_use (sum4 ?qb ?ql ?x1 ?d1 ?x2 ?d2 ?x3 ?d3 ?v1 ?v2 ?v3 ?v0 ?v01 ?v012) ?k1 ?k2 ?k3 ?k4 ?k5 ?kK ?kd ?ku ?_; (case k1 => k_asm); (case k2 => k_asm); (case k3 => k_asm); (case k4 => k_asm); (case k5 => k_asm); (case kK => first | exact rfl | assumption); (case kd => k_room); (case ku => ktr_units); (case ql => k_mem); (case qb => first | assumption | exact ⟨by omega, by omega⟩); (case x1 => k_mem); (case d1 => k_mem); (case x2 => k_mem); (case d2 => k_mem); (case x3 => k_mem); (case d3 => k_mem); (case v1 => assumption); (case v2 => assumption); (case v3 => assumption); (case v0 => assumption); (case v01 => assumption); (case v012 => assumption); k_whole; intro x' d' t1' t2' t3' t4' n' l1 l2 h' tk' F' N'; (try k_lt l1); (try k_lt2 l2); (try k_sweep); (try dsimp only [PySem.W.CmpBack, PySem.W.LenBack, PySem.W.StrBack, PySem.W.BoolBack, Mine.NotBack]); (try dsimp only))))
theorem segA9 : ∀ {w : World} {sc : Scope} {fa : Addr} {p : Program} {loose : List Str} {mean : ExcName → Option Value} {mg mb : Str → Option Value} {h₀ : Heap} {L : Addr} {m : Str → Option Value} {s : Shared} {Q : Flow → Shared → Prop} {E : Value → Shared → Prop} {t : Stmt} (ht : lawParts.1[9]? = some t) (hsc : lawParts.2 = sc) (B : Below callerA h₀ [] h₀) (F : Fr h₀ L s.heap m) (X : (Mine.hd.heap_39 w.params).In h₀) (T : Top p loose mean mg mb h₀) (C : CodeHd h₀ 215 213) (hL : 213 < L) {te : Led} {pl rl : Addr} {np nr : Nat} {r1 : Rat} {x1 d1 : Addr} {u1 v1 y1 z1 : Tok} {k1 : Nat} {p1 : Addr} {tu1 tv1 : Tok} {tn1 : Nat} {r2 : Rat} {x2 d2 : Addr} {u2 v2 y2 z2 : Tok} {k2 : Nat} {p2 : Addr} {tu2 tv2 : Tok} {tn2 : Nat} {r3 : Rat} {x3 d3 : Addr} {u3 v3 y3 z3 : Tok} {k3 : Nat} {p3 : Addr} {tu3 tv3 : Tok} {tn3 : Nat} {n : Int} {tn : Tok} {c0 c1 c2 c3 c4 : Obj} (hm2 : m (Str.ofString "two") = some (.ref x2)) (hm3 : m (Str.ofString "three") = some (.ref x3)) (hn : -15 ≤ n ∧ n ≤ 15) (hs1 : Sm r1) (hs2 : Sm r2) (hs3 : Sm r3) (hc0 : c0.data = .cell (some (.ref rl))) (hc1 : c1.data = .cell (some (.int n tn))) (hc2 : c2.data = .cell (some (.ref x1))) (hc3 : c3.data = .cell (some (.ref pl))) (hc4 : c4.data = .cell (none)) (N : News h₀ L s.heap ((pl, listOf ([.ref p1, .ref p2, .ref p3] : List Value).toArray np) :: (p1, tup2 r1.num r1.den tu1 tv1 tn1) :: (p2, tup2 r2.num r2.den tu2 tv2 tn2) :: (p3, tup2 r3.num r3.den tu3 tv3 tn3) :: (rl, listOf ([.ref x1, .ref x2, .ref x3] : List Value).toArray nr) :: (x1, instObj 165 d1) :: (d1, fdict w r1.num r1.den u1 v1 y1 z1 k1) :: (x2, instObj 165 d2) :: (d2, fdict w r2.num r2.den u2 v2 y2 z2 k2) :: (x3, instObj 165 d3) :: (d3, fdict w r3.num r3.den u3 v3 y3 z3 k3) :: (L + 1 + 1 + 1 + 1 + 1, c4) :: (L + 1 + 1 + 1 + 1, c3) :: (L + 1 + 1 + 1, c2) :: (L + 1 + 1, c1) :: (L + 1, c0) :: te)) (hret : ∀ h' tk', Fr h₀ L h' m → News h₀ L h' ((pl, listOf ([.ref p1, .ref p2, .ref p3] : List Value).toArray np) :: (p1, tup2 r1.num r1.den tu1 tv1 tn1) :: (p2, tup2 r2.num r2.den tu2 tv2 tn2) :: (p3, tup2 r3.num r3.den tu3 tv3 tn3) :: (rl, listOf ([.ref x1, .ref x2, .ref x3] : List Value).toArray nr) :: (x1, instObj 165 d1) :: (d1, fdict w r1.num r1.den u1 v1 y1 z1 k1) :: (x2, instObj 165 d2) :: (d2, fdict w r2.num r2.den u2 v2 y2 z2 k2) :: (x3, instObj 165 d3) :: (d3, fdict w r3.num r3.den u3 v3 y3 z3 k3) :: (L + 1 + 1 + 1 + 1 + 1, c4) :: (L + 1 + 1 + 1 + 1, c3) :: (L + 1 + 1 + 1, c2) :: (L + 1 + 1, c1) :: (L + 1, c0) :: te) → Q .next { s with heap := h', toks := tk' }),
    wpAny (model PySem.Challenge.rw_at5001_01.row.prog w) (callerA.deeper (lawEnv sc L fa)) (exec t (lawEnv sc L fa)) Q E s := by
  k_fill
  intro w sc fa p loose mean mg mb h₀ L m s Q E t ht hsc B F X T C hL te pl rl np nr r1 x1 d1 u1 v1 y1 z1 k1 p1 tu1 tv1 tn1 r2 x2 d2 u2 v2 y2 z2 k2 p2 tu2 tv2 tn2 r3 x3 d3 u3 v3 y3 z3 k3 p3 tu3 tv3 tn3 n tn c0 c1 c2 c3 c4 hm2 hm3 hn hs1 hs2 hs3 hc0 hc1 hc2 hc3 hc4 N hret
  replace hsc : (⟨_, _, _, _, _⟩ : Scope) = _ := hsc
  subst hsc
  replace ht : some _ = some _ := ht
  obtain rfl := Option.some.inj ht
  clear ht
  have hb1 := hs1.bd
  have hb2 := hs2.bd
  have hb3 := hs3.bd
  have z0 : Bd ((0 : Int) : Rat) := bd_int (by decide)
  have z1 : Bd ((1 : Int) : Rat) := bd_int (by decide)
  have b01 : Bd (((0 : Int) : Rat) + r1) := bd_r0 hb1
  have b12 : Bd (r1 + r2) := Sm.add hs1 hs2
  have b012 : Bd (((0 : Int) : Rat) + r1 + r2) := bd_r00 b12
  have hn0 : -15 ≤ 0 + n ∧ 0 + n ≤ 15 := by omega
  have bn : Bd ((n : Int) : Rat) := bd_int (by omega)
  have bn0 : Bd ((0 + n : Int) : Rat) := bd_int (by omega)
  have bn1 : Bd (((n : Int) : Rat) + r1) := bd_n1 hn hs1
  have bn2 : Bd (((n : Int) : Rat) + r1 + r2) := bd_n2 hn hs1 hs2
  have bm1 : Bd (((0 + n : Int) : Rat) + r1) := bd_n1 hn0 hs1
  have bm2 : Bd (((0 + n : Int) : Rat) + r1 + r2) := bd_n2 hn0 hs1 hs2
  have e1 : ¬ ((!decide (((0 : Int) : Rat) + r1 + r2 + r3 = r1 + r2 + r3)) = true) := not_ne (by rw [show ((0 : Int) : Rat) = 0 from rfl, Rat.zero_add])
  have e2 : ¬ ((!decide (((0 + n : Int) : Rat) + r1 + r2 + r3 = ((n : Int) : Rat) + r1 + r2 + r3)) = true) := not_ne (by rw [Int.zero_add])
  have e3 : ¬ ((!decide (r1 - r1 = ((0 : Int) : Rat))) = true) := not_ne (by rw [show ((0 : Int) : Rat) = 0 from rfl, Rat.sub_self])
  have e4 : ¬ ((!decide (r1 + ((0 : Int) : Rat) = r1)) = true) := not_ne (by rw [show ((0 : Int) : Rat) = 0 from rfl, Rat.add_zero])
  have e5 : ¬ ((!decide (r1 * ((1 : Int) : Rat) = r1)) = true) := not_ne (by rw [show ((1 : Int) : Rat) = 1 from rfl, Rat.mul_one])
  k_steps
  all_goals (
    refine' hret _ _ ?qf ?qn
    (case qf => assumption)
    (case qn => first | assumption | (refine' cb_drop ?qN ?qS; (case qN => assumption); (case qS => (repeat (first | exact List.forall_mem_nil _ | exact fun _ h => h | (intro p hp; ((repeat (first | exact hp | refine List.Mem.tail _ ?_)); done)) | (refine List.forall_mem_cons.mpr ⟨by k_mem, ?_⟩))))))
)
end
section
local macro_rules | `(tactic| walk_at "subscriptTail Name Subscript ref int") => `(tactic| (k_here; (with_reducible show wpAny _ _ (subscriptTail _ _ (Value.ref _) (Value.int _ _)) _ _ _); k_dflt (refine' item_at ?k1 ?k2 ?k3 ?k4 ?k5 ?_ ?k6; (case k1 => k_asm); (case k2 => k_mem); (case k3 => first | assumption | omega); (case k4 => first | assumption | omega); (case k5 => assumption); (case k6 => with_unfolding_all rfl); k_whole)))
local macro_rules | `(tactic| walk_at "ite") => `(tactic| (k_here; (with_reducible refine ite_neg ?qi ?_); (case qi => first | assumption | exact not_ne (max_eq (by assumption) (by assumption)) | exact not_ne (min_eq (by assumption) (by assumption)))))
local macro_rules | `(tactic| lcg_off) => `(tactic| assumption)
local macro_rules | `(tactic| walk_at "CompRest") => `(tactic| (with_unfolding_all first
  | (refine LCg.CompRest.succ ?_; intro v' I' oI' C' oC' D' m' h' tk' E' hv' hC' hx' F' N' off' ne'; (first | lcg_open hv' | (obtain ⟨t9', hv9'⟩ := hv'; subst hv9')))
  | refine LCg.CompRest.zero ?_))
local macro_rules | `(tactic| walk_at "FinE") => `(tactic| ((unfold LCg.FinE); intro D' h' tk' F' N' o1'; clear o1'; (try simp only [List.nil_append, List.cons_append] at N'); (try dsimp only)))
local macro_rules | `(tactic| walk_at "eval ListComp") => `(tactic| (k_here; lcg_look; lcg_calm; k_dflt (refine LCg.ListComp_U (F₀ := by k_asm) (by rfl) (by decide) (by rfl) (by decide) (by rfl) ?_); k_dflt lcg_toSrc))
local macro_rules | `(tactic| walk_at "CompSrc") => `(tactic| (k_here; k_dflt (refine LCg.CompSrc.ledger (by rfl) (by k_asm) (by k_asm) (by k_mem) (by first | size_fits | exact Nat.le_of_ble_eq_true rfl) ?_; intro g'; lcg_lit)))
local macro_rules | `(tactic| walk_at "CompEnd") => `(tactic| (k_dflt (refine' LCg.CompEnd.intro ?qF ?qN _ (fun p hp => hp) ?qo ?qs ?_; (case qF => k_asm); (case qN => k_asm); (case qo => assumption); (case qs => lcg_src))))
local macro_rules | `(tactic| walk_at "call builtin:max") => `(tactic| (k_here; (with_reducible show wpAny _ _ (call (Value.builtin _) [Value.ref _]) _ _ _); k_dflt (refine' does_use (max_f ?ql ?x1 ?d1 ?x2 ?d2 ?x3 ?d3 ?v1 ?v2 ?v3) ?k1 ?k2 ?k3 ?k4 ?k5 ?kK ?kd ?ku ?_; (case k1 => k_asm); (case k2 => k_asm); (case k3 => k_asm); (case k4 => k_asm); (case k5 => k_asm); (case kK => first | exact rfl | assumption); (case kd => k_room); (case ku => ktr_units); (case ql => k_mem); (case x1 => k_mem); (case d1 => k_mem); (case x2 => k_mem); (case d2 => k_mem); (case x3 => k_mem); (case d3 => k_mem); (case v1 => assumption); (case v2 => assumption); (case v3 => assumption); k_whole; intro y' dy' q' t1' t2' t3' t4' k' hy' hdy' hb' hm' h' tk' F' N'; (have N2' := news_dup2 hy' hdy' N'); clear hy' hdy' N'; (try k_sweep); (try dsimp only [PySem.W.CmpBack, PySem.W.LenBack, PySem.W.StrBack, PySem.W.BoolBack, Mine.NotBack]); (try dsimp only))))
local macro_rules | `(tactic| walk_at "call builtin:min") => `(tactic| (k_here; (with_reducible show wpAny _ _ (call (Value.builtin _) [Value.ref _]) _ _ _); k_dflt (refine' does_use (min_f ?ql ?x1 ?d1 ?x2 ?d2 ?x3 ?d3 ?v1 ?v2 ?v3) ?k1 ?k2 ?k3 ?k4 ?k5 ?kK ?kd ?ku ?_; (case k1 => k_asm); (case k2 => k_asm); (case k3 => k_asm); (case k4 => k_asm); (case k5 => k_asm); (case kK => first | exact rfl | assumption); (case kd => k_room); (case ku => ktr_units); (case ql => k_mem); (case x1 => k_mem); (case d1 => k_mem); (case x2 => k_mem); (case d2 => k_mem); (case x3 => k_mem); (case d3 => k_mem); (case v1 => assumption); (case v2 => assumption); (case v3 => assumption); k_whole; intro y' dy' q' t1' t2' t3' t4' k' hy' hdy' hb' hm' h' tk' F' N'; (have N2' := news_dup2 hy' hdy' N'); clear hy' hdy' N'; (try k_sweep); (try dsimp only [PySem.W.CmpBack, PySem.W.LenBack, PySem.W.StrBack, PySem.W.BoolBack, Mine.NotBack]); (try dsimp only))))
local macro_rules | `(tactic| walk_at "call builtin:sorted") => `(tactic| (k_here; (with_reducible show wpAny _ _ (call (Value.builtin _) [Value.ref _]) _ _ _); k_dflt (refine' does_use (sorted_f ?x1 ?d1 ?b1 ?x2 ?d2 ?b2 ?x3 ?d3 ?b3 ?ql) ?k1 ?k2 ?k3 ?k4 ?k5 ?kK ?kd ?ku ?_; (case k1 => k_asm); (case k2 => k_asm); (case k3 => k_asm); (case k4 => k_asm); (case k5 => k_asm); (case kK => first | exact rfl | assumption); (case kd => k_room); (case ku => ktr_units); (case ql => k_mem); (case x1 => k_mem); (case d1 => k_mem); (case b1 => assumption); (case x2 => k_mem); (case d2 => k_mem); (case b2 => assumption); (case x3 => k_mem); (case d3 => k_mem); (case b3 => assumption); k_whole; intro D' c' s1' s2' s3' w1' w2' w3' l1 hs' h' tk' F' N'; clear l1; (try k_sweep); (try dsimp only))))
local macro_rules | `(tactic| walk_at "compareOp NotEq ref ref") => `(tactic| (k_here; (with_reducible show wpAny _ _ (compareOp CmpOp.NotEq (Value.ref _) (Value.ref _)) _ _ _); k_dflt (refine' does_use (ne_srt ?qh ?qk ?ql ?qb ?m1 ?m2 ?m3) ?k1 ?k2 ?k3 ?k4 ?k5 ?kK ?kd ?ku ?_; (case k1 => k_asm); (case k2 => k_asm); (case k3 => k_asm); (case k4 => k_asm); (case k5 => k_asm); (case kK => first | exact rfl | assumption); (case kd => k_room); (case ku => ktr_units); (case ql => k_mem); (case qb => k_mem); (case qh => assumption); (case qk => assumption); (case m1 => exact ⟨_, _, _, _, _, _, by k_mem, by k_mem⟩); (case m2 => exact ⟨_, _, _, _, _, _, by k_mem, by k_mem⟩); (case m3 => exact ⟨_, _, _, _, _, _, by k_mem, by k_mem⟩); k_whole; intro h' tk' F' N'; (try k_sweep); (try dsimp only [PySem.W.CmpBack, PySem.W.LenBack, PySem.W.StrBack, PySem.W.BoolBack, Mine.NotBack]); (try dsimp only))))
local macro_rules | `(tactic| walk_at "compareOp NotEq ref ref") => `(tactic| (k_here; (with_reducible show wpAny _ _ (compareOp CmpOp.NotEq (Value.ref _) _) _ _ _); (refine cmp_ofNotEq ?_); k_dflt (refine' ne_K ?k1 ?k2 ?k3 ?k4 ?k5 ?k6 ?k7 ?k8 ?k9 ?k10 ?_; (case k1 => k_units); (case k2 => k_asm); (case k3 => k_asm); (case k4 => k_inst); (case k5 => k_typeOf); (case k6 => k_is); (case k7 => k_is); (case k8 => k_is); (case k9 => k_is); (case k10 => k_is); k_whole)))
theorem segA12 : ∀ {w : World} {sc : Scope} {fa : Addr} {p : Program} {loose : List Str} {mean : ExcName → Option Value} {mg mb : Str → Option Value} {h₀ : Heap} {L : Addr} {m : Str → Option Value} {s : Shared} {Q : Flow → Shared → Prop} {E : Value → Shared → Prop} {t : Stmt} (ht : lawParts.1[12]? = some t) (hsc : lawParts.2 = sc) (B : Below callerA h₀ [] h₀) (F : Fr h₀ L s.heap m) (X : (Mine.hd.heap_39 w.params).In h₀) (T : Top p loose mean mg mb h₀) (C : CodeHd h₀ 215 213) (hL : 213 < L) {te : Led} {ol : Addr} {no : Nat} {wh : Int} {tw : Tok} {zq0 ze0 : Addr} {q0 : Rat} {zg0 zj0 zl0 zo0 : Tok} {zn0 : Nat} {o0 : Int} {to0 : Tok} {zq1 ze1 : Addr} {q1 : Rat} {zg1 zj1 zl1 zo1 : Tok} {zn1 : Nat} {o1 : Int} {to1 : Tok} {zq2 ze2 : Addr} {q2 : Rat} {zg2 zj2 zl2 zo2 : Tok} {zn2 : Nat} {o2 : Int} {to2 : Tok} {pl rl : Addr} {np nr : Nat} {r1 : Rat} {x1 d1 : Addr} {u1 v1 y1 z1 : Tok} {k1 : Nat} {p1 : Addr} {tu1 tv1 : Tok} {tn1 : Nat} {r2 : Rat} {x2 d2 : Addr} {u2 v2 y2 z2 : Tok} {k2 : Nat} {p2 : Addr} {tu2 tv2 : Tok} {tn2 : Nat} {r3 : Rat} {x3 d3 : Addr} {u3 v3 y3 z3 : Tok} {k3 : Nat} {p3 : Addr} {tu3 tv3 : Tok} {tn3 : Nat} {n : Int} {tn : Tok} {c0 c1 c2 c3 c4 : Obj} (hm4 : m (Str.ofString "order") = some (.ref ol)) (ho0 : 0 ≤ o0 ∧ o0 < 3) (hz0 : ([.ref x1, .ref x2, .ref x3] : List Value)[o0.toNat]? = some (.ref zq0)) (ho1 : 0 ≤ o1 ∧ o1 < 3) (hz1 : ([.ref x1, .ref x2, .ref x3] : List Value)[o1.toNat]? = some (.ref zq1)) (ho2 : 0 ≤ o2 ∧ o2 < 3) (hz2 : ([.ref x1, .ref x2, .ref x3] : List Value)[o2.toNat]? = some (.ref zq2)) (hsrt : Srt r1 r2 r3 x1 x2 x3 q0 q1 q2 zq0 zq1 zq2) (hs1 : Sm r1) (hs2 : Sm r2) (hs3 : Sm r3) (hc0 : c0.data = .cell (some (.ref rl))) (hc1 : c1.data = .cell (some (.int n tn))) (hc2 : c2.data = .cell (some (.ref x1))) (hc3 : c3.data = .cell (some (.ref pl))) (hc4 : c4.data = .cell (some (.int wh tw))) (N : News h₀ L s.heap ((zq0, instObj 165 ze0) :: (ze0, fdict w q0.num q0.den zg0 zj0 zl0 zo0 zn0) :: (zq1, instObj 165 ze1) :: (ze1, fdict w q1.num q1.den zg1 zj1 zl1 zo1 zn1) :: (zq2, instObj 165 ze2) :: (ze2, fdict w q2.num q2.den zg2 zj2 zl2 zo2 zn2) :: (ol, listOf #[.int o0 to0, .int o1 to1, .int o2 to2] no) :: (pl, listOf ([.ref p1, .ref p2, .ref p3] : List Value).toArray np) :: (p1, tup2 r1.num r1.den tu1 tv1 tn1) :: (p2, tup2 r2.num r2.den tu2 tv2 tn2) :: (p3, tup2 r3.num r3.den tu3 tv3 tn3) :: (rl, listOf ([.ref x1, .ref x2, .ref x3] : List Value).toArray nr) :: (x1, instObj 165 d1) :: (d1, fdict w r1.num r1.den u1 v1 y1 z1 k1) :: (x2, instObj 165 d2) :: (d2, fdict w r2.num r2.den u2 v2 y2 z2 k2) :: (x3, instObj 165 d3) :: (d3, fdict w r3.num r3.den u3 v3 y3 z3 k3) :: (L + 1 + 1 + 1 + 1 + 1, c4) :: (L + 1 + 1 + 1 + 1, c3) :: (L + 1 + 1 + 1, c2) :: (L + 1 + 1, c1) :: (L + 1, c0) :: te)) (hret : ∀ h' tk', Fr h₀ L h' m → News h₀ L h' ((pl, listOf ([.ref p1, .ref p2, .ref p3] : List Value).toArray np) :: (p1, tup2 r1.num r1.den tu1 tv1 tn1) :: (p2, tup2 r2.num r2.den tu2 tv2 tn2) :: (p3, tup2 r3.num r3.den tu3 tv3 tn3) :: (rl, listOf ([.ref x1, .ref x2, .ref x3] : List Value).toArray nr) :: (x1, instObj 165 d1) :: (d1, fdict w r1.num r1.den u1 v1 y1 z1 k1) :: (x2, instObj 165 d2) :: (d2, fdict w r2.num r2.den u2 v2 y2 z2 k2) :: (x3, instObj 165 d3) :: (d3, fdict w r3.num r3.den u3 v3 y3 z3 k3) :: (L + 1 + 1 + 1 + 1 + 1, c4) :: (L + 1 + 1 + 1 + 1, c3) :: (L + 1 + 1 + 1, c2) :: (L + 1 + 1, c1) :: (L + 1, c0) :: te) → Q .next { s with heap := h', toks := tk' }),
    wpAny (model PySem.Challenge.rw_at5001_01.row.prog w) (callerA.deeper (lawEnv sc L fa)) (exec t (lawEnv sc L fa)) Q E s := by
  k_fill
  intro w sc fa p loose mean mg mb h₀ L m s Q E t ht hsc B F X T C hL te ol no wh tw zq0 ze0 q0 zg0 zj0 zl0 zo0 zn0 o0 to0 zq1 ze1 q1 zg1 zj1 zl1 zo1 zn1 o1 to1 zq2 ze2 q2 zg2 zj2 zl2 zo2 zn2 o2 to2 pl rl np nr r1 x1 d1 u1 v1 y1 z1 k1 p1 tu1 tv1 tn1 r2 x2 d2 u2 v2 y2 z2 k2 p2 tu2 tv2 tn2 r3 x3 d3 u3 v3 y3 z3 k3 p3 tu3 tv3 tn3 n tn c0 c1 c2 c3 c4 hm4 ho0 hz0 ho1 hz1 ho2 hz2 hsrt hs1 hs2 hs3 hc0 hc1 hc2 hc3 hc4 N hret
  replace hsc : (⟨_, _, _, _, _⟩ : Scope) = _ := hsc
  subst hsc
  replace ht : some _ = some _ := ht
  obtain rfl := Option.some.inj ht
  clear ht
  have hb1 := hs1.bd
  have hb2 := hs2.bd
  have hb3 := hs3.bd
  have hp0 := ho0.1
  have hq0 : o0 < 2 ^ 63 := by omega
  have hp1 := ho1.1
  have hq1 : o1 < 2 ^ 63 := by omega
  have hp2 := ho2.1
  have hq2 : o2 < 2 ^ 63 := by omega
  k_steps
  all_goals (
    refine' hret _ _ ?qf ?qn
    (case qf => assumption)
    (case qn => first | assumption | (refine' cb_drop ?qN ?qS; (case qN => assumption); (case qS => (repeat (first | exact List.forall_mem_nil _ | exact fun _ h => h | (intro p hp; ((repeat (first | exact hp | refine List.Mem.tail _ ?_)); done)) | (refine List.forall_mem_cons.mpr ⟨by k_mem, ?_⟩))))))
)
end
end
end
section
local macro_rules | `(tactic| walk_at "call ref") => `(tactic| (k_here; (with_reducible show wpAny _ _ (call (Value.ref _) []) _ _ _); (with_reducible rename Raises _ _ _ _ _ => hRz); k_dflt (refine' raises_use hRz ?k1 ?k2 ?k3 ?k4 ?k5 ?kK ?kd ?ku ?_; (case k1 => k_asm); (case k2 => k_asm); (case k3 => k_asm); (case k4 => k_asm); (case k5 => k_asm); (case kK => first | exact rfl | assumption); (case kd => k_room); (case ku => ktr_units); k_whole; intro g' e' h' tk' F' R' U'; (try dsimp only))))
local macro_rules | `(tactic| walk_at "call ref") => `(tactic| (k_here; (with_reducible show wpAny _ _ (call (Value.ref 165) [_, _]) _ _ _); k_dflt (refine' raises_use (new_zero ?qn1 ?qn2 ?qz ?qb) ?k1 ?k2 ?k3 ?k4 ?k5 ?kK ?kd ?ku ?_; (case k1 => k_asm); (case k2 => k_asm); (case k3 => k_asm); (case k4 => k_asm); (case k5 => k_asm); (case kK => first | exact rfl | assumption); (case kd => k_room); (case ku => ktr_units); (case qn1 => first | exact NumAt.int _ _ | exact NumAt.frac (by k_mem) (by k_mem) | assumption | exact NumAt.cons (by assumption) | exact NumAt.cons (NumAt.cons (by assumption)) | exact NumAt.cons (NumAt.cons (NumAt.cons (by assumption)))); (case qn2 => first | exact NumAt.int _ _ | exact NumAt.frac (by k_mem) (by k_mem) | assumption | exact NumAt.cons (by assumption) | exact NumAt.cons (NumAt.cons (by assumption)) | exact NumAt.cons (NumAt.cons (NumAt.cons (by assumption)))); (case qz => assumption); (case qb => first | assumption | exact Bd.neg (by assumption)); k_whole; intro g' e' h' tk' F' R' U'; (try dsimp only))))
local macro_rules | `(tactic| walk_at "call ref") => `(tactic| (k_here; (with_reducible show wpAny _ _ (call (Value.ref 120) [Value.ref _, _]) _ _ _); k_dflt (refine' raises_use (div_zero ?qx ?qdx ?qb ?qn ?qz) ?k1 ?k2 ?k3 ?k4 ?k5 ?kK ?kd ?ku ?_; (case k1 => k_asm); (case k2 => k_asm); (case k3 => k_asm); (case k4 => k_asm); (case k5 => k_asm); (case kK => first | exact rfl | assumption); (case kd => k_room); (case ku => ktr_units); (case qx => k_mem); (case qdx => k_mem); (case qb => first | assumption | exact Bd.neg (by assumption)); (case qn => first | exact NumAt.int _ _ | exact NumAt.frac (by k_mem) (by k_mem) | assumption | exact NumAt.cons (by assumption) | exact NumAt.cons (NumAt.cons (by assumption)) | exact NumAt.cons (NumAt.cons (NumAt.cons (by assumption)))); (case qz => assumption); k_whole; intro g' e' h' tk' F' R' U'; (try dsimp only))))
local macro_rules | `(tactic| walk_at "call ref") => `(tactic| (k_here; (with_reducible show wpAny _ _ (call (Value.ref 127) [Value.ref _, Value.int _ _]) _ _ _); k_dflt (refine' raises_use (rdiv_zero ?qx ?qdx ?qc ?qz) ?k1 ?k2 ?k3 ?k4 ?k5 ?kK ?kd ?ku ?_; (case k1 => k_asm); (case k2 => k_asm); (case k3 => k_asm); (case k4 => k_asm); (case k5 => k_asm); (case kK => first | exact rfl | assumption); (case kd => k_room); (case ku => ktr_units); (case qx => k_mem); (case qdx => k_mem); (case qc => first | assumption | exact Bd.neg (by assumption)); (case qz => assumption); k_whole; intro g' e' h' tk' F' R' U'; (try dsimp only))))
local macro_rules | `(tactic| walk_at "call builtin:isinstance") => `(tactic| (k_here; (with_reducible show wpAny _ _ (call _ [Value.float _ _, Value.ref _]) _ _ _); k_dflt (refine' isn_call (P := fun _ => True) ?k1 ?k2 ?k3 ?k4 ?k5 float_cls ?_; (case k1 => k_in); (case k2 => (intro M; exact Looks.of_pure rfl)); (case k3 => k_not); (case k4 => intro e; cases e); (case k5 => trivial); k_whole)))
local macro_rules | `(tactic| walk_at "call ref") => `(tactic| (k_here; (with_reducible show wpAny _ _ (call (Value.ref 21) [Value.str _ _]) _ _ _); k_dflt (refine' raises_use (parts_str ) ?k1 ?k2 ?k3 ?k4 ?k5 ?kK ?kd ?ku ?_; (case k1 => k_asm); (case k2 => k_asm); (case k3 => k_asm); (case k4 => k_asm); (case k5 => k_asm); (case kK => first | exact rfl | assumption); (case kd => k_room); (case ku => ktr_units); k_whole; intro g' e' h' tk' F' R' U'; (try dsimp only))))
local macro_rules | `(tactic| walk_at "call ref") => `(tactic| (k_here; (with_reducible show wpAny _ _ (call (Value.ref 21) [Value.float _ _]) _ _ _); k_dflt (refine' raises_use (parts_float ) ?k1 ?k2 ?k3 ?k4 ?k5 ?kK ?kd ?ku ?_; (case k1 => k_asm); (case k2 => k_asm); (case k3 => k_asm); (case k4 => k_asm); (case k5 => k_asm); (case kK => first | exact rfl | assumption); (case kd => k_room); (case ku => ktr_units); k_whole; intro g' e' h' tk' F' R' U'; (try dsimp only))))
local macro_rules | `(tactic| walk_at "call ref") => `(tactic| (k_here; (with_reducible show wpAny _ _ (call (Value.ref 21) [Value.none]) _ _ _); k_dflt (refine' raises_use (parts_none ) ?k1 ?k2 ?k3 ?k4 ?k5 ?kK ?kd ?ku ?_; (case k1 => k_asm); (case k2 => k_asm); (case k3 => k_asm); (case k4 => k_asm); (case k5 => k_asm); (case kK => first | exact rfl | assumption); (case kd => k_room); (case ku => ktr_units); k_whole; intro g' e' h' tk' F' R' U'; (try dsimp only))))
local macro_rules | `(tactic| walk_at "call ref") => `(tactic| (k_here; (with_reducible show wpAny _ _ (call (Value.ref 165) [Value.str _ _]) _ _ _); k_dflt (refine' raises_use (new_str ) ?k1 ?k2 ?k3 ?k4 ?k5 ?kK ?kd ?ku ?_; (case k1 => k_asm); (case k2 => k_asm); (case k3 => k_asm); (case k4 => k_asm); (case k5 => k_asm); (case kK => first | exact rfl | assumption); (case kd => k_room); (case ku => ktr_units); k_whole; intro g' e' h' tk' F' R' U'; (try dsimp only))))
local macro_rules | `(tactic| walk_at "call ref") => `(tactic| (k_here; (with_reducible show wpAny _ _ (call (Value.ref 165) [Value.int _ _, Value.float _ _]) _ _ _); k_dflt (refine' raises_use (new_float ) ?k1 ?k2 ?k3 ?k4 ?k5 ?kK ?kd ?ku ?_; (case k1 => k_asm); (case k2 => k_asm); (case k3 => k_asm); (case k4 => k_asm); (case k5 => k_asm); (case kK => first | exact rfl | assumption); (case kd => k_room); (case ku => ktr_units); k_whole; intro g' e' h' tk' F' R' U'; (try dsimp only))))
local macro_rules | `(tactic| walk_at "call ref") => `(tactic| (k_here; (with_reducible show wpAny _ _ (call (Value.ref 78) [Value.ref _, Value.float _ _]) _ _ _); k_dflt (refine' raises_use (add_float ) ?k1 ?k2 ?k3 ?k4 ?k5 ?kK ?kd ?ku ?_; (case k1 => k_asm); (case k2 => k_asm); (case k3 => k_asm); (case k4 => k_asm); (case k5 => k_asm); (case kK => first | exact rfl | assumption); (case kd => k_room); (case ku => ktr_units); k_whole; intro g' e' h' tk' F' R' U'; (try dsimp only))))
local macro_rules | `(tactic| walk_at "call ref") => `(tactic| (k_here; (with_reducible show wpAny _ _ (call (Value.ref 106) [Value.ref _, Value.str _ _]) _ _ _); k_dflt (refine' raises_use (mul_str ) ?k1 ?k2 ?k3 ?k4 ?k5 ?kK ?kd ?ku ?_; (case k1 => k_asm); (case k2 => k_asm); (case k3 => k_asm); (case k4 => k_asm); (case k5 => k_asm); (case kK => first | exact rfl | assumption); (case kd => k_room); (case ku => ktr_units); k_whole; intro g' e' h' tk' F' R' U'; (try dsimp only))))
local macro_rules | `(tactic| walk_at "call ref") => `(tactic| (k_here; (with_reducible show wpAny _ _ (call (Value.ref 141) [Value.ref _, Value.str _ _]) _ _ _); k_dflt (refine' raises_use (lt_str ) ?k1 ?k2 ?k3 ?k4 ?k5 ?kK ?kd ?ku ?_; (case k1 => k_asm); (case k2 => k_asm); (case k3 => k_asm); (case k4 => k_asm); (case k5 => k_asm); (case kK => first | exact rfl | assumption); (case kd => k_room); (case ku => ktr_units); k_whole; intro g' e' h' tk' F' R' U'; (try dsimp only))))
local macro_rules | `(tactic| walk_at "call ref") => `(tactic| (k_here; (with_reducible show wpAny _ _ (call (Value.ref 148) [Value.ref _, Value.none]) _ _ _); k_dflt (refine' raises_use (le_none ) ?k1 ?k2 ?k3 ?k4 ?k5 ?kK ?kd ?ku ?_; (case k1 => k_asm); (case k2 => k_asm); (case k3 => k_asm); (case k4 => k_asm); (case k5 => k_asm); (case kK => first | exact rfl | assumption); (case kd => k_room); (case ku => ktr_units); k_whole; intro g' e' h' tk' F' R' U'; (try dsimp only))))
local macro_rules | `(tactic| walk_at "call ref") => `(tactic| (k_here; (with_reducible show wpAny _ _ (call (Value.ref 134) [Value.ref _, Value.float _ _]) _ _ _); k_dflt (refine' does_use (eq_float ) ?k1 ?k2 ?k3 ?k4 ?k5 ?kK ?kd ?ku ?_; (case k1 => k_asm); (case k2 => k_asm); (case k3 => k_asm); (case k4 => k_asm); (case k5 => k_asm); (case kK => first | exact rfl | assumption); (case kd => k_room); (case ku => ktr_units); k_whole; intro h' tk' F' N'; (try k_sweep); (try dsimp only [PySem.W.CmpBack, PySem.W.LenBack, PySem.W.StrBack, PySem.W.BoolBack, Mine.NotBack]); (try dsimp only))))
local macro_rules | `(tactic| walk_at "eval Name") => `(tactic| (k_here; name_kind "free"; k_dflt (refine' nameX_F ?N ?c ?m ?d ?_ ?a ?b; (case a => rfl); (case b => rfl); (case N => k_asm); (case c => rfl); (case m => k_mem); (case d => k_asm); k_whole)))
local macro_rules | `(tactic| k_mem) => `(tactic| ((repeat ((show (_ : Addr × Obj) ∈ (_ : List (Addr × Obj))); first | ((with_reducible refine List.mem_append_left _ ?_); ktr_member) | ((with_reducible refine List.mem_append_right _ ?_); ktr_member) | exact List.Mem.head _ | ktr_member | refine List.Mem.tail _ ?_)); done))
local macro_rules | `(tactic| kn_code) => `(tactic| exact codeHd_of_K (by assumption) (by kernel_rfl))
local macro_rules | `(tactic| walk_at "eval Name") => `(tactic| (k_here; name_kind "local"; k_dflt (refine' nameX_L ?F ?v ?_ ?a ?b; (case F => k_asm); (case a => rfl); (case b => rfl); (case v => assumption); k_whole)))
local macro_rules | `(tactic| walk_at "subscriptTail") => `(tactic| (k_here; (with_reducible show wpAny _ _ (subscriptTail _ _ (Value.ref _) (Value.int _ _)) _ _ _); k_dflt (refine' item_at ?k1 ?k2 ?k3 ?k4 ?k5 ?_ ?k6; (case k1 => k_asm); (case k2 => k_mem); (case k3 => first | assumption | omega); (case k4 => first | assumption | omega); (case k5 => assumption); (case k6 => with_unfolding_all rfl); k_whole)))
local macro_rules | `(tactic| walk_at "subscriptTail Name Name ref int") => `(tactic| (k_here; (with_reducible show wpAny _ _ (subscriptTail _ _ (Value.ref _) (Value.int _ _)) _ _ _); k_dflt (refine' item_at ?k1 ?k2 ?k3 ?k4 ?k5 ?_ ?k6; (case k1 => k_asm); (case k2 => k_mem); (case k3 => first | assumption | omega); (case k4 => first | assumption | omega); (case k5 => assumption); (case k6 => with_unfolding_all rfl); k_whole)))
local macro_rules | `(tactic| walk_at "subscriptTail Name BinOp ref int") => `(tactic| (k_here; (with_reducible show wpAny _ _ (subscriptTail _ _ (Value.ref _) (Value.int _ _)) _ _ _); k_dflt (refine' item_at ?k1 ?k2 ?k3 ?k4 ?k5 ?_ ?k6; (case k1 => k_asm); (case k2 => k_mem); (case k3 => first | assumption | omega); (case k4 => first | assumption | omega); (case k5 => assumption); (case k6 => with_unfolding_all rfl); k_whole)))
local macro_rules | `(tactic| walk_at "subscriptTail Subscript Constant ref int") => `(tactic| (k_here; (with_reducible show wpAny _ _ (subscriptTail _ _ (Value.ref _) (Value.int _ _)) _ _ _); k_dflt (refine' item_at ?k1 ?k2 ?k3 ?k4 ?k5 ?_ ?k6; (case k1 => k_asm); (case k2 => k_mem); (case k3 => first | assumption | omega); (case k4 => first | assumption | omega); (case k5 => assumption); (case k6 => with_unfolding_all rfl); k_whole)))
local macro_rules | `(tactic| k_all) => `(tactic| assumption)
local macro_rules | `(tactic| k_room) => `(tactic| ((try simp only [depth_mark, depth_under_make, depth_under_kw, depth_in1, depth_deeper, depth_caller, ktrTop]); first | omega | decide))
local macro_rules | `(tactic| ktr_units) => `(tactic| ((have hcL9 := cLine_is); (try simp only [units_under_make, units_in1, units_deeper, Around.mark_units, units_caller, ktrTop]); omega))
section
local macro_rules | `(tactic| walk_at "subscriptTail Subscript") => `(tactic| (k_here; (with_reducible show wpAny _ _ (subscriptTail _ _ (Value.ref _) (Value.int _ _)) _ _ _); k_dflt (refine' item_tupleT ?t ?a ?b ?c ?d ?_; (case t => exact News.isTup (by k_asm) (by k_mem)); (case a => decide); (case b => decide); (case c => rfl); (case d => rfl); k_whole)))
local macro_rules | `(tactic| walk_at "subscriptTail Name Constant ref int") => `(tactic| (k_here; (with_reducible show wpAny _ _ (subscriptTail _ _ (Value.ref _) (Value.int _ _)) _ _ _); (with_unfolding_all refine' item_litK ?k1 ?k2 ?k3 ?k4 ?_ ?k6; (case k1 => is_list); (case k2 => decide); (case k3 => decide); (case k4 => rfl); (case k6 => with_unfolding_all rfl); k_whole)))
local macro_rules | `(tactic| walk_at "eval Lambda") => `(tactic| (k_here; (with_reducible rename IsRange _ _ _ _ _ _ _ _ => lR); k_dflt (have lN2 := range_in (by assumption) (by assumption) lR (by assumption)); k_dflt (refine' kla_eval ?d0 ?_; (case d0 => exact rfl)); k_dflt (refine' lam_te (qual := q0) ?hS ?kF ?kN ?hn ?hNT ?kT ?kC ?cd ?kcl ?_; (case kF => k_asm); (case kN => exact lN2); (case hS => exact Tabs.at0 (by assumption)); (case hn => (repeat (first | exact rfl | exact split_nil | apply split_cons))); (case hNT => (repeat (first | assumption | exact NoTab.nil | refine NoTab.cons (by first | exact noTab_data (by assumption) | (intro ws hw; cases hw; done) | exact noTab_cls (by intro h; cases h) | (intro ws hw; simp_all; done)) ?_))); (case kT => k_asm); (case cd => exact rfl); (case kC => kn_code); (case kcl => exact rfl)); intro f' c' oc' vs' t' ct' pm' te' h' tk' F' N' S' K' hc' hd' hv'; (have TB' := Tabs.lam0 (by assumption) S' K'); clear K' S'; (try simp only [List.cons_append, List.nil_append] at N'); (try k_sweep)))
local macro_rules | `(tactic| walk_at "call builtin:sorted") => `(tactic| (k_here; refine Stop.mk ?_))
theorem segA11 : ∀ {w : World} {sc : Scope} {fa : Addr} {p : Program} {loose : List Str} {mean : ExcName → Option Value} {mg mb : Str → Option Value} {h₀ : Heap} {L : Addr} {m : Str → Option Value} {s : Shared} {Q : Flow → Shared → Prop} {E : Value → Shared → Prop} {t : Stmt} (ht : lawParts.1[11]? = some t) (hsc : lawParts.2 = sc) (B : Below callerA h₀ [] h₀) (F : Fr h₀ L s.heap m) (X : (Mine.hd.heap_39 w.params).In h₀) (T : Top p loose mean mg mb h₀) (C : CodeHd h₀ 215 213) (hL : 213 < L) {te : Led} (TS : Tabs te) {wh : Int} {tw : Tok} (hw : 0 < wh ∧ wh ≤ 1728) {pl rl : Addr} {np nr : Nat} {r1 : Rat} {x1 d1 : Addr} {u1 v1 y1 z1 : Tok} {k1 : Nat} {p1 : Addr} {tu1 tv1 : Tok} {tn1 : Nat} {r2 : Rat} {x2 d2 : Addr} {u2 v2 y2 z2 : Tok} {k2 : Nat} {p2 : Addr} {tu2 tv2 : Tok} {tn2 : Nat} {r3 : Rat} {x3 d3 : Addr} {u3 v3 y3 z3 : Tok} {k3 : Nat} {p3 : Addr} {tu3 tv3 : Tok} {tn3 : Nat} {n : Int} {tn : Tok} {c0 c1 c2 c3 c4 : Obj} (hs1 : Sm r1) (hs2 : Sm r2) (hs3 : Sm r3) (hc0 : c0.data = .cell (some (.ref rl))) (hc1 : c1.data = .cell (some (.int n tn))) (hc2 : c2.data = .cell (some (.ref x1))) (hc3 : c3.data = .cell (some (.ref pl))) (hc4 : c4.data = .cell (some (.int wh tw))) (N : News h₀ L s.heap ((pl, listOf ([.ref p1, .ref p2, .ref p3] : List Value).toArray np) :: (p1, tup2 r1.num r1.den tu1 tv1 tn1) :: (p2, tup2 r2.num r2.den tu2 tv2 tn2) :: (p3, tup2 r3.num r3.den tu3 tv3 tn3) :: (rl, listOf ([.ref x1, .ref x2, .ref x3] : List Value).toArray nr) :: (x1, instObj 165 d1) :: (d1, fdict w r1.num r1.den u1 v1 y1 z1 k1) :: (x2, instObj 165 d2) :: (d2, fdict w r2.num r2.den u2 v2 y2 z2 k2) :: (x3, instObj 165 d3) :: (d3, fdict w r3.num r3.den u3 v3 y3 z3 k3) :: (L + 1 + 1 + 1 + 1 + 1, c4) :: (L + 1 + 1 + 1 + 1, c3) :: (L + 1 + 1 + 1, c2) :: (L + 1 + 1, c1) :: (L + 1, c0) :: te)) (hret : ∀ m' ol no o0 o1 o2 to0 to1 to2 h' tk' te', Tabs te' → Ord (r1.num * wh.fdiv r1.den) (r2.num * wh.fdiv r2.den) (r3.num * wh.fdiv r3.den) o0 o1 o2 → m' (Str.ofString "order") = some (.ref ol) → Fr h₀ L h' m' → News h₀ L h' ((ol, listOf #[.int o0 to0, .int o1 to1, .int o2 to2] no) :: (pl, listOf ([.ref p1, .ref p2, .ref p3] : List Value).toArray np) :: (p1, tup2 r1.num r1.den tu1 tv1 tn1) :: (p2, tup2 r2.num r2.den tu2 tv2 tn2) :: (p3, tup2 r3.num r3.den tu3 tv3 tn3) :: (rl, listOf ([.ref x1, .ref x2, .ref x3] : List Value).toArray nr) :: (x1, instObj 165 d1) :: (d1, fdict w r1.num r1.den u1 v1 y1 z1 k1) :: (x2, instObj 165 d2) :: (d2, fdict w r2.num r2.den u2 v2 y2 z2 k2) :: (x3, instObj 165 d3) :: (d3, fdict w r3.num r3.den u3 v3 y3 z3 k3) :: (L + 1 + 1 + 1 + 1 + 1, c4) :: (L + 1 + 1 + 1 + 1, c3) :: (L + 1 + 1 + 1, c2) :: (L + 1 + 1, c1) :: (L + 1, c0) :: te') → Q .next { s with heap := h', toks := tk' }),
    wpAny (model PySem.Challenge.rw_at5001_01.row.prog w) (callerA.deeper (lawEnv sc L fa)) (exec t (lawEnv sc L fa)) Q E s := by
  k_fill
  intro w sc fa p loose mean mg mb h₀ L m s Q E t ht hsc B F X T C hL te TS wh tw hw pl rl np nr r1 x1 d1 u1 v1 y1 z1 k1 p1 tu1 tv1 tn1 r2 x2 d2 u2 v2 y2 z2 k2 p2 tu2 tv2 tn2 r3 x3 d3 u3 v3 y3 z3 k3 p3 tu3 tv3 tn3 n tn c0 c1 c2 c3 c4 hs1 hs2 hs3 hc0 hc1 hc2 hc3 hc4 N hret
  replace hsc : (⟨_, _, _, _, _⟩ : Scope) = _ := hsc
  subst hsc
  replace ht : some _ = some _ := ht
  obtain rfl := Option.some.inj ht
  clear ht
  have hLs : L < s.heap.objs.size := F.ns.lt
  have hkk : Keys3 (r1.num * wh.fdiv r1.den) (r2.num * wh.fdiv r2.den) (r3.num * wh.fdiv r3.den) := .mk
  k_steps
  all_goals (unfold Stop)
  k_dflt (show wpAny _ _ (call (Value.builtin _) [Value.ref _] [(Str.ofString "key", Value.ref _)]) _ _ _)
  k_dflt (refine' sorted_range3K hkk ?kh ?kF ?kN ?kR ?kT ?kH; (case kh => exact rfl); (case kF => k_asm); (case kN => k_asm); (case kR => exact range_at (by k_asm) (by k_mem)))
  case kT =>
    intro i' t' k' hk' h' tk' own' F' N'
    (try simp only [List.cons_append, List.nil_append, List.append_assoc] at N')
    have hx : ∃ (pt : Addr) (a b : Int) (tu tv : Tok) (tn : Nat), ([.ref p1, .ref p2, .ref p3] : List Value)[((i' : Nat) : Int).toNat]? = some (.ref pt) ∧ (pt, tup2 a b tu tv tn) ∈ ([(p1, tup2 r1.num r1.den tu1 tv1 tn1), (p2, tup2 r2.num r2.den tu2 tv2 tn2), (p3, tup2 r3.num r3.den tu3 tv3 tn3)] : Led) ∧ k' = a * wh.fdiv b ∧ (0 < b ∧ b ≤ 12) ∧ (-20 ≤ a ∧ a ≤ 20) ∧ i' < 3 := by
      rcases i' with _ | _ | _ | i'
      · cases hk'; exact ⟨p1, r1.num, r1.den, tu1, tv1, tn1, rfl, .head _, rfl, hs1.den, hs1.num, by omega⟩
      · cases hk'; exact ⟨p2, r2.num, r2.den, tu2, tv2, tn2, rfl, .tail _ (.head _), rfl, hs2.den, hs2.num, by omega⟩
      · cases hk'; exact ⟨p3, r3.num, r3.den, tu3, tv3, tn3, rfl, .tail _ (.tail _ (.head _)), rfl, hs3.den, hs3.num, by omega⟩
      · cases hk'
    obtain ⟨pt, a, b, tu, tv, tn, hpk, hpm, rfl, hb, ha, hi3⟩ := hx
    have hz : b ≠ 0 := by omega
    have hf := fdiv_rng hw hb
    have N2 := news_dup N' (show ∀ p ∈ ([(p1, tup2 r1.num r1.den tu1 tv1 tn1), (p2, tup2 r2.num r2.den tu2 tv2 tn2), (p3, tup2 r3.num r3.den tu3 tv3 tn3)] : Led), _ from by ((repeat (first | exact List.forall_mem_nil _ | (refine List.forall_mem_cons.mpr ⟨by k_mem, ?_⟩))); (try (intro p hp; (first | ((repeat (first | exact hp | refine List.Mem.tail _ ?_)); done) | ((rcases List.mem_append.mp hp with hp | hp) <;> ((repeat (first | exact hp | exact List.mem_append_left _ hp | exact List.mem_append_right _ hp | exact List.mem_append_left _ (List.Mem.tail _ hp) | refine List.Mem.tail _ ?_)); done))))))) hpm
    clear N' hk'
    k_sweep
    k_steps
  all_goals (intro D' c' h' tk' o0' o1' o2' u0' u1' u2' ho' F' N' l1; clear l1; (try k_sweep); (try dsimp only))
  k_steps
  all_goals (
    refine' hret _ _ _ _ _ _ _ _ _ _ _ _ ?qt ?qo ?qm ?qf ?qn
    (case qf => assumption)
    (case qm => (first | assumption | exact if_pos rfl | (refine (if_neg (by decide)).trans ?_; first | assumption | exact if_pos rfl | (refine (if_neg (by decide)).trans ?_; first | assumption | exact if_pos rfl))))
    (case qn => first | assumption | (refine' cb_drop ?qN ?qS; (case qN => assumption); (case qS => (repeat (first | exact List.forall_mem_nil _ | exact fun _ h => h | (intro p hp; ((repeat (first | exact hp | refine List.Mem.tail _ ?_)); done)) | (refine List.forall_mem_cons.mpr ⟨by k_mem, ?_⟩))))))
    (case qt => assumption)
    (case qo => assumption)
)
end
section
local macro_rules | `(tactic| walk_at "call ref") => `(tactic| (k_here; (with_reducible show wpAny _ _ (call (Value.ref 197) [Value.ref _]) _ _ _); (with_reducible rename News _ _ _ _ => hNN); k_dflt (refine' doesT_use (refl_nothing ?qm ?qc ?qd ?qv ?qbind ?qco ?qgen ?qkk ?qcell ?qB) ?k1 ?k2 ?k3 hNN ?k5 ?k6 ?kK ?kd ?ku ?_; (case qm => exact List.Mem.head _); (case qc => (repeat (first | assumption | exact List.mem_append_right _ (by assumption) | refine List.Mem.tail _ ?_))); (case qd => assumption); (case qv => assumption); (case qbind => exact rfl); (case qco => exact rfl); (case qgen => exact rfl); (case qkk => exact rfl); (case qcell => decide); (case k1 => k_asm); (case k2 => k_asm); (case k3 => k_asm); (case k5 => k_asm); (case k6 => exact ktsDicts_nil); (case kK => first | exact rfl | assumption); (case kd => k_room); (case ku => ktr_units); (case qB => (intro p' l' m' mg' mb' dp' un' gd' o' A' b' g' L' m' s' Q' E' B' F' X' N' T' hd' hu' hr'; k_steps; (refine' hr' _ _ _ _ ?qf ?qr ?qu; (case qu => assumption); (case qr => first | exact raised_sub (by assumption) (fun p hp => by (repeat (first | exact hp | refine List.Mem.tail _ ?_))) | exact raised_sub (raised_made (by assumption)) (fun p hp => by (repeat (first | exact hp | refine List.Mem.tail _ ?_)))); (case qf => assumption))))); intro v' hv' kg' h' tk' KT' B' D' F' N'; obtain ⟨t', e'⟩ := hv'; subst e'; (k_dflt (replace F' := fr_back KT' F')); (k_dflt (replace N' := news_back KT' N')); clear KT' B' D'; (try simp only [List.cons_append, List.nil_append] at N'); (try k_sweep); (try dsimp only)))
local macro_rules | `(tactic| walk_at "eval Lambda") => `(tactic| (k_here; k_dflt (refine' kla_eval ?d0 ?_; (case d0 => exact rfl)); k_dflt (refine' lam_te (qual := q0) ?hS ?kF ?kN ?hn ?hNT ?kT ?kC ?cd ?kcl ?_; (case kF => k_asm); (case kN => k_asm); (case hS => exact Tabs.at0 (by assumption)); (case hn => (repeat (first | exact rfl | exact split_nil | apply split_cons))); (case hNT => (repeat (first | assumption | exact NoTab.nil | refine NoTab.cons (by first | exact noTab_data (by assumption) | (intro ws hw; cases hw; done) | exact noTab_cls (by intro h; cases h) | (intro ws hw; simp_all; done)) ?_))); (case kT => k_asm); (case cd => exact rfl); (case kC => kn_code); (case kcl => exact rfl)); intro f' c' oc' vs' t' ct' pm' te' h' tk' F' N' S' K' hc' hd' hv'; (have TB' := Tabs.lam0 (by assumption) S' K'); clear K' S'; (try simp only [List.cons_append, List.nil_append] at N'); (try k_sweep)))
theorem segA13 : ∀ {w : World} {sc : Scope} {fa : Addr} {p : Program} {loose : List Str} {mean : ExcName → Option Value} {mg mb : Str → Option Value} {h₀ : Heap} {L : Addr} {m : Str → Option Value} {s : Shared} {Q : Flow → Shared → Prop} {E : Value → Shared → Prop} {t : Stmt} (ht : lawParts.1[13]? = some t) (hsc : lawParts.2 = sc) (B : Below callerA h₀ [] h₀) (F : Fr h₀ L s.heap m) (X : (Mine.hd.heap_39 w.params).In h₀) (T : Top p loose mean mg mb h₀) (C : CodeHd h₀ 215 213) (hL : 213 < L) {te : Led} (TS : Tabs te) {pl rl : Addr} {np nr : Nat} {r1 : Rat} {x1 d1 : Addr} {u1 v1 y1 z1 : Tok} {k1 : Nat} {p1 : Addr} {tu1 tv1 : Tok} {tn1 : Nat} {r2 : Rat} {x2 d2 : Addr} {u2 v2 y2 z2 : Tok} {k2 : Nat} {p2 : Addr} {tu2 tv2 : Tok} {tn2 : Nat} {r3 : Rat} {x3 d3 : Addr} {u3 v3 y3 z3 : Tok} {k3 : Nat} {p3 : Addr} {tu3 tv3 : Tok} {tn3 : Nat} {n : Int} {tn : Tok} {c0 c1 c2 c3 c4 : Obj} (hn : -15 ≤ n ∧ n ≤ 15) {wh : Int} {tw : Tok} (hs1 : Sm r1) (hs2 : Sm r2) (hs3 : Sm r3) (hc0 : c0.data = .cell (some (.ref rl))) (hc1 : c1.data = .cell (some (.int n tn))) (hc2 : c2.data = .cell (some (.ref x1))) (hc3 : c3.data = .cell (some (.ref pl))) (hc4 : c4.data = .cell (some (.int wh tw))) (N : News h₀ L s.heap ((pl, listOf ([.ref p1, .ref p2, .ref p3] : List Value).toArray np) :: (p1, tup2 r1.num r1.den tu1 tv1 tn1) :: (p2, tup2 r2.num r2.den tu2 tv2 tn2) :: (p3, tup2 r3.num r3.den tu3 tv3 tn3) :: (rl, listOf ([.ref x1, .ref x2, .ref x3] : List Value).toArray nr) :: (x1, instObj 165 d1) :: (d1, fdict w r1.num r1.den u1 v1 y1 z1 k1) :: (x2, instObj 165 d2) :: (d2, fdict w r2.num r2.den u2 v2 y2 z2 k2) :: (x3, instObj 165 d3) :: (d3, fdict w r3.num r3.den u3 v3 y3 z3 k3) :: (L + 1 + 1 + 1 + 1 + 1, c4) :: (L + 1 + 1 + 1 + 1, c3) :: (L + 1 + 1 + 1, c2) :: (L + 1 + 1, c1) :: (L + 1, c0) :: te)) (hret : ∀ h' tk' te', Tabs te' → Fr h₀ L h' m → News h₀ L h' ((pl, listOf ([.ref p1, .ref p2, .ref p3] : List Value).toArray np) :: (p1, tup2 r1.num r1.den tu1 tv1 tn1) :: (p2, tup2 r2.num r2.den tu2 tv2 tn2) :: (p3, tup2 r3.num r3.den tu3 tv3 tn3) :: (rl, listOf ([.ref x1, .ref x2, .ref x3] : List Value).toArray nr) :: (x1, instObj 165 d1) :: (d1, fdict w r1.num r1.den u1 v1 y1 z1 k1) :: (x2, instObj 165 d2) :: (d2, fdict w r2.num r2.den u2 v2 y2 z2 k2) :: (x3, instObj 165 d3) :: (d3, fdict w r3.num r3.den u3 v3 y3 z3 k3) :: (L + 1 + 1 + 1 + 1 + 1, c4) :: (L + 1 + 1 + 1 + 1, c3) :: (L + 1 + 1 + 1, c2) :: (L + 1 + 1, c1) :: (L + 1, c0) :: te') → Q .next { s with heap := h', toks := tk' }),
    wpAny (model PySem.Challenge.rw_at5001_01.row.prog w) (callerA.deeper (lawEnv sc L fa)) (exec t (lawEnv sc L fa)) Q E s := by
  k_fill
  intro w sc fa p loose mean mg mb h₀ L m s Q E t ht hsc B F X T C hL te TS pl rl np nr r1 x1 d1 u1 v1 y1 z1 k1 p1 tu1 tv1 tn1 r2 x2 d2 u2 v2 y2 z2 k2 p2 tu2 tv2 tn2 r3 x3 d3 u3 v3 y3 z3 k3 p3 tu3 tv3 tn3 n tn c0 c1 c2 c3 c4 hn wh tw hs1 hs2 hs3 hc0 hc1 hc2 hc3 hc4 N hret
  replace hsc : (⟨_, _, _, _, _⟩ : Scope) = _ := hsc
  subst hsc
  replace ht : some _ = some _ := ht
  obtain rfl := Option.some.inj ht
  clear ht
  have hb1 := hs1.bd
  have hb2 := hs2.bd
  have hb3 := hs3.bd
  have bn : Bd (n : Rat) := bd_int (by omega)
  have hz0 : ((0 : Int) : Rat) = 0 := rfl
  k_steps
  all_goals (
    refine' hret _ _ _ ?qt ?qf ?qn
    (case qf => assumption)
    (case qn => first | assumption | (refine' cb_drop ?qN ?qS; (case qN => assumption); (case qS => (repeat (first | exact List.forall_mem_nil _ | exact fun _ h => h | (intro p hp; ((repeat (first | exact hp | refine List.Mem.tail _ ?_)); done)) | (refine List.forall_mem_cons.mpr ⟨by k_mem, ?_⟩))))))
    (case qt => assumption)
)
end
section
local macro_rules | `(tactic| walk_at "call ref") => `(tactic| (k_here; (with_reducible show wpAny _ _ (call (Value.ref 197) [Value.ref _]) _ _ _); (with_reducible rename News _ _ _ _ => hNN); k_dflt (refine' doesT_use (refl_kind ?qm ?qc ?qd ?qv ?qbind ?qco ?qgen ?qkk ?qcell ?qB) ?k1 ?k2 ?k3 hNN ?k5 ?k6 ?kK ?kd ?ku ?_; (case qm => exact List.Mem.head _); (case qc => (repeat (first | assumption | exact List.mem_append_right _ (by assumption) | refine List.Mem.tail _ ?_))); (case qd => assumption); (case qv => assumption); (case qbind => exact rfl); (case qco => exact rfl); (case qgen => exact rfl); (case qkk => exact rfl); (case qcell => decide); (case k1 => k_asm); (case k2 => k_asm); (case k3 => k_asm); (case k5 => k_asm); (case k6 => exact ktsDicts_nil); (case kK => first | exact rfl | assumption); (case kd => k_room); (case ku => ktr_units); (case qB => (intro p' l' m' mg' mb' dp' un' gd' o' A' b' g' L' m' s' Q' E' B' F' X' N' T' hd' hu' hr'; k_steps; (refine' hr' _ _ _ _ ?qf ?qr ?qu; (case qu => assumption); (case qr => first | exact raised_sub (by assumption) (fun p hp => by (repeat (first | exact hp | refine List.Mem.tail _ ?_))) | exact raised_sub (raised_made (by assumption)) (fun p hp => by (repeat (first | exact hp | refine List.Mem.tail _ ?_)))); (case qf => assumption))))); intro v' hv' kg' h' tk' KT' B' D' F' N'; obtain ⟨t', e'⟩ := hv'; subst e'; (k_dflt (replace F' := fr_back KT' F')); (k_dflt (replace N' := news_back KT' N')); clear KT' B' D'; (try simp only [List.cons_append, List.nil_append] at N'); (try k_sweep); (try dsimp only)))
local macro_rules | `(tactic| walk_at "eval Lambda") => `(tactic| (k_here; k_dflt (refine' kla_eval ?d0 ?_; (case d0 => exact rfl)); k_dflt (refine' lam_te (qual := q0) ?hS ?kF ?kN ?hn ?hNT ?kT ?kC ?cd ?kcl ?_; (case kF => k_asm); (case kN => k_asm); (case hS => exact Tabs.at0 (by assumption)); (case hn => (repeat (first | exact rfl | exact split_nil | apply split_cons))); (case hNT => (repeat (first | assumption | exact NoTab.nil | refine NoTab.cons (by first | exact noTab_data (by assumption) | (intro ws hw; cases hw; done) | exact noTab_cls (by intro h; cases h) | (intro ws hw; simp_all; done)) ?_))); (case kT => k_asm); (case cd => exact rfl); (case kC => kn_code); (case kcl => exact rfl)); intro f' c' oc' vs' t' ct' pm' te' h' tk' F' N' S' K' hc' hd' hv'; (have TB' := Tabs.lam0 (by assumption) S' K'); clear K' S'; (try simp only [List.cons_append, List.nil_append] at N'); (try k_sweep)))
local macro_rules | `(tactic| walk_at "pad2") => `(tactic| done)
theorem segA14 : ∀ {w : World} {sc : Scope} {fa : Addr} {p : Program} {loose : List Str} {mean : ExcName → Option Value} {mg mb : Str → Option Value} {h₀ : Heap} {L : Addr} {m : Str → Option Value} {s : Shared} {Q : Flow → Shared → Prop} {E : Value → Shared → Prop} {t : Stmt} (ht : lawParts.1[14]? = some t) (hsc : lawParts.2 = sc) (B : Below callerA h₀ [] h₀) (F : Fr h₀ L s.heap m) (X : (Mine.hd.heap_39 w.params).In h₀) (T : Top p loose mean mg mb h₀) (C : CodeHd h₀ 215 213) (hL : 213 < L) {te : Led} (TS : Tabs te) {pl rl : Addr} {np nr : Nat} {r1 : Rat} {x1 d1 : Addr} {u1 v1 y1 z1 : Tok} {k1 : Nat} {p1 : Addr} {tu1 tv1 : Tok} {tn1 : Nat} {r2 : Rat} {x2 d2 : Addr} {u2 v2 y2 z2 : Tok} {k2 : Nat} {p2 : Addr} {tu2 tv2 : Tok} {tn2 : Nat} {r3 : Rat} {x3 d3 : Addr} {u3 v3 y3 z3 : Tok} {k3 : Nat} {p3 : Addr} {tu3 tv3 : Tok} {tn3 : Nat} {n : Int} {tn : Tok} {c0 c1 c2 c3 c4 : Obj} {wh : Int} {tw : Tok} (hs1 : Sm r1) (hs2 : Sm r2) (hs3 : Sm r3) (hc0 : c0.data = .cell (some (.ref rl))) (hc1 : c1.data = .cell (some (.int n tn))) (hc2 : c2.data = .cell (some (.ref x1))) (hc3 : c3.data = .cell (some (.ref pl))) (hc4 : c4.data = .cell (some (.int wh tw))) (N : News h₀ L s.heap ((pl, listOf ([.ref p1, .ref p2, .ref p3] : List Value).toArray np) :: (p1, tup2 r1.num r1.den tu1 tv1 tn1) :: (p2, tup2 r2.num r2.den tu2 tv2 tn2) :: (p3, tup2 r3.num r3.den tu3 tv3 tn3) :: (rl, listOf ([.ref x1, .ref x2, .ref x3] : List Value).toArray nr) :: (x1, instObj 165 d1) :: (d1, fdict w r1.num r1.den u1 v1 y1 z1 k1) :: (x2, instObj 165 d2) :: (d2, fdict w r2.num r2.den u2 v2 y2 z2 k2) :: (x3, instObj 165 d3) :: (d3, fdict w r3.num r3.den u3 v3 y3 z3 k3) :: (L + 1 + 1 + 1 + 1 + 1, c4) :: (L + 1 + 1 + 1 + 1, c3) :: (L + 1 + 1 + 1, c2) :: (L + 1 + 1, c1) :: (L + 1, c0) :: te)) (hret : ∀ h' tk' te', Tabs te' → Fr h₀ L h' m → News h₀ L h' ((pl, listOf ([.ref p1, .ref p2, .ref p3] : List Value).toArray np) :: (p1, tup2 r1.num r1.den tu1 tv1 tn1) :: (p2, tup2 r2.num r2.den tu2 tv2 tn2) :: (p3, tup2 r3.num r3.den tu3 tv3 tn3) :: (rl, listOf ([.ref x1, .ref x2, .ref x3] : List Value).toArray nr) :: (x1, instObj 165 d1) :: (d1, fdict w r1.num r1.den u1 v1 y1 z1 k1) :: (x2, instObj 165 d2) :: (d2, fdict w r2.num r2.den u2 v2 y2 z2 k2) :: (x3, instObj 165 d3) :: (d3, fdict w r3.num r3.den u3 v3 y3 z3 k3) :: (L + 1 + 1 + 1 + 1 + 1, c4) :: (L + 1 + 1 + 1 + 1, c3) :: (L + 1 + 1 + 1, c2) :: (L + 1 + 1, c1) :: (L + 1, c0) :: te') → Q .next { s with heap := h', toks := tk' }),
    wpAny (model PySem.Challenge.rw_at5001_01.row.prog w) (callerA.deeper (lawEnv sc L fa)) (exec t (lawEnv sc L fa)) Q E s := by
  k_fill
  intro w sc fa p loose mean mg mb h₀ L m s Q E t ht hsc B F X T C hL te TS pl rl np nr r1 x1 d1 u1 v1 y1 z1 k1 p1 tu1 tv1 tn1 r2 x2 d2 u2 v2 y2 z2 k2 p2 tu2 tv2 tn2 r3 x3 d3 u3 v3 y3 z3 k3 p3 tu3 tv3 tn3 n tn c0 c1 c2 c3 c4 wh tw hs1 hs2 hs3 hc0 hc1 hc2 hc3 hc4 N hret
  replace hsc : (⟨_, _, _, _, _⟩ : Scope) = _ := hsc
  subst hsc
  replace ht : some _ = some _ := ht
  obtain rfl := Option.some.inj ht
  clear ht
  have hb1 := hs1.bd
  have hb2 := hs2.bd
  have hb3 := hs3.bd
  k_steps
  all_goals (
    refine' hret _ _ _ ?qt ?qf ?qn
    (case qf => assumption)
    (case qn => first | assumption | (refine' cb_drop ?qN ?qS; (case qN => assumption); (case qS => (repeat (first | exact List.forall_mem_nil _ | exact fun _ h => h | (intro p hp; ((repeat (first | exact hp | refine List.Mem.tail _ ?_)); done)) | (refine List.forall_mem_cons.mpr ⟨by k_mem, ?_⟩))))))
    (case qt => assumption)
)
end
section
local macro_rules | `(tactic| walk_at "call ref") => `(tactic| (k_here; (with_reducible show wpAny _ _ (call (Value.ref 197) [Value.ref _]) _ _ _); (with_reducible rename News _ _ _ _ => hNN); k_dflt (refine' doesT_use (refl_kind ?qm ?qc ?qd ?qv ?qbind ?qco ?qgen ?qkk ?qcell ?qB) ?k1 ?k2 ?k3 hNN ?k5 ?k6 ?kK ?kd ?ku ?_; (case qm => exact List.Mem.head _); (case qc => (repeat (first | assumption | exact List.mem_append_right _ (by assumption) | refine List.Mem.tail _ ?_))); (case qd => assumption); (case qv => assumption); (case qbind => exact rfl); (case qco => exact rfl); (case qgen => exact rfl); (case qkk => exact rfl); (case qcell => decide); (case k1 => k_asm); (case k2 => k_asm); (case k3 => k_asm); (case k5 => k_asm); (case k6 => exact ktsDicts_nil); (case kK => first | exact rfl | assumption); (case kd => k_room); (case ku => ktr_units); (case qB => (intro p' l' m' mg' mb' dp' un' gd' o' A' b' g' L' m' s' Q' E' B' F' X' N' T' hd' hu' hr'; k_steps; (refine' hr' _ _ _ _ ?qf ?qr ?qu; (case qu => assumption); (case qr => first | exact raised_sub (by assumption) (fun p hp => by (repeat (first | exact hp | refine List.Mem.tail _ ?_))) | exact raised_sub (raised_made (by assumption)) (fun p hp => by (repeat (first | exact hp | refine List.Mem.tail _ ?_)))); (case qf => assumption))))); intro v' hv' kg' h' tk' KT' B' D' F' N'; obtain ⟨t', e'⟩ := hv'; subst e'; (k_dflt (replace F' := fr_back KT' F')); (k_dflt (replace N' := news_back KT' N')); clear KT' B' D'; (try simp only [List.cons_append, List.nil_append] at N'); (try k_sweep); (try dsimp only)))
local macro_rules | `(tactic| walk_at "eval Lambda") => `(tactic| (k_here; k_dflt (refine' kla_eval ?d0 ?_; (case d0 => exact rfl)); k_dflt (refine' lam_te (qual := q0) ?hS ?kF ?kN ?hn ?hNT ?kT ?kC ?cd ?kcl ?_; (case kF => k_asm); (case kN => k_asm); (case hS => exact Tabs.at0 (by assumption)); (case hn => (repeat (first | exact rfl | exact split_nil | apply split_cons))); (case hNT => (repeat (first | assumption | exact NoTab.nil | refine NoTab.cons (by first | exact noTab_data (by assumption) | (intro ws hw; cases hw; done) | exact noTab_cls (by intro h; cases h) | (intro ws hw; simp_all; done)) ?_))); (case kT => k_asm); (case cd => exact rfl); (case kC => kn_code); (case kcl => exact rfl)); intro f' c' oc' vs' t' ct' pm' te' h' tk' F' N' S' K' hc' hd' hv'; (have TB' := Tabs.lam0 (by assumption) S' K'); clear K' S'; (try simp only [List.cons_append, List.nil_append] at N'); (try k_sweep)))
theorem segA15 : ∀ {w : World} {sc : Scope} {fa : Addr} {p : Program} {loose : List Str} {mean : ExcName → Option Value} {mg mb : Str → Option Value} {h₀ : Heap} {L : Addr} {m : Str → Option Value} {s : Shared} {Q : Flow → Shared → Prop} {E : Value → Shared → Prop} {t : Stmt} (ht : lawParts.1[15]? = some t) (hsc : lawParts.2 = sc) (B : Below callerA h₀ [] h₀) (F : Fr h₀ L s.heap m) (X : (Mine.hd.heap_39 w.params).In h₀) (T : Top p loose mean mg mb h₀) (C : CodeHd h₀ 215 213) (hL : 213 < L) {te : Led} (TS : Tabs te) {pl rl : Addr} {np nr : Nat} {r1 : Rat} {x1 d1 : Addr} {u1 v1 y1 z1 : Tok} {k1 : Nat} {p1 : Addr} {tu1 tv1 : Tok} {tn1 : Nat} {r2 : Rat} {x2 d2 : Addr} {u2 v2 y2 z2 : Tok} {k2 : Nat} {p2 : Addr} {tu2 tv2 : Tok} {tn2 : Nat} {r3 : Rat} {x3 d3 : Addr} {u3 v3 y3 z3 : Tok} {k3 : Nat} {p3 : Addr} {tu3 tv3 : Tok} {tn3 : Nat} {n : Int} {tn : Tok} {c0 c1 c2 c3 c4 : Obj} {wh : Int} {tw : Tok} (hs1 : Sm r1) (hs2 : Sm r2) (hs3 : Sm r3) (hc0 : c0.data = .cell (some (.ref rl))) (hc1 : c1.data = .cell (some (.int n tn))) (hc2 : c2.data = .cell (some (.ref x1))) (hc3 : c3.data = .cell (some (.ref pl))) (hc4 : c4.data = .cell (some (.int wh tw))) (N : News h₀ L s.heap ((pl, listOf ([.ref p1, .ref p2, .ref p3] : List Value).toArray np) :: (p1, tup2 r1.num r1.den tu1 tv1 tn1) :: (p2, tup2 r2.num r2.den tu2 tv2 tn2) :: (p3, tup2 r3.num r3.den tu3 tv3 tn3) :: (rl, listOf ([.ref x1, .ref x2, .ref x3] : List Value).toArray nr) :: (x1, instObj 165 d1) :: (d1, fdict w r1.num r1.den u1 v1 y1 z1 k1) :: (x2, instObj 165 d2) :: (d2, fdict w r2.num r2.den u2 v2 y2 z2 k2) :: (x3, instObj 165 d3) :: (d3, fdict w r3.num r3.den u3 v3 y3 z3 k3) :: (L + 1 + 1 + 1 + 1 + 1, c4) :: (L + 1 + 1 + 1 + 1, c3) :: (L + 1 + 1 + 1, c2) :: (L + 1 + 1, c1) :: (L + 1, c0) :: te)) (hret : ∀ h' tk' te', Tabs te' → Fr h₀ L h' m → News h₀ L h' ((pl, listOf ([.ref p1, .ref p2, .ref p3] : List Value).toArray np) :: (p1, tup2 r1.num r1.den tu1 tv1 tn1) :: (p2, tup2 r2.num r2.den tu2 tv2 tn2) :: (p3, tup2 r3.num r3.den tu3 tv3 tn3) :: (rl, listOf ([.ref x1, .ref x2, .ref x3] : List Value).toArray nr) :: (x1, instObj 165 d1) :: (d1, fdict w r1.num r1.den u1 v1 y1 z1 k1) :: (x2, instObj 165 d2) :: (d2, fdict w r2.num r2.den u2 v2 y2 z2 k2) :: (x3, instObj 165 d3) :: (d3, fdict w r3.num r3.den u3 v3 y3 z3 k3) :: (L + 1 + 1 + 1 + 1 + 1, c4) :: (L + 1 + 1 + 1 + 1, c3) :: (L + 1 + 1 + 1, c2) :: (L + 1 + 1, c1) :: (L + 1, c0) :: te') → Q (.ret (.bool true)) { s with heap := h', toks := tk' }),
    wpAny (model PySem.Challenge.rw_at5001_01.row.prog w) (callerA.deeper (lawEnv sc L fa)) (exec t (lawEnv sc L fa)) Q E s := by
  k_fill
  intro w sc fa p loose mean mg mb h₀ L m s Q E t ht hsc B F X T C hL te TS pl rl np nr r1 x1 d1 u1 v1 y1 z1 k1 p1 tu1 tv1 tn1 r2 x2 d2 u2 v2 y2 z2 k2 p2 tu2 tv2 tn2 r3 x3 d3 u3 v3 y3 z3 k3 p3 tu3 tv3 tn3 n tn c0 c1 c2 c3 c4 wh tw hs1 hs2 hs3 hc0 hc1 hc2 hc3 hc4 N hret
  replace hsc : (⟨_, _, _, _, _⟩ : Scope) = _ := hsc
  subst hsc
  replace ht : some _ = some _ := ht
  obtain rfl := Option.some.inj ht
  clear ht
  have hb1 := hs1.bd
  have hb2 := hs2.bd
  have hb3 := hs3.bd
  k_steps
  all_goals (
    refine' hret _ _ _ ?qt ?qf ?qn
    (case qf => assumption)
    (case qn => first | assumption | (refine' cb_drop ?qN ?qS; (case qN => assumption); (case qS => (repeat (first | exact List.forall_mem_nil _ | exact fun _ h => h | (intro p hp; ((repeat (first | exact hp | refine List.Mem.tail _ ?_)); done)) | (refine List.forall_mem_cons.mpr ⟨by k_mem, ?_⟩))))))
    (case qt => assumption)
)
end
end
end
section
local macro_rules | `(tactic| walk_at "eval Name") => `(tactic| (k_here; name_kind "free"; k_dflt (refine' nameX_F ?N ?c ?m ?d ?_ ?a ?b; (case a => rfl); (case b => rfl); (case N => k_asm); (case c => rfl); (case m => k_mem); (case d => k_asm); k_whole)))
local macro_rules | `(tactic| k_mem) => `(tactic| ((repeat ((show (_ : Addr × Obj) ∈ (_ : List (Addr × Obj))); first | ((with_reducible refine List.mem_append_left _ ?_); ktr_member) | ((with_reducible refine List.mem_append_right _ ?_); ktr_member) | exact List.Mem.head _ | ktr_member | refine List.Mem.tail _ ?_)); done))
local macro_rules | `(tactic| kn_code) => `(tactic| exact codeHd_of_K (by assumption) (by kernel_rfl))
local macro_rules | `(tactic| walk_at "eval Name") => `(tactic| (k_here; name_kind "local"; k_dflt (refine' nameX_L ?F ?v ?_ ?a ?b; (case F => k_asm); (case a => rfl); (case b => rfl); (case v => assumption); k_whole)))
local macro_rules | `(tactic| walk_at "subscriptTail") => `(tactic| (k_here; (with_reducible show wpAny _ _ (subscriptTail _ _ (Value.ref _) (Value.int _ _)) _ _ _); k_dflt (refine' item_at ?k1 ?k2 ?k3 ?k4 ?k5 ?_ ?k6; (case k1 => k_asm); (case k2 => k_mem); (case k3 => first | assumption | omega); (case k4 => first | assumption | omega); (case k5 => assumption); (case k6 => with_unfolding_all rfl); k_whole)))
local macro_rules | `(tactic| walk_at "subscriptTail Name Name ref int") => `(tactic| (k_here; (with_reducible show wpAny _ _ (subscriptTail _ _ (Value.ref _) (Value.int _ _)) _ _ _); k_dflt (refine' item_at ?k1 ?k2 ?k3 ?k4 ?k5 ?_ ?k6; (case k1 => k_asm); (case k2 => k_mem); (case k3 => first | assumption | omega); (case k4 => first | assumption | omega); (case k5 => assumption); (case k6 => with_unfolding_all rfl); k_whole)))
local macro_rules | `(tactic| walk_at "subscriptTail Name BinOp ref int") => `(tactic| (k_here; (with_reducible show wpAny _ _ (subscriptTail _ _ (Value.ref _) (Value.int _ _)) _ _ _); k_dflt (refine' item_at ?k1 ?k2 ?k3 ?k4 ?k5 ?_ ?k6; (case k1 => k_asm); (case k2 => k_mem); (case k3 => first | assumption | omega); (case k4 => first | assumption | omega); (case k5 => assumption); (case k6 => with_unfolding_all rfl); k_whole)))
local macro_rules | `(tactic| walk_at "subscriptTail Subscript Constant ref int") => `(tactic| (k_here; (with_reducible show wpAny _ _ (subscriptTail _ _ (Value.ref _) (Value.int _ _)) _ _ _); k_dflt (refine' item_at ?k1 ?k2 ?k3 ?k4 ?k5 ?_ ?k6; (case k1 => k_asm); (case k2 => k_mem); (case k3 => first | assumption | omega); (case k4 => first | assumption | omega); (case k5 => assumption); (case k6 => with_unfolding_all rfl); k_whole)))
local macro_rules | `(tactic| k_all) => `(tactic| assumption)
local macro_rules | `(tactic| k_room) => `(tactic| ((try simp only [depth_mark, depth_under_make, depth_under_kw, depth_in1, depth_deeper, depth_caller, ktrTop]); first | omega | decide))
local macro_rules | `(tactic| ktr_units) => `(tactic| ((have hcL9 := cLine_is); (try simp only [units_under_make, units_in1, units_deeper, Around.mark_units, units_caller, ktrTop]); omega))
section
theorem segT0 : ∀ {w : World} {sc : Scope} {fa : Addr} {p : Program} {loose : List Str} {mean : ExcName → Option Value} {mg mb : Str → Option Value} {h₀ : Heap} {L : Addr} {m : Str → Option Value} {s : Shared} {Q : Flow → Shared → Prop} {E : Value → Shared → Prop} {t : Stmt} (ht : (lawFor 6)[0]? = some t) (hsc : lawParts.2 = sc) (B : Below callerA h₀ [] h₀) (F : Fr h₀ L s.heap m) (X : (Mine.hd.heap_39 w.params).In h₀) (T : Top p loose mean mg mb h₀) (C : CodeHd h₀ 215 213) (hL : 213 < L) {ex te : Led} (nx : NoTab ex) (TS : Tabs te) {x dx pt : Addr} {r : Rat} {u v yy z tu tv : Tok} {kk tn' : Nat} {pl rl : Addr} {np nr : Nat} {r1 : Rat} {x1 d1 : Addr} {u1 v1 y1 z1 : Tok} {k1 : Nat} {p1 : Addr} {tu1 tv1 : Tok} {tn1 : Nat} {r2 : Rat} {x2 d2 : Addr} {u2 v2 y2 z2 : Tok} {k2 : Nat} {p2 : Addr} {tu2 tv2 : Tok} {tn2 : Nat} {r3 : Rat} {x3 d3 : Addr} {u3 v3 y3 z3 : Tok} {k3 : Nat} {p3 : Addr} {tu3 tv3 : Tok} {tn3 : Nat} {n : Int} {tn : Tok} {c0 c1 c2 c3 c4 : Obj} {k : Int} {tk : Tok} (hk0 : 0 ≤ k) (hk3 : k < 3) (hm1 : m (Str.ofString "k") = some (.int k tk)) (hpk : ([.ref p1, .ref p2, .ref p3] : List Value)[k.toNat]? = some (.ref pt)) (hc0 : c0.data = .cell (some (.ref rl))) (hc1 : c1.data = .cell (some (.int n tn))) (hc2 : c2.data = .cell (none)) (hc3 : c3.data = .cell (some (.ref pl))) (hc4 : c4.data = .cell (none)) (N : News h₀ L s.heap ((x, instObj 165 dx) :: (dx, fdict w r.num r.den u v yy z kk) :: (pt, tup2 r.num r.den tu tv tn') :: (pl, listOf ([.ref p1, .ref p2, .ref p3] : List Value).toArray np) :: (p1, tup2 r1.num r1.den tu1 tv1 tn1) :: (p2, tup2 r2.num r2.den tu2 tv2 tn2) :: (p3, tup2 r3.num r3.den tu3 tv3 tn3) :: (rl, listOf ([.ref x1, .ref x2, .ref x3] : List Value).toArray nr) :: (x1, instObj 165 d1) :: (d1, fdict w r1.num r1.den u1 v1 y1 z1 k1) :: (x2, instObj 165 d2) :: (d2, fdict w r2.num r2.den u2 v2 y2 z2 k2) :: (x3, instObj 165 d3) :: (d3, fdict w r3.num r3.den u3 v3 y3 z3 k3) :: (L + 1 + 1 + 1 + 1 + 1, c4) :: (L + 1 + 1 + 1 + 1, c3) :: (L + 1 + 1 + 1, c2) :: (L + 1 + 1, c1) :: (L + 1, c0) :: (ex ++ te))) (hret : ∀ m' tt tl h' tk', m' (Str.ofString "k") = some (.int k tk) → m' (Str.ofString "top") = some (.int r.num tt) → m' (Str.ofString "low") = some (.int r.den tl) → Fr h₀ L h' m' → News h₀ L h' ((x, instObj 165 dx) :: (dx, fdict w r.num r.den u v yy z kk) :: (pt, tup2 r.num r.den tu tv tn') :: (pl, listOf ([.ref p1, .ref p2, .ref p3] : List Value).toArray np) :: (p1, tup2 r1.num r1.den tu1 tv1 tn1) :: (p2, tup2 r2.num r2.den tu2 tv2 tn2) :: (p3, tup2 r3.num r3.den tu3 tv3 tn3) :: (rl, listOf ([.ref x1, .ref x2, .ref x3] : List Value).toArray nr) :: (x1, instObj 165 d1) :: (d1, fdict w r1.num r1.den u1 v1 y1 z1 k1) :: (x2, instObj 165 d2) :: (d2, fdict w r2.num r2.den u2 v2 y2 z2 k2) :: (x3, instObj 165 d3) :: (d3, fdict w r3.num r3.den u3 v3 y3 z3 k3) :: (L + 1 + 1 + 1 + 1 + 1, c4) :: (L + 1 + 1 + 1 + 1, c3) :: (L + 1 + 1 + 1, c2) :: (L + 1 + 1, c1) :: (L + 1, c0) :: (ex ++ te)) → Q .next { s with heap := h', toks := tk' }),
    wpAny (model PySem.Challenge.rw_at5001_01.row.prog w) (callerA.deeper (lawEnv sc L fa)) (exec t (lawEnv sc L fa)) Q E s := by
  k_fill
  intro w sc fa p loose mean mg mb h₀ L m s Q E t ht hsc B F X T C hL ex te nx TS x dx pt r u v yy z tu tv kk tn' pl rl np nr r1 x1 d1 u1 v1 y1 z1 k1 p1 tu1 tv1 tn1 r2 x2 d2 u2 v2 y2 z2 k2 p2 tu2 tv2 tn2 r3 x3 d3 u3 v3 y3 z3 k3 p3 tu3 tv3 tn3 n tn c0 c1 c2 c3 c4 k tk hk0 hk3 hm1 hpk hc0 hc1 hc2 hc3 hc4 N hret
  replace hsc : (⟨_, _, _, _, _⟩ : Scope) = _ := hsc
  subst hsc
  replace ht : some _ = some _ := ht
  obtain rfl := Option.some.inj ht
  clear ht
  k_steps
  all_goals (
    refine' hret _ _ _ _ _ ?qm1 ?qm2 ?qm3 ?qf ?qn
    (case qf => assumption)
    (case qn => first | assumption | (refine' cb_drop ?qN ?qS; (case qN => assumption); (case qS => (repeat (first | exact List.forall_mem_nil _ | exact fun _ h => h | (intro p hp; ((repeat (first | exact hp | refine List.Mem.tail _ ?_)); done)) | (refine List.forall_mem_cons.mpr ⟨by k_mem, ?_⟩))))))
    (case qm1 => (first | assumption | exact if_pos rfl | (refine (if_neg (by decide)).trans ?_; first | assumption | exact if_pos rfl | (refine (if_neg (by decide)).trans ?_; first | assumption | exact if_pos rfl))))
    (case qm2 => (first | assumption | exact if_pos rfl | (refine (if_neg (by decide)).trans ?_; first | assumption | exact if_pos rfl | (refine (if_neg (by decide)).trans ?_; first | assumption | exact if_pos rfl))))
    (case qm3 => (first | assumption | exact if_pos rfl | (refine (if_neg (by decide)).trans ?_; first | assumption | exact if_pos rfl | (refine (if_neg (by decide)).trans ?_; first | assumption | exact if_pos rfl))))
)
end
section
theorem segA0 : ∀ {w : World} {sc : Scope} {fa : Addr} {p : Program} {loose : List Str} {mean : ExcName → Option Value} {mg mb : Str → Option Value} {h₀ : Heap} {L : Addr} {m : Str → Option Value} {s : Shared} {Q : Flow → Shared → Prop} {E : Value → Shared → Prop} {t : Stmt} (ht : lawParts.1[0]? = some t) (hsc : lawParts.2 = sc) (B : Below callerA h₀ [] h₀) (F : Fr h₀ L s.heap m) (X : (Mine.hd.heap_39 w.params).In h₀) (T : Top p loose mean mg mb h₀) (C : CodeHd h₀ 215 213) (hL : 213 < L) {sl : Addr} {ws : List Value} {ns : List Int} {c0 c1 c2 c3 c4 : Obj} {te : Led} (IL : h₀.IsList sl ws.toArray) (IA : IntsAre ws ns) (hcond : ns.length ≤ 63) (hm : m (Str.ofString "script") = some (.ref sl)) (hc0 : c0.data = .cell (none)) (hc1 : c1.data = .cell (none)) (hc2 : c2.data = .cell (none)) (hc3 : c3.data = .cell (none)) (hc4 : c4.data = .cell (none)) (N : News h₀ L s.heap ((L + 1 + 1 + 1 + 1 + 1, c4) :: (L + 1 + 1 + 1 + 1, c3) :: (L + 1 + 1 + 1, c2) :: (L + 1 + 1, c1) :: (L + 1, c0) :: te)) (hret : ∀ nl n ws' m' h' tk', IntsAre ws' (List.take 7 (List.take 7 ns ++ (List.replicate 7 [(0 : Int)]).flatten)) → m' (Str.ofString "numbers") = some (.ref nl) → L + 1 + 1 + 1 + 1 + 1 < nl → Fr h₀ L h' m' → News h₀ L h' ((nl, listOf ws'.toArray n) :: (L + 1 + 1 + 1 + 1 + 1, c4) :: (L + 1 + 1 + 1 + 1, c3) :: (L + 1 + 1 + 1, c2) :: (L + 1 + 1, c1) :: (L + 1, c0) :: te) → Q .next { s with heap := h', toks := tk' }),
    wpAny (model PySem.Challenge.rw_at5001_01.row.prog w) (callerA.deeper (lawEnv sc L fa)) (exec t (lawEnv sc L fa)) Q E s := by
  k_fill
  intro w sc fa p loose mean mg mb h₀ L m s Q E t ht hsc B F X T C hL sl ws ns c0 c1 c2 c3 c4 te IL IA hcond hm hc0 hc1 hc2 hc3 hc4 N hret
  replace hsc : (⟨_, _, _, _, _⟩ : Scope) = _ := hsc
  subst hsc
  replace ht : some _ = some _ := ht
  obtain rfl := Option.some.inj ht
  clear ht
  w_on
  k_steps
  all_goals (
    refine' hret _ _ _ _ _ _ ?qi ?qm ?ql ?qf ?qn
    (case qf => assumption)
    (case qm => exact if_pos rfl)
    (case qn => first | assumption | (refine' cb_drop ?qN ?qS; (case qN => assumption); (case qS => (repeat (first | exact List.forall_mem_nil _ | exact fun _ h => h | (intro p hp; ((repeat (first | exact hp | refine List.Mem.tail _ ?_)); done)) | (refine List.forall_mem_cons.mpr ⟨by k_mem, ?_⟩))))))
    (case qi => assumption)
    (case ql => first | assumption | omega | (refine ltN ?_; omega))
)
end
section
theorem segA1 : ∀ {w : World} {sc : Scope} {fa : Addr} {p : Program} {loose : List Str} {mean : ExcName → Option Value} {mg mb : Str → Option Value} {h₀ : Heap} {L : Addr} {m : Str → Option Value} {s : Shared} {Q : Flow → Shared → Prop} {E : Value → Shared → Prop} {t : Stmt} (ht : lawParts.1[1]? = some t) (hsc : lawParts.2 = sc) (B : Below callerA h₀ [] h₀) (F : Fr h₀ L s.heap m) (X : (Mine.hd.heap_39 w.params).In h₀) (T : Top p loose mean mg mb h₀) (C : CodeHd h₀ 215 213) (hL : 213 < L) {nl : Addr} {on : Obj} {c0 c1 c2 c3 c4 : Obj} (hn : L + 1 + 1 + 1 + 1 + 1 < nl) (hc0 : c0.data = .cell (none)) (hc1 : c1.data = .cell (none)) (hc2 : c2.data = .cell (none)) (hc3 : c3.data = .cell (none)) (hc4 : c4.data = .cell (none)) (N : News h₀ L s.heap ((nl, on) :: (L + 1 + 1 + 1 + 1 + 1, c4) :: (L + 1 + 1 + 1 + 1, c3) :: (L + 1 + 1 + 1, c2) :: (L + 1 + 1, c1) :: (L + 1, c0) :: [(206, tabObj #[]), (199, tabObj #[]), (213, tabObj #[])])) (hret : ∀ pl n c3' h' tk', c3'.data = .cell (some (.ref pl)) → nl < pl → Fr h₀ L h' m → News h₀ L h' ((pl, listOf #[] n) :: (nl, on) :: (L + 1 + 1 + 1 + 1 + 1, c4) :: (L + 1 + 1 + 1 + 1, c3') :: (L + 1 + 1 + 1, c2) :: (L + 1 + 1, c1) :: (L + 1, c0) :: [(206, tabObj #[]), (199, tabObj #[]), (213, tabObj #[])]) → Q .next { s with heap := h', toks := tk' }),
    wpAny (model PySem.Challenge.rw_at5001_01.row.prog w) (callerA.deeper (lawEnv sc L fa)) (exec t (lawEnv sc L fa)) Q E s := by
  k_fill
  intro w sc fa p loose mean mg mb h₀ L m s Q E t ht hsc B F X T C hL nl on c0 c1 c2 c3 c4 hn hc0 hc1 hc2 hc3 hc4 N hret
  replace hsc : (⟨_, _, _, _, _⟩ : Scope) = _ := hsc
  subst hsc
  replace ht : some _ = some _ := ht
  obtain rfl := Option.some.inj ht
  clear ht
  replace hL := ltN hL
  replace hn := ltN hn
  k_steps
  all_goals (
    refine' hret _ _ _ _ _ ?qd ?ql ?qf ?qn
    (case qf => assumption)
    (case qn => first | assumption | (refine' cb_drop ?qN ?qS; (case qN => assumption); (case qS => (repeat (first | exact List.forall_mem_nil _ | exact fun _ h => h | (intro p hp; ((repeat (first | exact hp | refine List.Mem.tail _ ?_)); done)) | (refine List.forall_mem_cons.mpr ⟨by k_mem, ?_⟩))))))
    (case qd => assumption)
    (case ql => first | assumption | omega | (refine ltN ?_; omega))
)
end
section
local macro_rules | `(tactic| walk_at "call builtin:list.append") => `(tactic| (k_here; k_dflt (show wpAny _ _ (call (Value.builtin _) [Value.ref _, _]) _ _ _); k_dflt (refine' append_K ?k1 ?k2 ?k3 ?_ ?z; (case k1 => k_asm); (case k2 => k_asm); (case k3 => k_upd); (case z => size_fits); k_whole); intro h' F' N'; (try k_sweep)))
local macro_rules | `(tactic| walk_at "ite") => `(tactic| (k_here; refine ite_two ?_ ?_ <;> intro hite))
theorem segA2t : ∀ {w : World} {sc : Scope} {fa : Addr} {p : Program} {loose : List Str} {mean : ExcName → Option Value} {mg mb : Str → Option Value} {h₀ : Heap} {L : Addr} {m : Str → Option Value} {s : Shared} {Q : Flow → Shared → Prop} {E : Value → Shared → Prop} {t : List Stmt} (ht : lawFor 2 = t) (hsc : lawParts.2 = sc) (B : Below callerA h₀ [] h₀) (F : Fr h₀ L s.heap m) (X : (Mine.hd.heap_39 w.params).In h₀) (T : Top p loose mean mg mb h₀) (C : CodeHd h₀ 215 213) (hL : 213 < L) {I pl nl : Addr} {it : Obj} {its : Array Value} {n n2 : Nat} {x0 x1 x2 x3 x4 x5 x6 : Int} {t0 t1 t2 t3 t4 t5 t6 : Tok} {k : Int} {tk : Tok} {a b : Int} {ta tb : Tok} {te : Led} (hte : ∀ q ∈ te, q.1 ≠ pl) {c0 c1 c2 c3 c4 : Obj} (hk0 : 0 ≤ k) (hk3 : k < 3) (hi1 : ([.int x0 t0, .int x1 t1, .int x2 t2, .int x3 t3, .int x4 t4, .int x5 t5, .int x6 t6] : List Value)[k.toNat]? = some (.int a ta)) (hi2 : ([.int x0 t0, .int x1 t1, .int x2 t2, .int x3 t3, .int x4 t4, .int x5 t5, .int x6 t6] : List Value)[(3 + k).toNat]? = some (.int b tb)) (hsz : its.size ≤ 3) (hI : pl < I) (hp : nl < pl) (hn : L + 1 + 1 + 1 + 1 + 1 < nl) (hm1 : m (Str.ofString "numbers") = some (.ref nl)) (hm2 : m (Str.ofString "k") = some (.int k tk)) (hc0 : c0.data = .cell (none)) (hc1 : c1.data = .cell (none)) (hc2 : c2.data = .cell (none)) (hc3 : c3.data = .cell (some (.ref pl))) (hc4 : c4.data = .cell (none)) (N : News h₀ L s.heap ((I, it) :: (pl, listOf its n) :: (nl, listOf ([.int x0 t0, .int x1 t1, .int x2 t2, .int x3 t3, .int x4 t4, .int x5 t5, .int x6 t6] : List Value).toArray n2) :: (L + 1 + 1 + 1 + 1 + 1, c4) :: (L + 1 + 1 + 1 + 1, c3) :: (L + 1 + 1 + 1, c2) :: (L + 1 + 1, c1) :: (L + 1, c0) :: te)) (hret : ∀ q l' t u nn n' m' h' tk', InLow l' → m' (Str.ofString "numbers") = some (.ref nl) → I < q → Fr h₀ L h' m' → News h₀ L h' ((q, tup2 (a.fmod 41 - 20) l' t u nn) :: (I, it) :: (pl, listOf (its.push (.ref q)) n') :: (nl, listOf ([.int x0 t0, .int x1 t1, .int x2 t2, .int x3 t3, .int x4 t4, .int x5 t5, .int x6 t6] : List Value).toArray n2) :: (L + 1 + 1 + 1 + 1 + 1, c4) :: (L + 1 + 1 + 1 + 1, c3) :: (L + 1 + 1 + 1, c2) :: (L + 1 + 1, c1) :: (L + 1, c0) :: te) → Q .next { s with heap := h', toks := tk' }),
    wpAny (model PySem.Challenge.rw_at5001_01.row.prog w) (callerA.deeper (lawEnv sc L fa)) (execs t (lawEnv sc L fa)) Q E s := by
  k_fill
  intro w sc fa p loose mean mg mb h₀ L m s Q E t ht hsc B F X T C hL I pl nl it its n n2 x0 x1 x2 x3 x4 x5 x6 t0 t1 t2 t3 t4 t5 t6 k tk a b ta tb te hte c0 c1 c2 c3 c4 hk0 hk3 hi1 hi2 hsz hI hp hn hm1 hm2 hc0 hc1 hc2 hc3 hc4 N hret
  replace hsc : (⟨_, _, _, _, _⟩ : Scope) = _ := hsc
  subst hsc
  replace ht : _ :: _ = _ := ht
  subst ht
  replace hL := ltN hL
  replace hn := ltN hn
  replace hp := ltN hp
  replace hI := ltN hI
  w_on
  k_steps
  all_goals (
    refine' hret _ _ _ _ _ _ _ _ _ ?ql ?qm ?qi ?qf ?qn
    (case qf => assumption)
    (case qm => (first | assumption | exact ((if_neg (by decide)).trans (by assumption))))
    (case qn => first | assumption | (refine' cb_drop ?qN ?qS; (case qN => assumption); (case qS => (repeat (first | exact List.forall_mem_nil _ | exact fun _ h => h | (intro p hp; ((repeat (first | exact hp | refine List.Mem.tail _ ?_)); done)) | (refine List.forall_mem_cons.mpr ⟨by k_mem, ?_⟩))))))
    (case ql => first | exact low_pos | exact low_neg)
    (case qi => first | assumption | omega | (refine ltN ?_; omega))
)
end
section
theorem segA3 : ∀ {w : World} {sc : Scope} {fa : Addr} {p : Program} {loose : List Str} {mean : ExcName → Option Value} {mg mb : Str → Option Value} {h₀ : Heap} {L : Addr} {m : Str → Option Value} {s : Shared} {Q : Flow → Shared → Prop} {E : Value → Shared → Prop} {t : Stmt} (ht : lawParts.1[3]? = some t) (hsc : lawParts.2 = sc) (B : Below callerA h₀ [] h₀) (F : Fr h₀ L s.heap m) (X : (Mine.hd.heap_39 w.params).In h₀) (T : Top p loose mean mg mb h₀) (C : CodeHd h₀ 215 213) (hL : 213 < L) {nl pl : Addr} {o1 o2 o3 o4 : Obj} {q1 q2 q3 : Addr} {n2 : Nat} {x0 x1 x2 x3 x4 x5 x6 : Int} {t0 t1 t2 t3 t4 t5 t6 : Tok} {c0 c1 c2 c3 c4 : Obj} (hn : L + 1 + 1 + 1 + 1 + 1 < nl) (hp : nl < pl) (hq1 : L + 1 + 1 + 1 + 1 + 1 < q1) (hq2 : L + 1 + 1 + 1 + 1 + 1 < q2) (hq3 : L + 1 + 1 + 1 + 1 + 1 < q3) (hm : m (Str.ofString "numbers") = some (.ref nl)) (hc0 : c0.data = .cell (none)) (hc1 : c1.data = .cell (none)) (hc2 : c2.data = .cell (none)) (hc3 : c3.data = .cell (some (.ref pl))) (hc4 : c4.data = .cell (none)) (N : News h₀ L s.heap ((q1, o1) :: (q2, o2) :: (q3, o3) :: (pl, o4) :: (nl, listOf ([.int x0 t0, .int x1 t1, .int x2 t2, .int x3 t3, .int x4 t4, .int x5 t5, .int x6 t6] : List Value).toArray n2) :: (L + 1 + 1 + 1 + 1 + 1, c4) :: (L + 1 + 1 + 1 + 1, c3) :: (L + 1 + 1 + 1, c2) :: (L + 1 + 1, c1) :: (L + 1, c0) :: [(206, tabObj #[]), (199, tabObj #[]), (213, tabObj #[])])) (hret : ∀ n tn c1' h' tk', c1'.data = .cell (some (.int n tn)) → -15 ≤ n ∧ n ≤ 15 → Fr h₀ L h' m → News h₀ L h' ((q1, o1) :: (q2, o2) :: (q3, o3) :: (pl, o4) :: (L + 1 + 1 + 1 + 1 + 1, c4) :: (L + 1 + 1 + 1 + 1, c3) :: (L + 1 + 1 + 1, c2) :: (L + 1 + 1, c1') :: (L + 1, c0) :: [(206, tabObj #[]), (199, tabObj #[]), (213, tabObj #[])]) → Q .next { s with heap := h', toks := tk' }),
    wpAny (model PySem.Challenge.rw_at5001_01.row.prog w) (callerA.deeper (lawEnv sc L fa)) (exec t (lawEnv sc L fa)) Q E s := by
  k_fill
  intro w sc fa p loose mean mg mb h₀ L m s Q E t ht hsc B F X T C hL nl pl o1 o2 o3 o4 q1 q2 q3 n2 x0 x1 x2 x3 x4 x5 x6 t0 t1 t2 t3 t4 t5 t6 c0 c1 c2 c3 c4 hn hp hq1 hq2 hq3 hm hc0 hc1 hc2 hc3 hc4 N hret
  replace hsc : (⟨_, _, _, _, _⟩ : Scope) = _ := hsc
  subst hsc
  replace ht : some _ = some _ := ht
  obtain rfl := Option.some.inj ht
  clear ht
  replace hL := ltN hL
  replace hn := ltN hn
  replace hp := ltN hp
  replace hq1 := ltN hq1
  replace hq2 := ltN hq2
  replace hq3 := ltN hq3
  k_steps
  all_goals (
    refine' hret _ _ _ _ _ ?qd ?qg ?qf ?qn
    (case qf => assumption)
    (case qn => first | assumption | (refine' cb_drop ?qN ?qS; (case qN => assumption); (case qS => (repeat (first | exact List.forall_mem_nil _ | exact fun _ h => h | (intro p hp; ((repeat (first | exact hp | refine List.Mem.tail _ ?_)); done)) | (refine List.forall_mem_cons.mpr ⟨by k_mem, ?_⟩))))))
    (case qd => assumption)
    (case qg => exact n_rng)
)
end
section
local macro_rules | `(tactic| walk_at "call ref") => `(tactic| (k_here; (with_reducible show wpAny _ _ (call (Value.ref 21) [_]) _ _ _); k_dflt (refine' does_use (parts_num ?qh) ?k1 ?k2 ?k3 ?k4 ?k5 ?kK ?kd ?ku ?_; (case k1 => k_asm); (case k2 => k_asm); (case k3 => k_asm); (case k4 => k_asm); (case k5 => k_asm); (case kK => first | exact rfl | assumption); (case kd => k_room); (case ku => ktr_units); (case qh => first | exact NumAt.int _ _ | exact NumAt.frac (by k_mem) (by k_mem) | assumption | exact NumAt.cons (by assumption) | exact NumAt.cons (NumAt.cons (by assumption)) | exact NumAt.cons (NumAt.cons (NumAt.cons (by assumption)))); k_whole; intro a' o' l1 ho' h' tk' F' N'; obtain ⟨t', u', n', eo'⟩ := ho'; subst eo'; (try k_lt l1); (try k_sweep))))
local macro_rules | `(tactic| walk_at "call ref") => `(tactic| (k_here; (with_reducible show wpAny _ _ (call (Value.ref 165) [Value.int _ _, Value.int _ _]) _ _ _); k_dflt (refine' does_use (new_ii ?qz ?qb) ?k1 ?k2 ?k3 ?k4 ?k5 ?kK ?kd ?ku ?_; (case k1 => k_asm); (case k2 => k_asm); (case k3 => k_asm); (case k4 => k_asm); (case k5 => k_asm); (case kK => first | exact rfl | assumption); (case kd => k_room); (case ku => ktr_units); (case qz => first | assumption | exact den_ne _ | exact den_mul_ne _ _); (case qb => first | assumption | omega | exact den_mul_lt (by assumption) (by assumption)); k_whole; intro x' d' t1' t2' t3' t4' n' l1 l2 h' tk' F' N'; (try k_lt l1); (try k_lt2 l2); (try k_sweep); (try dsimp only [PySem.W.CmpBack, PySem.W.LenBack, PySem.W.StrBack, PySem.W.BoolBack, Mine.NotBack]); (try dsimp only))))
local macro_rules | `(tactic| walk_at "call ref") => `(tactic| (k_here; (with_reducible show wpAny _ _ (call (Value.ref 71) [Value.ref _]) _ _ _); k_dflt (refine' does_use (neg_f ?qx ?qdx ?qb) ?k1 ?k2 ?k3 ?k4 ?k5 ?kK ?kd ?ku ?_; (case k1 => k_asm); (case k2 => k_asm); (case k3 => k_asm); (case k4 => k_asm); (case k5 => k_asm); (case kK => first | exact rfl | assumption); (case kd => k_room); (case ku => ktr_units); (case qx => k_mem); (case qdx => k_mem); (case qb => first | assumption | exact Bd.neg (by assumption)); k_whole; intro x' d' t1' t2' t3' t4' n' l1 l2 h' tk' F' N'; (try k_lt l1); (try k_lt2 l2); (try k_sweep); (try dsimp only [PySem.W.CmpBack, PySem.W.LenBack, PySem.W.StrBack, PySem.W.BoolBack, Mine.NotBack]); (try dsimp only))))
local macro_rules | `(tactic| walk_at "call ref") => `(tactic| (k_here; (with_reducible show wpAny _ _ (call (Value.ref 78) [Value.ref _, _]) _ _ _); k_dflt (refine' does_use (add_v ?qx ?qdx ?qb ?qn ?qc) ?k1 ?k2 ?k3 ?k4 ?k5 ?kK ?kd ?ku ?_; (case k1 => k_asm); (case k2 => k_asm); (case k3 => k_asm); (case k4 => k_asm); (case k5 => k_asm); (case kK => first | exact rfl | assumption); (case kd => k_room); (case ku => ktr_units); (case qx => k_mem); (case qdx => k_mem); (case qb => first | assumption | exact Bd.neg (by assumption)); (case qn => first | exact NumAt.int _ _ | exact NumAt.frac (by k_mem) (by k_mem) | assumption | exact NumAt.cons (by assumption) | exact NumAt.cons (NumAt.cons (by assumption)) | exact NumAt.cons (NumAt.cons (NumAt.cons (by assumption)))); (case qc => first | assumption | exact Bd.neg (by assumption)); k_whole; intro x' d' t1' t2' t3' t4' n' l1 l2 h' tk' F' N'; (try k_lt l1); (try k_lt2 l2); (try k_sweep); (try dsimp only [PySem.W.CmpBack, PySem.W.LenBack, PySem.W.StrBack, PySem.W.BoolBack, Mine.NotBack]); (try dsimp only))))
local macro_rules | `(tactic| lcg_off) => `(tactic| assumption)
local macro_rules | `(tactic| walk_at "CompRestP") => `(tactic| (with_unfolding_all first | (refine LCp.CompRestP.succ ?_; intro v' hv'; lcg_open hv'; refine ⟨_, _, _, _, _, rfl, by k_mem, rfl, rfl, ?_⟩; intro I' oI' C' oC' D' m' h' tk' E' hC' hx' hy' F' N' off' ne') | refine LCp.CompRestP.zero ?_))
local macro_rules | `(tactic| walk_at "FinE") => `(tactic| ((unfold LCg.FinE); intro D' h' tk' F' N' o1'; clear o1'; (try simp only [List.nil_append, List.cons_append] at N'); (try dsimp only)))
local macro_rules | `(tactic| k_ne) => `(tactic| (refine ne_cell (by k_asm) (by k_mem) (by k_mem) (by assumption) (by exact notCell_of rfl)))
local macro_rules | `(tactic| walk_at "eval Name") => `(tactic| (k_here; (with_reducible show wpAny _ _ (eval (PySem.Expr.Name _ _) (compEnvC _ _ _ _)) _ _ _); k_dflt (first | refine LCgL.ld_own (by k_asm) (by k_mem) (by assumption) (by assumption) ?_ | refine LCgL.ld_global (by k_asm) (by k_asm) (by k_asm) (by k_is) ?_ | refine LCgL.ld_built (by k_asm) (by k_asm) (by k_asm) (by k_is) (by boot_by_name) (by decide) ?_)))
theorem segA4 : ∀ {w : World} {sc : Scope} {fa : Addr} {p : Program} {loose : List Str} {mean : ExcName → Option Value} {mg mb : Str → Option Value} {h₀ : Heap} {L : Addr} {m : Str → Option Value} {s : Shared} {Q : Flow → Shared → Prop} {E : Value → Shared → Prop} {t : Stmt} (ht : lawParts.1[4]? = some t) (hsc : lawParts.2 = sc) (B : Below callerA h₀ [] h₀) (F : Fr h₀ L s.heap m) (X : (Mine.hd.heap_39 w.params).In h₀) (T : Top p loose mean mg mb h₀) (C : CodeHd h₀ 215 213) (hL : 213 < L) {pl : Addr} {n2 : Nat} {q1 : Addr} {a1 b1 : Int} {ta1 tb1 : Tok} {na1 : Nat} {q2 : Addr} {a2 b2 : Int} {ta2 tb2 : Tok} {na2 : Nat} {q3 : Addr} {a3 b3 : Int} {ta3 tb3 : Tok} {na3 : Nat} {nv : Value} {c0 c1 c2 c3 c4 : Obj} (hb1 : InLow b1) (hb2 : InLow b2) (hb3 : InLow b3) (hc0 : c0.data = .cell (none)) (hc1 : c1.data = .cell (some nv)) (hc2 : c2.data = .cell (none)) (hc3 : c3.data = .cell (some (.ref pl))) (hc4 : c4.data = .cell (none)) (N : News h₀ L s.heap ((q1, tup2 a1 b1 ta1 tb1 na1) :: (q2, tup2 a2 b2 ta2 tb2 na2) :: (q3, tup2 a3 b3 ta3 tb3 na3) :: (pl, listOf #[.ref q1, .ref q2, .ref q3] n2) :: (L + 1 + 1 + 1 + 1 + 1, c4) :: (L + 1 + 1 + 1 + 1, c3) :: (L + 1 + 1 + 1, c2) :: (L + 1 + 1, c1) :: (L + 1, c0) :: [(206, tabObj #[]), (199, tabObj #[]), (213, tabObj #[])])) (hret : ∀ rl n x1 d1 x2 d2 x3 d3 u1 v1 y1 z1 k1 u2 v2 y2 z2 k2 u3 v3 y3 z3 k3 c0' h' tk', c0'.data = .cell (some (.ref rl)) → Fr h₀ L h' m → News h₀ L h' ((rl, listOf #[.ref x1, .ref x2, .ref x3] n) :: (x1, instObj 165 d1) :: (d1, fdict w (Rat.divInt a1 b1).num (Rat.divInt a1 b1).den u1 v1 y1 z1 k1) :: (x2, instObj 165 d2) :: (d2, fdict w (Rat.divInt a2 b2).num (Rat.divInt a2 b2).den u2 v2 y2 z2 k2) :: (x3, instObj 165 d3) :: (d3, fdict w (Rat.divInt a3 b3).num (Rat.divInt a3 b3).den u3 v3 y3 z3 k3) :: (q1, tup2 a1 b1 ta1 tb1 na1) :: (q2, tup2 a2 b2 ta2 tb2 na2) :: (q3, tup2 a3 b3 ta3 tb3 na3) :: (pl, listOf #[.ref q1, .ref q2, .ref q3] n2) :: (L + 1 + 1 + 1 + 1 + 1, c4) :: (L + 1 + 1 + 1 + 1, c3) :: (L + 1 + 1 + 1, c2) :: (L + 1 + 1, c1) :: (L + 1, c0') :: [(206, tabObj #[]), (199, tabObj #[]), (213, tabObj #[])]) → Q .next { s with heap := h', toks := tk' }),
    wpAny (model PySem.Challenge.rw_at5001_01.row.prog w) (callerA.deeper (lawEnv sc L fa)) (exec t (lawEnv sc L fa)) Q E s := by
  k_fill
  intro w sc fa p loose mean mg mb h₀ L m s Q E t ht hsc B F X T C hL pl n2 q1 a1 b1 ta1 tb1 na1 q2 a2 b2 ta2 tb2 na2 q3 a3 b3 ta3 tb3 na3 nv c0 c1 c2 c3 c4 hb1 hb2 hb3 hc0 hc1 hc2 hc3 hc4 N hret
  replace hsc : (⟨_, _, _, _, _⟩ : Scope) = _ := hsc
  subst hsc
  replace ht : some _ = some _ := ht
  obtain rfl := Option.some.inj ht
  clear ht
  replace hL := ltN hL
  have hz1 := hb1.1
  have hy1 : b1.natAbs < 1073741824 := by have := hb1.2; omega
  have hz2 := hb2.1
  have hy2 : b2.natAbs < 1073741824 := by have := hb2.2; omega
  have hz3 := hb3.1
  have hy3 : b3.natAbs < 1073741824 := by have := hb3.2; omega
  k_steps
  all_goals (
    refine' hret _ _ _ _ _ _ _ _ _ _ _ _ _ _ _ _ _ _ _ _ _ _ _ _ _ _ ?qd ?qf ?qn
    (case qf => assumption)
    (case qn => first | assumption | (refine' cb_drop ?qN ?qS; (case qN => assumption); (case qS => (repeat (first | exact List.forall_mem_nil _ | exact fun _ h => h | (intro p hp; ((repeat (first | exact hp | refine List.Mem.tail _ ?_)); done)) | (refine List.forall_mem_cons.mpr ⟨by k_mem, ?_⟩))))))
    (case qd => assumption)
)
end
section
local macro_rules | `(tactic| walk_at "call ref") => `(tactic| (k_here; (with_reducible show wpAny _ _ (call (Value.ref 21) [_]) _ _ _); k_dflt (refine' does_use (parts_num ?qh) ?k1 ?k2 ?k3 ?k4 ?k5 ?kK ?kd ?ku ?_; (case k1 => k_asm); (case k2 => k_asm); (case k3 => k_asm); (case k4 => k_asm); (case k5 => k_asm); (case kK => first | exact rfl | assumption); (case kd => k_room); (case ku => ktr_units); (case qh => first | exact NumAt.int _ _ | exact NumAt.frac (by k_mem) (by k_mem) | assumption | exact NumAt.cons (by assumption) | exact NumAt.cons (NumAt.cons (by assumption)) | exact NumAt.cons (NumAt.cons (NumAt.cons (by assumption)))); k_whole; intro a' o' l1 ho' h' tk' F' N'; obtain ⟨t', u', n', eo'⟩ := ho'; subst eo'; (try k_lt l1); (try k_sweep))))
local macro_rules | `(tactic| walk_at "call ref") => `(tactic| (k_here; (with_reducible show wpAny _ _ (call (Value.ref 176) [Value.int _ _, Value.int _ _]) _ _ _); k_dflt (refine' does_use (common_ii ) ?k1 ?k2 ?k3 ?k4 ?k5 ?kK ?kd ?ku ?_; (case k1 => k_asm); (case k2 => k_asm); (case k3 => k_asm); (case k4 => k_asm); (case k5 => k_asm); (case kK => first | exact rfl | assumption); (case kd => k_room); (case ku => ktr_units); k_whole; intro ti' h' tk' F' N'; (try k_sweep); (try dsimp only [PySem.W.CmpBack, PySem.W.LenBack, PySem.W.StrBack, PySem.W.BoolBack, Mine.NotBack]); (try dsimp only))))
local macro_rules | `(tactic| walk_at "call ref") => `(tactic| (k_here; (with_reducible show wpAny _ _ (call (Value.ref 183) [Value.int _ _, Value.int _ _]) _ _ _); k_dflt (refine' does_use (low_ii ?ql ?qb) ?k1 ?k2 ?k3 ?k4 ?k5 ?kK ?kd ?ku ?_; (case k1 => k_asm); (case k2 => k_asm); (case k3 => k_asm); (case k4 => k_asm); (case k5 => k_asm); (case kK => first | exact rfl | assumption); (case kd => k_room); (case ku => ktr_units); (case ql => first | assumption | exact den_ne _); (case qb => first | assumption | omega); k_whole; intro a' o' l1 ho' h' tk' F' N'; obtain ⟨t', u', n', eo'⟩ := ho'; subst eo'; (try k_lt l1); (try k_sweep); (try dsimp only))))
local macro_rules | `(tactic| lcg_off) => `(tactic| assumption)
local macro_rules | `(tactic| walk_at "CompRestP") => `(tactic| (with_unfolding_all first | (refine LCp.CompRestP.succ ?_; intro v' hv'; lcg_open hv'; refine ⟨_, _, _, _, _, rfl, by k_mem, rfl, rfl, ?_⟩; intro I' oI' C' oC' D' m' h' tk' E' hC' hx' hy' F' N' off' ne') | refine LCp.CompRestP.zero ?_))
local macro_rules | `(tactic| walk_at "FinE") => `(tactic| ((unfold LCg.FinE); intro D' h' tk' F' N' o1'; clear o1'; (try simp only [List.nil_append, List.cons_append] at N'); (try dsimp only)))
local macro_rules | `(tactic| k_ne) => `(tactic| (refine ne_cell (by k_asm) (by k_mem) (by k_mem) (by assumption) (by exact notCell_of rfl)))
local macro_rules | `(tactic| walk_at "eval Name") => `(tactic| (k_here; (with_reducible show wpAny _ _ (eval (PySem.Expr.Name _ _) (compEnvC _ _ _ _)) _ _ _); k_dflt (first | refine LCgL.ld_own (by k_asm) (by k_mem) (by assumption) (by assumption) ?_ | refine LCgL.ld_global (by k_asm) (by k_asm) (by k_asm) (by k_is) ?_ | refine LCgL.ld_built (by k_asm) (by k_asm) (by k_asm) (by k_is) (by boot_by_name) (by decide) ?_)))
theorem segA5 : ∀ {w : World} {sc : Scope} {fa : Addr} {p : Program} {loose : List Str} {mean : ExcName → Option Value} {mg mb : Str → Option Value} {h₀ : Heap} {L : Addr} {m : Str → Option Value} {s : Shared} {Q : Flow → Shared → Prop} {E : Value → Shared → Prop} {t : Stmt} (ht : lawParts.1[5]? = some t) (hsc : lawParts.2 = sc) (B : Below callerA h₀ [] h₀) (F : Fr h₀ L s.heap m) (X : (Mine.hd.heap_39 w.params).In h₀) (T : Top p loose mean mg mb h₀) (C : CodeHd h₀ 215 213) (hL : 213 < L) {pl rl : Addr} {nr : Nat} {x1 d1 : Addr} {u1 v1 y1 z1 : Tok} {k1 : Nat} {x2 d2 : Addr} {u2 v2 y2 z2 : Tok} {k2 : Nat} {x3 d3 : Addr} {u3 v3 y3 z3 : Tok} {k3 : Nat} {n2 : Nat} {q1 : Addr} {a1 b1 : Int} {ta1 tb1 : Tok} {na1 : Nat} {q2 : Addr} {a2 b2 : Int} {ta2 tb2 : Tok} {na2 : Nat} {q3 : Addr} {a3 b3 : Int} {ta3 tb3 : Tok} {na3 : Nat} {nv rv : Value} {c0 c1 c2 c3 c4 : Obj} (hb1 : InLow b1) (hb2 : InLow b2) (hb3 : InLow b3) (hc0 : c0.data = .cell (some rv)) (hc1 : c1.data = .cell (some nv)) (hc2 : c2.data = .cell (none)) (hc3 : c3.data = .cell (some (.ref pl))) (hc4 : c4.data = .cell (none)) (N : News h₀ L s.heap ((rl, listOf #[.ref x1, .ref x2, .ref x3] nr) :: (x1, instObj 165 d1) :: (d1, fdict w (Rat.divInt a1 b1).num (Rat.divInt a1 b1).den u1 v1 y1 z1 k1) :: (x2, instObj 165 d2) :: (d2, fdict w (Rat.divInt a2 b2).num (Rat.divInt a2 b2).den u2 v2 y2 z2 k2) :: (x3, instObj 165 d3) :: (d3, fdict w (Rat.divInt a3 b3).num (Rat.divInt a3 b3).den u3 v3 y3 z3 k3) :: (q1, tup2 a1 b1 ta1 tb1 na1) :: (q2, tup2 a2 b2 ta2 tb2 na2) :: (q3, tup2 a3 b3 ta3 tb3 na3) :: (pl, listOf #[.ref q1, .ref q2, .ref q3] n2) :: (L + 1 + 1 + 1 + 1 + 1, c4) :: (L + 1 + 1 + 1 + 1, c3) :: (L + 1 + 1 + 1, c2) :: (L + 1 + 1, c1) :: (L + 1, c0) :: [(206, tabObj #[]), (199, tabObj #[]), (213, tabObj #[])])) (hret : ∀ pl' n p1 tu1 tv1 tn1 p2 tu2 tv2 tn2 p3 tu3 tv3 tn3 c3' h' tk', c3'.data = .cell (some (.ref pl')) → Fr h₀ L h' m → News h₀ L h' ((pl', listOf #[.ref p1, .ref p2, .ref p3] n) :: (p1, tup2 (Rat.divInt a1 b1).num (Rat.divInt a1 b1).den tu1 tv1 tn1) :: (p2, tup2 (Rat.divInt a2 b2).num (Rat.divInt a2 b2).den tu2 tv2 tn2) :: (p3, tup2 (Rat.divInt a3 b3).num (Rat.divInt a3 b3).den tu3 tv3 tn3) :: (rl, listOf #[.ref x1, .ref x2, .ref x3] nr) :: (x1, instObj 165 d1) :: (d1, fdict w (Rat.divInt a1 b1).num (Rat.divInt a1 b1).den u1 v1 y1 z1 k1) :: (x2, instObj 165 d2) :: (d2, fdict w (Rat.divInt a2 b2).num (Rat.divInt a2 b2).den u2 v2 y2 z2 k2) :: (x3, instObj 165 d3) :: (d3, fdict w (Rat.divInt a3 b3).num (Rat.divInt a3 b3).den u3 v3 y3 z3 k3) :: (L + 1 + 1 + 1 + 1 + 1, c4) :: (L + 1 + 1 + 1 + 1, c3') :: (L + 1 + 1 + 1, c2) :: (L + 1 + 1, c1) :: (L + 1, c0) :: [(206, tabObj #[]), (199, tabObj #[]), (213, tabObj #[])]) → Q .next { s with heap := h', toks := tk' }),
    wpAny (model PySem.Challenge.rw_at5001_01.row.prog w) (callerA.deeper (lawEnv sc L fa)) (exec t (lawEnv sc L fa)) Q E s := by
  k_fill
  intro w sc fa p loose mean mg mb h₀ L m s Q E t ht hsc B F X T C hL pl rl nr x1 d1 u1 v1 y1 z1 k1 x2 d2 u2 v2 y2 z2 k2 x3 d3 u3 v3 y3 z3 k3 n2 q1 a1 b1 ta1 tb1 na1 q2 a2 b2 ta2 tb2 na2 q3 a3 b3 ta3 tb3 na3 nv rv c0 c1 c2 c3 c4 hb1 hb2 hb3 hc0 hc1 hc2 hc3 hc4 N hret
  replace hsc : (⟨_, _, _, _, _⟩ : Scope) = _ := hsc
  subst hsc
  replace ht : some _ = some _ := ht
  obtain rfl := Option.some.inj ht
  clear ht
  replace hL := ltN hL
  have hz1 := hb1.1
  have hy1 : b1.natAbs < 1073741824 := by have := hb1.2; omega
  have hz2 := hb2.1
  have hy2 : b2.natAbs < 1073741824 := by have := hb2.2; omega
  have hz3 := hb3.1
  have hy3 : b3.natAbs < 1073741824 := by have := hb3.2; omega
  k_steps
  all_goals (
    refine' hret _ _ _ _ _ _ _ _ _ _ _ _ _ _ _ _ _ ?qd ?qf ?qn
    (case qf => assumption)
    (case qn => first | assumption | (refine' cb_drop ?qN ?qS; (case qN => assumption); (case qS => (repeat (first | exact List.forall_mem_nil _ | exact fun _ h => h | (intro p hp; ((repeat (first | exact hp | refine List.Mem.tail _ ?_)); done)) | (refine List.forall_mem_cons.mpr ⟨by k_mem, ?_⟩))))))
    (case qd => assumption)
)
end
section
local macro_rules | `(tactic| walk_at "exec For Name Call cons nil") => `(tactic| (k_here; (rename Fr _ _ _ _ => lF'); (with_unfolding_all refine' For_invVF lF' ?k1 ?k2 ?_; (case k1 => exact rfl); (case k2 => exact rfl); k_whole)))
local macro_rules | `(tactic| walk_at "pyIter ref") => `(tactic| ((with_reducible show wpAny _ _ (pyIter (Value.ref _)) (fun it s₂ => LoopAtV _ _ _ _ _ _ _ _ _ it s₂) _ _); refine Stop.mk ?_))
theorem segT4 : ∀ {w : World} {sc : Scope} {fa : Addr} {p : Program} {loose : List Str} {mean : ExcName → Option Value} {mg mb : Str → Option Value} {h₀ : Heap} {L : Addr} {m : Str → Option Value} {s : Shared} {Q : Flow → Shared → Prop} {E : Value → Shared → Prop} {t : Stmt} (ht : (lawFor 6)[4]? = some t) (hsc : lawParts.2 = sc) (B : Below callerA h₀ [] h₀) (F : Fr h₀ L s.heap m) (X : (Mine.hd.heap_39 w.params).In h₀) (T : Top p loose mean mg mb h₀) (C : CodeHd h₀ 215 213) (hL : 213 < L) {ex te : Led} (nx : NoTab ex) (TS : Tabs te) {x dx pt : Addr} {r : Rat} {u v yy z tu tv : Tok} {kk tn' : Nat} {pl rl : Addr} {np nr : Nat} {r1 : Rat} {x1 d1 : Addr} {u1 v1 y1 z1 : Tok} {k1 : Nat} {p1 : Addr} {tu1 tv1 : Tok} {tn1 : Nat} {r2 : Rat} {x2 d2 : Addr} {u2 v2 y2 z2 : Tok} {k2 : Nat} {p2 : Addr} {tu2 tv2 : Tok} {tn2 : Nat} {r3 : Rat} {x3 d3 : Addr} {u3 v3 y3 z3 : Tok} {k3 : Nat} {p3 : Addr} {tu3 tv3 : Tok} {tn3 : Nat} {n : Int} {tn : Tok} {c0 c1 c2 c3 c4 : Obj} {k : Int} {tk : Tok} (hk0 : 0 ≤ k) (hk3 : k < 3) (hm1 : m (Str.ofString "k") = some (.int k tk)) {tt tl : Tok} (hm2 : m (Str.ofString "top") = some (.int r.num tt)) (hm3 : m (Str.ofString "low") = some (.int r.den tl)) (hxk : ([.ref x1, .ref x2, .ref x3] : List Value)[k.toNat]? = some (.ref x)) (hs : Sm r) (hn : -15 ≤ n ∧ n ≤ 15) (hs1 : Sm r1) (hs2 : Sm r2) (hs3 : Sm r3) (hc0 : c0.data = .cell (some (.ref rl))) (hc1 : c1.data = .cell (some (.int n tn))) (hc2 : c2.data = .cell (none)) (hc3 : c3.data = .cell (some (.ref pl))) (hc4 : c4.data = .cell (none)) (N : News h₀ L s.heap ((x, instObj 165 dx) :: (dx, fdict w r.num r.den u v yy z kk) :: (pt, tup2 r.num r.den tu tv tn') :: (pl, listOf ([.ref p1, .ref p2, .ref p3] : List Value).toArray np) :: (p1, tup2 r1.num r1.den tu1 tv1 tn1) :: (p2, tup2 r2.num r2.den tu2 tv2 tn2) :: (p3, tup2 r3.num r3.den tu3 tv3 tn3) :: (rl, listOf ([.ref x1, .ref x2, .ref x3] : List Value).toArray nr) :: (x1, instObj 165 d1) :: (d1, fdict w r1.num r1.den u1 v1 y1 z1 k1) :: (x2, instObj 165 d2) :: (d2, fdict w r2.num r2.den u2 v2 y2 z2 k2) :: (x3, instObj 165 d3) :: (d3, fdict w r3.num r3.den u3 v3 y3 z3 k3) :: (L + 1 + 1 + 1 + 1 + 1, c4) :: (L + 1 + 1 + 1 + 1, c3) :: (L + 1 + 1 + 1, c2) :: (L + 1 + 1, c1) :: (L + 1, c0) :: (ex ++ te))) (hret : ∀ m' h' tk' te', Tabs te' → m' (Str.ofString "k") = some (.int k tk) → m' (Str.ofString "top") = some (.int r.num tt) → m' (Str.ofString "low") = some (.int r.den tl) → Fr h₀ L h' m' → News h₀ L h' ((x, instObj 165 dx) :: (dx, fdict w r.num r.den u v yy z kk) :: (pt, tup2 r.num r.den tu tv tn') :: (pl, listOf ([.ref p1, .ref p2, .ref p3] : List Value).toArray np) :: (p1, tup2 r1.num r1.den tu1 tv1 tn1) :: (p2, tup2 r2.num r2.den tu2 tv2 tn2) :: (p3, tup2 r3.num r3.den tu3 tv3 tn3) :: (rl, listOf ([.ref x1, .ref x2, .ref x3] : List Value).toArray nr) :: (x1, instObj 165 d1) :: (d1, fdict w r1.num r1.den u1 v1 y1 z1 k1) :: (x2, instObj 165 d2) :: (d2, fdict w r2.num r2.den u2 v2 y2 z2 k2) :: (x3, instObj 165 d3) :: (d3, fdict w r3.num r3.den u3 v3 y3 z3 k3) :: (L + 1 + 1 + 1 + 1 + 1, c4) :: (L + 1 + 1 + 1 + 1, c3) :: (L + 1 + 1 + 1, c2) :: (L + 1 + 1, c1) :: (L + 1, c0) :: (ex ++ te')) → Q .next { s with heap := h', toks := tk' }),
    wpAny (model PySem.Challenge.rw_at5001_01.row.prog w) (callerA.deeper (lawEnv sc L fa)) (exec t (lawEnv sc L fa)) Q E s := by
  k_fill
  intro w sc fa p loose mean mg mb h₀ L m s Q E t ht hsc B F X T C hL ex te nx TS x dx pt r u v yy z tu tv kk tn' pl rl np nr r1 x1 d1 u1 v1 y1 z1 k1 p1 tu1 tv1 tn1 r2 x2 d2 u2 v2 y2 z2 k2 p2 tu2 tv2 tn2 r3 x3 d3 u3 v3 y3 z3 k3 p3 tu3 tv3 tn3 n tn c0 c1 c2 c3 c4 k tk hk0 hk3 hm1 tt tl hm2 hm3 hxk hs hn hs1 hs2 hs3 hc0 hc1 hc2 hc3 hc4 N hret
  replace hsc : (⟨_, _, _, _, _⟩ : Scope) = _ := hsc
  subst hsc
  replace ht : some _ = some _ := ht
  obtain rfl := Option.some.inj ht
  clear ht
  w_on
  refine wpAny_mono (E := fun _ _ => False) ?_ (fun _ _ h => h) (fun _ _ h => h.elim)
  k_steps
  unfold Stop
  rename Fr _ _ _ _ => lF
  rename News _ _ _ _ => lN'
  rename IsRange _ _ _ _ _ _ _ _ => lR
  have lN : News h₀ L _ ((x, instObj 165 dx) :: (dx, fdict w r.num r.den u v yy z kk) :: (pt, tup2 r.num r.den tu tv tn') :: (pl, listOf ([.ref p1, .ref p2, .ref p3] : List Value).toArray np) :: (p1, tup2 r1.num r1.den tu1 tv1 tn1) :: (p2, tup2 r2.num r2.den tu2 tv2 tn2) :: (p3, tup2 r3.num r3.den tu3 tv3 tn3) :: (rl, listOf ([.ref x1, .ref x2, .ref x3] : List Value).toArray nr) :: (x1, instObj 165 d1) :: (d1, fdict w r1.num r1.den u1 v1 y1 z1 k1) :: (x2, instObj 165 d2) :: (d2, fdict w r2.num r2.den u2 v2 y2 z2 k2) :: (x3, instObj 165 d3) :: (d3, fdict w r3.num r3.den u3 v3 y3 z3 k3) :: (L + 1 + 1 + 1 + 1 + 1, c4) :: (L + 1 + 1 + 1 + 1, c3) :: (L + 1 + 1 + 1, c2) :: (L + 1 + 1, c1) :: (L + 1, c0) :: (ex ++ te)) := cb_drop lN' (by ((repeat (first | exact List.forall_mem_nil _ | (refine List.forall_mem_cons.mpr ⟨by k_mem, ?_⟩))); (try (intro p hp; (first | ((repeat (first | exact hp | refine List.Mem.tail _ ?_)); done) | ((rcases List.mem_append.mp hp with hp | hp) <;> ((repeat (first | exact hp | exact List.mem_append_left _ hp | exact List.mem_append_right _ hp | exact List.mem_append_left _ (List.Mem.tail _ hp) | refine List.Mem.tail _ ?_)); done)))))))
  with_unfolding_all refine iter_rangeUnr (n := 3) (by rfl) lR (by decide) (by decide) lF lN ?_
  clear lF lN lN' lR
  intro I hI
  refine range_turns (pre := (x, instObj 165 dx) :: (dx, fdict w r.num r.den u v yy z kk) :: (pt, tup2 r.num r.den tu tv tn') :: (pl, listOf ([.ref p1, .ref p2, .ref p3] : List Value).toArray np) :: (p1, tup2 r1.num r1.den tu1 tv1 tn1) :: (p2, tup2 r2.num r2.den tu2 tv2 tn2) :: (p3, tup2 r3.num r3.den tu3 tv3 tn3) :: (rl, listOf ([.ref x1, .ref x2, .ref x3] : List Value).toArray nr) :: (x1, instObj 165 d1) :: (d1, fdict w r1.num r1.den u1 v1 y1 z1 k1) :: (x2, instObj 165 d2) :: (d2, fdict w r2.num r2.den u2 v2 y2 z2 k2) :: (x3, instObj 165 d3) :: (d3, fdict w r3.num r3.den u3 v3 y3 z3 k3) :: (L + 1 + 1 + 1 + 1 + 1, c4) :: (L + 1 + 1 + 1 + 1, c3) :: (L + 1 + 1 + 1, c2) :: (L + 1 + 1, c1) :: (L + 1, c0) :: ex) (Inv := (fun m' => m' (Str.ofString "k") = some (.int k tk) ∧ m' (Str.ofString "top") = some (.int r.num tt) ∧ m' (Str.ofString "low") = some (.int r.den tl))) (fun p hp => hI p ?_) ?_ ?_ 3 0 _ te rfl TS ⟨hm1, hm2, hm3⟩
  · exact List.mem_append_left te hp
  · intro i t it m' te' s' Q' hi hit TS' ⟨i1, i2, i3⟩ F' N' hr'
    have hit2 : ∀ ps, it ≠ tabObj ps := by
      obtain ⟨a, b, rfl⟩ := hit
      exact noTab_cls (by intro h; cases h)
    clear hit
    have hii : i = 0 ∨ i = 1 ∨ i = 2 := by omega
    rcases hii with rfl | rfl | rfl
    · refine segT4t (ex := (I, it) :: ex) (te := te') (y := x1) (dy := d1) (q := r1) (pj := p1) rfl rfl B F' X T C hL (NoTab.cons hit2 nx) TS' hk0 hk3 ((if_neg (by decide)).trans i1) ((if_neg (by decide)).trans i2) ((if_neg (by decide)).trans i3) hxk (j := ((0 : Nat) : Int)) (by decide) (by decide) (if_pos rfl) rfl rfl hs1 hs hn hc0 hc1 hc2 hc3 hc4 (cb_drop N' (by ((repeat (first | exact List.forall_mem_nil _ | (refine List.forall_mem_cons.mpr ⟨by k_mem, ?_⟩))); (try (intro p hp; (first | ((repeat (first | exact hp | refine List.Mem.tail _ ?_)); done) | ((rcases List.mem_append.mp hp with hp | hp) <;> ((repeat (first | exact hp | exact List.mem_append_left _ hp | exact List.mem_append_right _ hp | exact List.mem_append_left _ (List.Mem.tail _ hp) | refine List.Mem.tail _ ?_)); done)))))))) ?_
      intro h' tk' te2 TS2 F2 N2
      exact hr' _ _ _ _ TS2 ⟨(if_neg (by decide)).trans i1, (if_neg (by decide)).trans i2, (if_neg (by decide)).trans i3⟩ F2 (cb_drop N2 (by ((repeat (first | exact List.forall_mem_nil _ | (refine List.forall_mem_cons.mpr ⟨by k_mem, ?_⟩))); (try (intro p hp; (first | ((repeat (first | exact hp | refine List.Mem.tail _ ?_)); done) | ((rcases List.mem_append.mp hp with hp | hp) <;> ((repeat (first | exact hp | exact List.mem_append_left _ hp | exact List.mem_append_right _ hp | exact List.mem_append_left _ (List.Mem.tail _ hp) | refine List.Mem.tail _ ?_)); done))))))))
    · refine segT4t (ex := (I, it) :: ex) (te := te') (y := x2) (dy := d2) (q := r2) (pj := p2) rfl rfl B F' X T C hL (NoTab.cons hit2 nx) TS' hk0 hk3 ((if_neg (by decide)).trans i1) ((if_neg (by decide)).trans i2) ((if_neg (by decide)).trans i3) hxk (j := ((1 : Nat) : Int)) (by decide) (by decide) (if_pos rfl) rfl rfl hs2 hs hn hc0 hc1 hc2 hc3 hc4 (cb_drop N' (by ((repeat (first | exact List.forall_mem_nil _ | (refine List.forall_mem_cons.mpr ⟨by k_mem, ?_⟩))); (try (intro p hp; (first | ((repeat (first | exact hp | refine List.Mem.tail _ ?_)); done) | ((rcases List.mem_append.mp hp with hp | hp) <;> ((repeat (first | exact hp | exact List.mem_append_left _ hp | exact List.mem_append_right _ hp | exact List.mem_append_left _ (List.Mem.tail _ hp) | refine List.Mem.tail _ ?_)); done)))))))) ?_
      intro h' tk' te2 TS2 F2 N2
      exact hr' _ _ _ _ TS2 ⟨(if_neg (by decide)).trans i1, (if_neg (by decide)).trans i2, (if_neg (by decide)).trans i3⟩ F2 (cb_drop N2 (by ((repeat (first | exact List.forall_mem_nil _ | (refine List.forall_mem_cons.mpr ⟨by k_mem, ?_⟩))); (try (intro p hp; (first | ((repeat (first | exact hp | refine List.Mem.tail _ ?_)); done) | ((rcases List.mem_append.mp hp with hp | hp) <;> ((repeat (first | exact hp | exact List.mem_append_left _ hp | exact List.mem_append_right _ hp | exact List.mem_append_left _ (List.Mem.tail _ hp) | refine List.Mem.tail _ ?_)); done))))))))
    · refine segT4t (ex := (I, it) :: ex) (te := te') (y := x3) (dy := d3) (q := r3) (pj := p3) rfl rfl B F' X T C hL (NoTab.cons hit2 nx) TS' hk0 hk3 ((if_neg (by decide)).trans i1) ((if_neg (by decide)).trans i2) ((if_neg (by decide)).trans i3) hxk (j := ((2 : Nat) : Int)) (by decide) (by decide) (if_pos rfl) rfl rfl hs3 hs hn hc0 hc1 hc2 hc3 hc4 (cb_drop N' (by ((repeat (first | exact List.forall_mem_nil _ | (refine List.forall_mem_cons.mpr ⟨by k_mem, ?_⟩))); (try (intro p hp; (first | ((repeat (first | exact hp | refine List.Mem.tail _ ?_)); done) | ((rcases List.mem_append.mp hp with hp | hp) <;> ((repeat (first | exact hp | exact List.mem_append_left _ hp | exact List.mem_append_right _ hp | exact List.mem_append_left _ (List.Mem.tail _ hp) | refine List.Mem.tail _ ?_)); done)))))))) ?_
      intro h' tk' te2 TS2 F2 N2
      exact hr' _ _ _ _ TS2 ⟨(if_neg (by decide)).trans i1, (if_neg (by decide)).trans i2, (if_neg (by decide)).trans i3⟩ F2 (cb_drop N2 (by ((repeat (first | exact List.forall_mem_nil _ | (refine List.forall_mem_cons.mpr ⟨by k_mem, ?_⟩))); (try (intro p hp; (first | ((repeat (first | exact hp | refine List.Mem.tail _ ?_)); done) | ((rcases List.mem_append.mp hp with hp | hp) <;> ((repeat (first | exact hp | exact List.mem_append_left _ hp | exact List.mem_append_right _ hp | exact List.mem_append_left _ (List.Mem.tail _ hp) | refine List.Mem.tail _ ?_)); done))))))))
  · intro m' h' tk' te' TS' hm' F' N'
    exact hret _ _ _ _ TS' hm'.1 hm'.2.1 hm'.2.2 F' N'
end
section
theorem segT : ∀ {w : World} {sc : Scope} {fa : Addr} {p : Program} {loose : List Str} {mean : ExcName → Option Value} {mg mb : Str → Option Value} {h₀ : Heap} {L : Addr} {m : Str → Option Value} {s : Shared} {Q : Flow → Shared → Prop} {E : Value → Shared → Prop} {t : List Stmt} (ht : lawFor 6 = t) (hsc : lawParts.2 = sc) (B : Below callerA h₀ [] h₀) (F : Fr h₀ L s.heap m) (X : (Mine.hd.heap_39 w.params).In h₀) (T : Top p loose mean mg mb h₀) (C : CodeHd h₀ 215 213) (hL : 213 < L) {ex te : Led} (nx : NoTab ex) (TS : Tabs te) {x dx pt : Addr} {r : Rat} {u v yy z tu tv : Tok} {kk tn' : Nat} {pl rl : Addr} {np nr : Nat} {r1 : Rat} {x1 d1 : Addr} {u1 v1 y1 z1 : Tok} {k1 : Nat} {p1 : Addr} {tu1 tv1 : Tok} {tn1 : Nat} {r2 : Rat} {x2 d2 : Addr} {u2 v2 y2 z2 : Tok} {k2 : Nat} {p2 : Addr} {tu2 tv2 : Tok} {tn2 : Nat} {r3 : Rat} {x3 d3 : Addr} {u3 v3 y3 z3 : Tok} {k3 : Nat} {p3 : Addr} {tu3 tv3 : Tok} {tn3 : Nat} {n : Int} {tn : Tok} {c0 c1 c2 c3 c4 : Obj} {k : Int} {tk : Tok} (hk0 : 0 ≤ k) (hk3 : k < 3) (hm1 : m (Str.ofString "k") = some (.int k tk)) (hpk : ([.ref p1, .ref p2, .ref p3] : List Value)[k.toNat]? = some (.ref pt)) (hxk : ([.ref x1, .ref x2, .ref x3] : List Value)[k.toNat]? = some (.ref x)) (hs : Sm r) (hn : -15 ≤ n ∧ n ≤ 15) (hs1 : Sm r1) (hs2 : Sm r2) (hs3 : Sm r3) (hc0 : c0.data = .cell (some (.ref rl))) (hc1 : c1.data = .cell (some (.int n tn))) (hc2 : c2.data = .cell (none)) (hc3 : c3.data = .cell (some (.ref pl))) (hc4 : c4.data = .cell (none)) (N : News h₀ L s.heap ((x, instObj 165 dx) :: (dx, fdict w r.num r.den u v yy z kk) :: (pt, tup2 r.num r.den tu tv tn') :: (pl, listOf ([.ref p1, .ref p2, .ref p3] : List Value).toArray np) :: (p1, tup2 r1.num r1.den tu1 tv1 tn1) :: (p2, tup2 r2.num r2.den tu2 tv2 tn2) :: (p3, tup2 r3.num r3.den tu3 tv3 tn3) :: (rl, listOf ([.ref x1, .ref x2, .ref x3] : List Value).toArray nr) :: (x1, instObj 165 d1) :: (d1, fdict w r1.num r1.den u1 v1 y1 z1 k1) :: (x2, instObj 165 d2) :: (d2, fdict w r2.num r2.den u2 v2 y2 z2 k2) :: (x3, instObj 165 d3) :: (d3, fdict w r3.num r3.den u3 v3 y3 z3 k3) :: (L + 1 + 1 + 1 + 1 + 1, c4) :: (L + 1 + 1 + 1 + 1, c3) :: (L + 1 + 1 + 1, c2) :: (L + 1 + 1, c1) :: (L + 1, c0) :: (ex ++ te))) (hret : ∀ m' h' tk' te', Tabs te' → Fr h₀ L h' m' → News h₀ L h' ((x, instObj 165 dx) :: (dx, fdict w r.num r.den u v yy z kk) :: (pt, tup2 r.num r.den tu tv tn') :: (pl, listOf ([.ref p1, .ref p2, .ref p3] : List Value).toArray np) :: (p1, tup2 r1.num r1.den tu1 tv1 tn1) :: (p2, tup2 r2.num r2.den tu2 tv2 tn2) :: (p3, tup2 r3.num r3.den tu3 tv3 tn3) :: (rl, listOf ([.ref x1, .ref x2, .ref x3] : List Value).toArray nr) :: (x1, instObj 165 d1) :: (d1, fdict w r1.num r1.den u1 v1 y1 z1 k1) :: (x2, instObj 165 d2) :: (d2, fdict w r2.num r2.den u2 v2 y2 z2 k2) :: (x3, instObj 165 d3) :: (d3, fdict w r3.num r3.den u3 v3 y3 z3 k3) :: (L + 1 + 1 + 1 + 1 + 1, c4) :: (L + 1 + 1 + 1 + 1, c3) :: (L + 1 + 1 + 1, c2) :: (L + 1 + 1, c1) :: (L + 1, c0) :: (ex ++ te')) → Q .next { s with heap := h', toks := tk' }),
    wpAny (model PySem.Challenge.rw_at5001_01.row.prog w) (callerA.deeper (lawEnv sc L fa)) (execs t (lawEnv sc L fa)) Q E s := by
  intro w sc fa p loose mean mg mb h₀ L m s Q E t ht hsc B F X T C hL ex te nx TS x dx pt r u v yy z tu tv kk tn' pl rl np nr r1 x1 d1 u1 v1 y1 z1 k1 p1 tu1 tv1 tn1 r2 x2 d2 u2 v2 y2 z2 k2 p2 tu2 tv2 tn2 r3 x3 d3 u3 v3 y3 z3 k3 p3 tu3 tv3 tn3 n tn c0 c1 c2 c3 c4 k tk hk0 hk3 hm1 hpk hxk hs hn hs1 hs2 hs3 hc0 hc1 hc2 hc3 hc4 N hret
  replace ht : _ :: _ :: _ :: _ :: _ :: [] = _ := ht
  subst ht
  refine wpAny_execs_cons (segT0 rfl hsc B F X T C hL nx TS hk0 hk3 hm1 hpk hc0 hc1 hc2 hc3 hc4 N fun m1 tt tl h1 tk1 i1 i2 i3 F1 N1 => ?_)
  refine wpAny_execs_cons (segT1 rfl hsc B F1 X T C hL nx TS hk0 hk3 i1 i2 i3 hxk hs hn hc0 hc1 hc2 hc3 hc4 N1 fun h2 tk2 te2 TS2 F2 N2 => ?_)
  refine wpAny_execs_cons (segT2 rfl hsc B F2 X T C hL nx TS2 hk0 hk3 i1 i2 i3 hxk hs hn hc0 hc1 hc2 hc3 hc4 N2 fun h3 tk3 te3 TS3 F3 N3 => ?_)
  refine wpAny_execs_cons (segT3 rfl hsc B F3 X T C hL nx TS3 hk0 hk3 i1 i2 i3 hxk hs hn hc0 hc1 hc2 hc3 hc4 N3 fun h4 tk4 te4 TS4 F4 N4 => ?_)
  refine wpAny_execs_cons (segT4 rfl hsc B F4 X T C hL nx TS4 hk0 hk3 i1 i2 i3 hxk hs hn hs1 hs2 hs3 hc0 hc1 hc2 hc3 hc4 N4 fun m5 h5 tk5 te5 TS5 _ _ _ F5 N5 => ?_)
  exact wpAny_execs_nil (hret _ _ _ _ TS5 F5 N5)
end
section
local macro_rules | `(tactic| walk_at "exec For Name Call cons nil") => `(tactic| (k_here; (rename Fr _ _ _ _ => lF'); (with_unfolding_all refine' For_invVF lF' ?k1 ?k2 ?_; (case k1 => exact rfl); (case k2 => exact rfl); k_whole)))
local macro_rules | `(tactic| walk_at "pyIter ref") => `(tactic| ((with_reducible show wpAny _ _ (pyIter (Value.ref _)) (fun it s₂ => LoopAtV _ _ _ _ _ _ _ _ _ it s₂) _ _); refine Stop.mk ?_))
theorem segA2 : ∀ {w : World} {sc : Scope} {fa : Addr} {p : Program} {loose : List Str} {mean : ExcName → Option Value} {mg mb : Str → Option Value} {h₀ : Heap} {L : Addr} {m : Str → Option Value} {s : Shared} {Q : Flow → Shared → Prop} {E : Value → Shared → Prop} {t : Stmt} (ht : lawParts.1[2]? = some t) (hsc : lawParts.2 = sc) (B : Below callerA h₀ [] h₀) (F : Fr h₀ L s.heap m) (X : (Mine.hd.heap_39 w.params).In h₀) (T : Top p loose mean mg mb h₀) (C : CodeHd h₀ 215 213) (hL : 213 < L) {pl nl : Addr} {n n2 : Nat} {x0 x1 x2 x3 x4 x5 x6 : Int} {t0 t1 t2 t3 t4 t5 t6 : Tok} {c0 c1 c2 c3 c4 : Obj} (hp : nl < pl) (hn : L + 1 + 1 + 1 + 1 + 1 < nl) (hm1 : m (Str.ofString "numbers") = some (.ref nl)) (hc0 : c0.data = .cell (none)) (hc1 : c1.data = .cell (none)) (hc2 : c2.data = .cell (none)) (hc3 : c3.data = .cell (some (.ref pl))) (hc4 : c4.data = .cell (none)) (N : News h₀ L s.heap ((pl, listOf #[] n) :: (nl, listOf ([.int x0 t0, .int x1 t1, .int x2 t2, .int x3 t3, .int x4 t4, .int x5 t5, .int x6 t6] : List Value).toArray n2) :: (L + 1 + 1 + 1 + 1 + 1, c4) :: (L + 1 + 1 + 1 + 1, c3) :: (L + 1 + 1 + 1, c2) :: (L + 1 + 1, c1) :: (L + 1, c0) :: [(206, tabObj #[]), (199, tabObj #[]), (213, tabObj #[])])) (hret : ∀ q1 a1 b1 ta1 tb1 na1 q2 a2 b2 ta2 tb2 na2 q3 a3 b3 ta3 tb3 na3 n' m' h' tk', InLow b1 → -20 ≤ a1 ∧ a1 ≤ 20 → pl < q1 → InLow b2 → -20 ≤ a2 ∧ a2 ≤ 20 → pl < q2 → InLow b3 → -20 ≤ a3 ∧ a3 ≤ 20 → pl < q3 → m' (Str.ofString "numbers") = some (.ref nl) → Fr h₀ L h' m' → News h₀ L h' ((q1, tup2 a1 b1 ta1 tb1 na1) :: (q2, tup2 a2 b2 ta2 tb2 na2) :: (q3, tup2 a3 b3 ta3 tb3 na3) :: (pl, listOf #[.ref q1, .ref q2, .ref q3] n') :: (nl, listOf ([.int x0 t0, .int x1 t1, .int x2 t2, .int x3 t3, .int x4 t4, .int x5 t5, .int x6 t6] : List Value).toArray n2) :: (L + 1 + 1 + 1 + 1 + 1, c4) :: (L + 1 + 1 + 1 + 1, c3) :: (L + 1 + 1 + 1, c2) :: (L + 1 + 1, c1) :: (L + 1, c0) :: [(206, tabObj #[]), (199, tabObj #[]), (213, tabObj #[])]) → Q .next { s with heap := h', toks := tk' }),
    wpAny (model PySem.Challenge.rw_at5001_01.row.prog w) (callerA.deeper (lawEnv sc L fa)) (exec t (lawEnv sc L fa)) Q E s := by
  k_fill
  intro w sc fa p loose mean mg mb h₀ L m s Q E t ht hsc B F X T C hL pl nl n n2 x0 x1 x2 x3 x4 x5 x6 t0 t1 t2 t3 t4 t5 t6 c0 c1 c2 c3 c4 hp hn hm1 hc0 hc1 hc2 hc3 hc4 N hret
  replace hsc : (⟨_, _, _, _, _⟩ : Scope) = _ := hsc
  subst hsc
  replace ht : some _ = some _ := ht
  obtain rfl := Option.some.inj ht
  clear ht
  replace hL := ltN hL
  replace hp := ltN hp
  replace hn := ltN hn
  w_on
  refine wpAny_mono (E := fun _ _ => False) ?_ (fun _ _ h => h) (fun _ _ h => h.elim)
  k_steps
  unfold Stop
  rename Fr _ _ _ _ => lF
  rename News _ _ _ _ => lN'
  rename IsRange _ _ _ _ _ _ _ _ => lR
  have lN : News h₀ L _ ((pl, listOf #[] n) :: (nl, listOf ([.int x0 t0, .int x1 t1, .int x2 t2, .int x3 t3, .int x4 t4, .int x5 t5, .int x6 t6] : List Value).toArray n2) :: (L + 1 + 1 + 1 + 1 + 1, c4) :: (L + 1 + 1 + 1 + 1, c3) :: (L + 1 + 1 + 1, c2) :: (L + 1 + 1, c1) :: (L + 1, c0) :: [(206, tabObj #[]), (199, tabObj #[]), (213, tabObj #[])]) := cb_drop lN' (by ((repeat (first | exact List.forall_mem_nil _ | (refine List.forall_mem_cons.mpr ⟨by k_mem, ?_⟩))); (try (intro p hp; (first | ((repeat (first | exact hp | refine List.Mem.tail _ ?_)); done) | ((rcases List.mem_append.mp hp with hp | hp) <;> ((repeat (first | exact hp | exact List.mem_append_left _ hp | exact List.mem_append_right _ hp | exact List.mem_append_left _ (List.Mem.tail _ hp) | refine List.Mem.tail _ ?_)); done)))))))
  with_unfolding_all refine iter_rangeUnr (n := 3) (by rfl) lR (by decide) (by decide) lF lN ?_
  clear lF lN lN' lR
  intro I hI
  have hpI : pl < I := hI (pl, _) (.head _)
  clear hI
  replace hpI := ltN hpI
  refine RangeRest.succ fun t10 h10 tk10 F10 N10 => ?_
  rw [Int.zero_add] at F10
  refine segA2t (te := [(206, tabObj #[]), (199, tabObj #[]), (213, tabObj #[])]) (I := I) (pl := pl) (nl := nl) (its := #[]) rfl rfl B F10 X T C hL ?hte1 (k := ((0 : Nat) : Int)) (by decide) (by decide) rfl rfl (by simp) hpI hp hn ((if_neg (by decide)).trans hm1) (if_pos rfl) hc0 hc1 hc2 hc3 hc4 (cb_drop N10 (by ((repeat (first | exact List.forall_mem_nil _ | (refine List.forall_mem_cons.mpr ⟨by k_mem, ?_⟩))); (try (intro p hp; (first | ((repeat (first | exact hp | refine List.Mem.tail _ ?_)); done) | ((rcases List.mem_append.mp hp with hp | hp) <;> ((repeat (first | exact hp | exact List.mem_append_left _ hp | exact List.mem_append_right _ hp | exact List.mem_append_left _ (List.Mem.tail _ hp) | refine List.Mem.tail _ ?_)); done)))))))) ?_
  case hte1 => (repeat (first | exact List.forall_mem_nil _ | (refine List.forall_mem_cons.mpr ⟨by (refine neN ?_; (try dsimp only); omega), ?_⟩)))
  intro q1 l1 t'1 u'1 nn1 n'1 m1 h1 tk1 il1 im1 iq1 F1 N1
  replace iq1 := ltN iq1
  refine UnrEnd.intro F1 N1 ((q1, tup2 (x0.fmod 41 - 20) l1 t'1 u'1 nn1) :: (pl, listOf (#[].push (.ref q1)) n'1) :: (nl, listOf ([.int x0 t0, .int x1 t1, .int x2 t2, .int x3 t3, .int x4 t4, .int x5 t5, .int x6 t6] : List Value).toArray n2) :: (L + 1 + 1 + 1 + 1 + 1, c4) :: (L + 1 + 1 + 1 + 1, c3) :: (L + 1 + 1 + 1, c2) :: (L + 1 + 1, c1) :: (L + 1, c0) :: [(206, tabObj #[]), (199, tabObj #[]), (213, tabObj #[])]) (by ((repeat (first | exact List.forall_mem_nil _ | (refine List.forall_mem_cons.mpr ⟨by k_mem, ?_⟩))); (try (intro p hp; (first | ((repeat (first | exact hp | refine List.Mem.tail _ ?_)); done) | ((rcases List.mem_append.mp hp with hp | hp) <;> ((repeat (first | exact hp | exact List.mem_append_left _ hp | exact List.mem_append_right _ hp | exact List.mem_append_left _ (List.Mem.tail _ hp) | refine List.Mem.tail _ ?_)); done))))))) (by (repeat (first | exact List.forall_mem_nil _ | (refine List.forall_mem_cons.mpr ⟨by (refine neN ?_; (try dsimp only); omega), ?_⟩)))) ?_
  refine RangeRest.succ fun t20 h20 tk20 F20 N20 => ?_
  rw [Int.zero_add] at F20
  refine segA2t (te := (q1, tup2 (x0.fmod 41 - 20) l1 t'1 u'1 nn1) :: [(206, tabObj #[]), (199, tabObj #[]), (213, tabObj #[])]) (I := I) (pl := pl) (nl := nl) (its := (#[].push (.ref q1))) rfl rfl B F20 X T C hL ?hte2 (k := ((1 : Nat) : Int)) (by decide) (by decide) rfl rfl (by simp) hpI hp hn ((if_neg (by decide)).trans im1) (if_pos rfl) hc0 hc1 hc2 hc3 hc4 (cb_drop N20 (by ((repeat (first | exact List.forall_mem_nil _ | (refine List.forall_mem_cons.mpr ⟨by k_mem, ?_⟩))); (try (intro p hp; (first | ((repeat (first | exact hp | refine List.Mem.tail _ ?_)); done) | ((rcases List.mem_append.mp hp with hp | hp) <;> ((repeat (first | exact hp | exact List.mem_append_left _ hp | exact List.mem_append_right _ hp | exact List.mem_append_left _ (List.Mem.tail _ hp) | refine List.Mem.tail _ ?_)); done)))))))) ?_
  case hte2 => (repeat (first | exact List.forall_mem_nil _ | (refine List.forall_mem_cons.mpr ⟨by (refine neN ?_; (try dsimp only); omega), ?_⟩)))
  intro q2 l2 t'2 u'2 nn2 n'2 m2 h2 tk2 il2 im2 iq2 F2 N2
  replace iq2 := ltN iq2
  refine UnrEnd.intro F2 N2 ((q2, tup2 (x1.fmod 41 - 20) l2 t'2 u'2 nn2) :: (pl, listOf ((#[].push (.ref q1)).push (.ref q2)) n'2) :: (nl, listOf ([.int x0 t0, .int x1 t1, .int x2 t2, .int x3 t3, .int x4 t4, .int x5 t5, .int x6 t6] : List Value).toArray n2) :: (L + 1 + 1 + 1 + 1 + 1, c4) :: (L + 1 + 1 + 1 + 1, c3) :: (L + 1 + 1 + 1, c2) :: (L + 1 + 1, c1) :: (L + 1, c0) :: (q1, tup2 (x0.fmod 41 - 20) l1 t'1 u'1 nn1) :: [(206, tabObj #[]), (199, tabObj #[]), (213, tabObj #[])]) (by ((repeat (first | exact List.forall_mem_nil _ | (refine List.forall_mem_cons.mpr ⟨by k_mem, ?_⟩))); (try (intro p hp; (first | ((repeat (first | exact hp | refine List.Mem.tail _ ?_)); done) | ((rcases List.mem_append.mp hp with hp | hp) <;> ((repeat (first | exact hp | exact List.mem_append_left _ hp | exact List.mem_append_right _ hp | exact List.mem_append_left _ (List.Mem.tail _ hp) | refine List.Mem.tail _ ?_)); done))))))) (by (repeat (first | exact List.forall_mem_nil _ | (refine List.forall_mem_cons.mpr ⟨by (refine neN ?_; (try dsimp only); omega), ?_⟩)))) ?_
  refine RangeRest.succ fun t30 h30 tk30 F30 N30 => ?_
  rw [Int.zero_add] at F30
  refine segA2t (te := (q2, tup2 (x1.fmod 41 - 20) l2 t'2 u'2 nn2) :: (q1, tup2 (x0.fmod 41 - 20) l1 t'1 u'1 nn1) :: [(206, tabObj #[]), (199, tabObj #[]), (213, tabObj #[])]) (I := I) (pl := pl) (nl := nl) (its := ((#[].push (.ref q1)).push (.ref q2))) rfl rfl B F30 X T C hL ?hte3 (k := ((2 : Nat) : Int)) (by decide) (by decide) rfl rfl (by simp) hpI hp hn ((if_neg (by decide)).trans im2) (if_pos rfl) hc0 hc1 hc2 hc3 hc4 (cb_drop N30 (by ((repeat (first | exact List.forall_mem_nil _ | (refine List.forall_mem_cons.mpr ⟨by k_mem, ?_⟩))); (try (intro p hp; (first | ((repeat (first | exact hp | refine List.Mem.tail _ ?_)); done) | ((rcases List.mem_append.mp hp with hp | hp) <;> ((repeat (first | exact hp | exact List.mem_append_left _ hp | exact List.mem_append_right _ hp | exact List.mem_append_left _ (List.Mem.tail _ hp) | refine List.Mem.tail _ ?_)); done)))))))) ?_
  case hte3 => (repeat (first | exact List.forall_mem_nil _ | (refine List.forall_mem_cons.mpr ⟨by (refine neN ?_; (try dsimp only); omega), ?_⟩)))
  intro q3 l3 t'3 u'3 nn3 n'3 m3 h3 tk3 il3 im3 iq3 F3 N3
  replace iq3 := ltN iq3
  refine UnrEnd.intro F3 N3 ((q3, tup2 (x2.fmod 41 - 20) l3 t'3 u'3 nn3) :: (pl, listOf (((#[].push (.ref q1)).push (.ref q2)).push (.ref q3)) n'3) :: (nl, listOf ([.int x0 t0, .int x1 t1, .int x2 t2, .int x3 t3, .int x4 t4, .int x5 t5, .int x6 t6] : List Value).toArray n2) :: (L + 1 + 1 + 1 + 1 + 1, c4) :: (L + 1 + 1 + 1 + 1, c3) :: (L + 1 + 1 + 1, c2) :: (L + 1 + 1, c1) :: (L + 1, c0) :: (q2, tup2 (x1.fmod 41 - 20) l2 t'2 u'2 nn2) :: (q1, tup2 (x0.fmod 41 - 20) l1 t'1 u'1 nn1) :: [(206, tabObj #[]), (199, tabObj #[]), (213, tabObj #[])]) (by ((repeat (first | exact List.forall_mem_nil _ | (refine List.forall_mem_cons.mpr ⟨by k_mem, ?_⟩))); (try (intro p hp; (first | ((repeat (first | exact hp | refine List.Mem.tail _ ?_)); done) | ((rcases List.mem_append.mp hp with hp | hp) <;> ((repeat (first | exact hp | exact List.mem_append_left _ hp | exact List.mem_append_right _ hp | exact List.mem_append_left _ (List.Mem.tail _ hp) | refine List.Mem.tail _ ?_)); done))))))) (by (repeat (first | exact List.forall_mem_nil _ | (refine List.forall_mem_cons.mpr ⟨by (refine neN ?_; (try dsimp only); omega), ?_⟩)))) ?_
  refine RangeRest.zero fun h4 tk4 F4 N4 => ?_
  exact hret q1 _ l1 t'1 u'1 nn1 q2 _ l2 t'2 u'2 nn2 q3 _ l3 t'3 u'3 nn3 n'3 _ _ _ il1 top_rng (ltN (by omega)) il2 top_rng (ltN (by omega)) il3 top_rng (ltN (by omega)) im3 F4 (cb_drop N4 (by ((repeat (first | exact List.forall_mem_nil _ | (refine List.forall_mem_cons.mpr ⟨by k_mem, ?_⟩))); (try (intro p hp; (first | ((repeat (first | exact hp | refine List.Mem.tail _ ?_)); done) | ((rcases List.mem_append.mp hp with hp | hp) <;> ((repeat (first | exact hp | exact List.mem_append_left _ hp | exact List.mem_append_right _ hp | exact List.mem_append_left _ (List.Mem.tail _ hp) | refine List.Mem.tail _ ?_)); done))))))))
end
section
local macro_rules | `(tactic| walk_at "exec For Name Call cons nil") => `(tactic| (k_here; (rename Fr _ _ _ _ => lF'); (with_unfolding_all refine' For_invVF lF' ?k1 ?k2 ?_; (case k1 => exact rfl); (case k2 => exact rfl); k_whole)))
local macro_rules | `(tactic| walk_at "pyIter ref") => `(tactic| ((with_reducible show wpAny _ _ (pyIter (Value.ref _)) (fun it s₂ => LoopAtV _ _ _ _ _ _ _ _ _ it s₂) _ _); refine Stop.mk ?_))
theorem segA6 : ∀ {w : World} {sc : Scope} {fa : Addr} {p : Program} {loose : List Str} {mean : ExcName → Option Value} {mg mb : Str → Option Value} {h₀ : Heap} {L : Addr} {m : Str → Option Value} {s : Shared} {Q : Flow → Shared → Prop} {E : Value → Shared → Prop} {t : Stmt} (ht : lawParts.1[6]? = some t) (hsc : lawParts.2 = sc) (B : Below callerA h₀ [] h₀) (F : Fr h₀ L s.heap m) (X : (Mine.hd.heap_39 w.params).In h₀) (T : Top p loose mean mg mb h₀) (C : CodeHd h₀ 215 213) (hL : 213 < L) {te : Led} (TS : Tabs te) {pl rl : Addr} {np nr : Nat} {r1 : Rat} {x1 d1 : Addr} {u1 v1 y1 z1 : Tok} {k1 : Nat} {p1 : Addr} {tu1 tv1 : Tok} {tn1 : Nat} {r2 : Rat} {x2 d2 : Addr} {u2 v2 y2 z2 : Tok} {k2 : Nat} {p2 : Addr} {tu2 tv2 : Tok} {tn2 : Nat} {r3 : Rat} {x3 d3 : Addr} {u3 v3 y3 z3 : Tok} {k3 : Nat} {p3 : Addr} {tu3 tv3 : Tok} {tn3 : Nat} {n : Int} {tn : Tok} {c0 c1 c2 c3 c4 : Obj} (hn : -15 ≤ n ∧ n ≤ 15) (hs1 : Sm r1) (hs2 : Sm r2) (hs3 : Sm r3) (hc0 : c0.data = .cell (some (.ref rl))) (hc1 : c1.data = .cell (some (.int n tn))) (hc2 : c2.data = .cell (none)) (hc3 : c3.data = .cell (some (.ref pl))) (hc4 : c4.data = .cell (none)) (N : News h₀ L s.heap ((pl, listOf ([.ref p1, .ref p2, .ref p3] : List Value).toArray np) :: (p1, tup2 r1.num r1.den tu1 tv1 tn1) :: (p2, tup2 r2.num r2.den tu2 tv2 tn2) :: (p3, tup2 r3.num r3.den tu3 tv3 tn3) :: (rl, listOf ([.ref x1, .ref x2, .ref x3] : List Value).toArray nr) :: (x1, instObj 165 d1) :: (d1, fdict w r1.num r1.den u1 v1 y1 z1 k1) :: (x2, instObj 165 d2) :: (d2, fdict w r2.num r2.den u2 v2 y2 z2 k2) :: (x3, instObj 165 d3) :: (d3, fdict w r3.num r3.den u3 v3 y3 z3 k3) :: (L + 1 + 1 + 1 + 1 + 1, c4) :: (L + 1 + 1 + 1 + 1, c3) :: (L + 1 + 1 + 1, c2) :: (L + 1 + 1, c1) :: (L + 1, c0) :: te)) (hret : ∀ m' h' tk' te', Tabs te' → Fr h₀ L h' m' → News h₀ L h' ((pl, listOf ([.ref p1, .ref p2, .ref p3] : List Value).toArray np) :: (p1, tup2 r1.num r1.den tu1 tv1 tn1) :: (p2, tup2 r2.num r2.den tu2 tv2 tn2) :: (p3, tup2 r3.num r3.den tu3 tv3 tn3) :: (rl, listOf ([.ref x1, .ref x2, .ref x3] : List Value).toArray nr) :: (x1, instObj 165 d1) :: (d1, fdict w r1.num r1.den u1 v1 y1 z1 k1) :: (x2, instObj 165 d2) :: (d2, fdict w r2.num r2.den u2 v2 y2 z2 k2) :: (x3, instObj 165 d3) :: (d3, fdict w r3.num r3.den u3 v3 y3 z3 k3) :: (L + 1 + 1 + 1 + 1 + 1, c4) :: (L + 1 + 1 + 1 + 1, c3) :: (L + 1 + 1 + 1, c2) :: (L + 1 + 1, c1) :: (L + 1, c0) :: te') → Q .next { s with heap := h', toks := tk' }),
    wpAny (model PySem.Challenge.rw_at5001_01.row.prog w) (callerA.deeper (lawEnv sc L fa)) (exec t (lawEnv sc L fa)) Q E s := by
  k_fill
  intro w sc fa p loose mean mg mb h₀ L m s Q E t ht hsc B F X T C hL te TS pl rl np nr r1 x1 d1 u1 v1 y1 z1 k1 p1 tu1 tv1 tn1 r2 x2 d2 u2 v2 y2 z2 k2 p2 tu2 tv2 tn2 r3 x3 d3 u3 v3 y3 z3 k3 p3 tu3 tv3 tn3 n tn c0 c1 c2 c3 c4 hn hs1 hs2 hs3 hc0 hc1 hc2 hc3 hc4 N hret
  replace hsc : (⟨_, _, _, _, _⟩ : Scope) = _ := hsc
  subst hsc
  replace ht : some _ = some _ := ht
  obtain rfl := Option.some.inj ht
  clear ht
  w_on
  refine wpAny_mono (E := fun _ _ => False) ?_ (fun _ _ h => h) (fun _ _ h => h.elim)
  k_steps
  unfold Stop
  rename Fr _ _ _ _ => lF
  rename News _ _ _ _ => lN'
  rename IsRange _ _ _ _ _ _ _ _ => lR
  have lN : News h₀ L _ ((pl, listOf ([.ref p1, .ref p2, .ref p3] : List Value).toArray np) :: (p1, tup2 r1.num r1.den tu1 tv1 tn1) :: (p2, tup2 r2.num r2.den tu2 tv2 tn2) :: (p3, tup2 r3.num r3.den tu3 tv3 tn3) :: (rl, listOf ([.ref x1, .ref x2, .ref x3] : List Value).toArray nr) :: (x1, instObj 165 d1) :: (d1, fdict w r1.num r1.den u1 v1 y1 z1 k1) :: (x2, instObj 165 d2) :: (d2, fdict w r2.num r2.den u2 v2 y2 z2 k2) :: (x3, instObj 165 d3) :: (d3, fdict w r3.num r3.den u3 v3 y3 z3 k3) :: (L + 1 + 1 + 1 + 1 + 1, c4) :: (L + 1 + 1 + 1 + 1, c3) :: (L + 1 + 1 + 1, c2) :: (L + 1 + 1, c1) :: (L + 1, c0) :: te) := cb_drop lN' (by ((repeat (first | exact List.forall_mem_nil _ | (refine List.forall_mem_cons.mpr ⟨by k_mem, ?_⟩))); (try (intro p hp; (first | ((repeat (first | exact hp | refine List.Mem.tail _ ?_)); done) | ((rcases List.mem_append.mp hp with hp | hp) <;> ((repeat (first | exact hp | exact List.mem_append_left _ hp | exact List.mem_append_right _ hp | exact List.mem_append_left _ (List.Mem.tail _ hp) | refine List.Mem.tail _ ?_)); done)))))))
  with_unfolding_all refine iter_rangeUnr (n := 3) (by rfl) lR (by decide) (by decide) lF lN ?_
  clear lF lN lN' lR
  intro I hI
  refine range_turns (pre := (pl, listOf ([.ref p1, .ref p2, .ref p3] : List Value).toArray np) :: (p1, tup2 r1.num r1.den tu1 tv1 tn1) :: (p2, tup2 r2.num r2.den tu2 tv2 tn2) :: (p3, tup2 r3.num r3.den tu3 tv3 tn3) :: (rl, listOf ([.ref x1, .ref x2, .ref x3] : List Value).toArray nr) :: (x1, instObj 165 d1) :: (d1, fdict w r1.num r1.den u1 v1 y1 z1 k1) :: (x2, instObj 165 d2) :: (d2, fdict w r2.num r2.den u2 v2 y2 z2 k2) :: (x3, instObj 165 d3) :: (d3, fdict w r3.num r3.den u3 v3 y3 z3 k3) :: (L + 1 + 1 + 1 + 1 + 1, c4) :: (L + 1 + 1 + 1 + 1, c3) :: (L + 1 + 1 + 1, c2) :: (L + 1 + 1, c1) :: (L + 1, c0) :: []) (Inv := fun _ => True) (fun p hp => hI p ?_) ?_ ?_ 3 0 _ te rfl TS trivial
  · exact List.mem_append_left te hp
  · intro i t it m' te' s' Q' hi hit TS' _ F' N' hr'
    have hit2 : ∀ ps, it ≠ tabObj ps := by
      obtain ⟨a, b, rfl⟩ := hit
      exact noTab_cls (by intro h; cases h)
    clear hit
    have hii : i = 0 ∨ i = 1 ∨ i = 2 := by omega
    rcases hii with rfl | rfl | rfl
    · refine segT (ex := [(I, it)]) (te := te') (x := x1) (dx := d1) (r := r1) (pt := p1) rfl rfl B F' X T C hL (NoTab.cons hit2 NoTab.nil) TS' (k := ((0 : Nat) : Int)) (by decide) (by decide) (if_pos rfl) rfl rfl hs1 hn hs1 hs2 hs3 hc0 hc1 hc2 hc3 hc4 (cb_drop N' (by ((repeat (first | exact List.forall_mem_nil _ | (refine List.forall_mem_cons.mpr ⟨by k_mem, ?_⟩))); (try (intro p hp; (first | ((repeat (first | exact hp | refine List.Mem.tail _ ?_)); done) | ((rcases List.mem_append.mp hp with hp | hp) <;> ((repeat (first | exact hp | exact List.mem_append_left _ hp | exact List.mem_append_right _ hp | exact List.mem_append_left _ (List.Mem.tail _ hp) | refine List.Mem.tail _ ?_)); done)))))))) ?_
      intro m2 h' tk' te2 TS2 F2 N2
      exact hr' _ _ _ _ TS2 trivial F2 (cb_drop N2 (by ((repeat (first | exact List.forall_mem_nil _ | (refine List.forall_mem_cons.mpr ⟨by k_mem, ?_⟩))); (try (intro p hp; (first | ((repeat (first | exact hp | refine List.Mem.tail _ ?_)); done) | ((rcases List.mem_append.mp hp with hp | hp) <;> ((repeat (first | exact hp | exact List.mem_append_left _ hp | exact List.mem_append_right _ hp | exact List.mem_append_left _ (List.Mem.tail _ hp) | refine List.Mem.tail _ ?_)); done))))))))
    · refine segT (ex := [(I, it)]) (te := te') (x := x2) (dx := d2) (r := r2) (pt := p2) rfl rfl B F' X T C hL (NoTab.cons hit2 NoTab.nil) TS' (k := ((1 : Nat) : Int)) (by decide) (by decide) (if_pos rfl) rfl rfl hs2 hn hs1 hs2 hs3 hc0 hc1 hc2 hc3 hc4 (cb_drop N' (by ((repeat (first | exact List.forall_mem_nil _ | (refine List.forall_mem_cons.mpr ⟨by k_mem, ?_⟩))); (try (intro p hp; (first | ((repeat (first | exact hp | refine List.Mem.tail _ ?_)); done) | ((rcases List.mem_append.mp hp with hp | hp) <;> ((repeat (first | exact hp | exact List.mem_append_left _ hp | exact List.mem_append_right _ hp | exact List.mem_append_left _ (List.Mem.tail _ hp) | refine List.Mem.tail _ ?_)); done)))))))) ?_
      intro m2 h' tk' te2 TS2 F2 N2
      exact hr' _ _ _ _ TS2 trivial F2 (cb_drop N2 (by ((repeat (first | exact List.forall_mem_nil _ | (refine List.forall_mem_cons.mpr ⟨by k_mem, ?_⟩))); (try (intro p hp; (first | ((repeat (first | exact hp | refine List.Mem.tail _ ?_)); done) | ((rcases List.mem_append.mp hp with hp | hp) <;> ((repeat (first | exact hp | exact List.mem_append_left _ hp | exact List.mem_append_right _ hp | exact List.mem_append_left _ (List.Mem.tail _ hp) | refine List.Mem.tail _ ?_)); done))))))))
    · refine segT (ex := [(I, it)]) (te := te') (x := x3) (dx := d3) (r := r3) (pt := p3) rfl rfl B F' X T C hL (NoTab.cons hit2 NoTab.nil) TS' (k := ((2 : Nat) : Int)) (by decide) (by decide) (if_pos rfl) rfl rfl hs3 hn hs1 hs2 hs3 hc0 hc1 hc2 hc3 hc4 (cb_drop N' (by ((repeat (first | exact List.forall_mem_nil _ | (refine List.forall_mem_cons.mpr ⟨by k_mem, ?_⟩))); (try (intro p hp; (first | ((repeat (first | exact hp | refine List.Mem.tail _ ?_)); done) | ((rcases List.mem_append.mp hp with hp | hp) <;> ((repeat (first | exact hp | exact List.mem_append_left _ hp | exact List.mem_append_right _ hp | exact List.mem_append_left _ (List.Mem.tail _ hp) | refine List.Mem.tail _ ?_)); done)))))))) ?_
      intro m2 h' tk' te2 TS2 F2 N2
      exact hr' _ _ _ _ TS2 trivial F2 (cb_drop N2 (by ((repeat (first | exact List.forall_mem_nil _ | (refine List.forall_mem_cons.mpr ⟨by k_mem, ?_⟩))); (try (intro p hp; (first | ((repeat (first | exact hp | refine List.Mem.tail _ ?_)); done) | ((rcases List.mem_append.mp hp with hp | hp) <;> ((repeat (first | exact hp | exact List.mem_append_left _ hp | exact List.mem_append_right _ hp | exact List.mem_append_left _ (List.Mem.tail _ hp) | refine List.Mem.tail _ ?_)); done))))))))
  · intro m' h' tk' te' TS' _ F' N'
    exact hret _ _ _ _ TS' F' N'
end
section
local macro_rules | `(tactic| k_ne) => `(tactic| (refine ne_cell (by k_asm) (by k_mem) (by k_mem) (by assumption) (by exact notCell_of rfl)))
theorem segA7 : ∀ {w : World} {sc : Scope} {fa : Addr} {p : Program} {loose : List Str} {mean : ExcName → Option Value} {mg mb : Str → Option Value} {h₀ : Heap} {L : Addr} {m : Str → Option Value} {s : Shared} {Q : Flow → Shared → Prop} {E : Value → Shared → Prop} {t : Stmt} (ht : lawParts.1[7]? = some t) (hsc : lawParts.2 = sc) (B : Below callerA h₀ [] h₀) (F : Fr h₀ L s.heap m) (X : (Mine.hd.heap_39 w.params).In h₀) (T : Top p loose mean mg mb h₀) (C : CodeHd h₀ 215 213) (hL : 213 < L) {te : Led} (hte : NoCell te) {pl rl : Addr} {np nr : Nat} {r1 : Rat} {x1 d1 : Addr} {u1 v1 y1 z1 : Tok} {k1 : Nat} {p1 : Addr} {tu1 tv1 : Tok} {tn1 : Nat} {r2 : Rat} {x2 d2 : Addr} {u2 v2 y2 z2 : Tok} {k2 : Nat} {p2 : Addr} {tu2 tv2 : Tok} {tn2 : Nat} {r3 : Rat} {x3 d3 : Addr} {u3 v3 y3 z3 : Tok} {k3 : Nat} {p3 : Addr} {tu3 tv3 : Tok} {tn3 : Nat} {n : Int} {tn : Tok} {c0 c1 c2 c3 c4 : Obj} (hc0 : c0.data = .cell (some (.ref rl))) (hc1 : c1.data = .cell (some (.int n tn))) (hc2 : c2.data = .cell (none)) (hc3 : c3.data = .cell (some (.ref pl))) (hc4 : c4.data = .cell (none)) (N : News h₀ L s.heap ((pl, listOf ([.ref p1, .ref p2, .ref p3] : List Value).toArray np) :: (p1, tup2 r1.num r1.den tu1 tv1 tn1) :: (p2, tup2 r2.num r2.den tu2 tv2 tn2) :: (p3, tup2 r3.num r3.den tu3 tv3 tn3) :: (rl, listOf ([.ref x1, .ref x2, .ref x3] : List Value).toArray nr) :: (x1, instObj 165 d1) :: (d1, fdict w r1.num r1.den u1 v1 y1 z1 k1) :: (x2, instObj 165 d2) :: (d2, fdict w r2.num r2.den u2 v2 y2 z2 k2) :: (x3, instObj 165 d3) :: (d3, fdict w r3.num r3.den u3 v3 y3 z3 k3) :: (L + 1 + 1 + 1 + 1 + 1, c4) :: (L + 1 + 1 + 1 + 1, c3) :: (L + 1 + 1 + 1, c2) :: (L + 1 + 1, c1) :: (L + 1, c0) :: te)) (hret : ∀ m' c2' h' tk', c2'.data = .cell (some (.ref x1)) → m' (Str.ofString "two") = some (.ref x2) → m' (Str.ofString "three") = some (.ref x3) → Fr h₀ L h' m' → News h₀ L h' ((pl, listOf ([.ref p1, .ref p2, .ref p3] : List Value).toArray np) :: (p1, tup2 r1.num r1.den tu1 tv1 tn1) :: (p2, tup2 r2.num r2.den tu2 tv2 tn2) :: (p3, tup2 r3.num r3.den tu3 tv3 tn3) :: (rl, listOf ([.ref x1, .ref x2, .ref x3] : List Value).toArray nr) :: (x1, instObj 165 d1) :: (d1, fdict w r1.num r1.den u1 v1 y1 z1 k1) :: (x2, instObj 165 d2) :: (d2, fdict w r2.num r2.den u2 v2 y2 z2 k2) :: (x3, instObj 165 d3) :: (d3, fdict w r3.num r3.den u3 v3 y3 z3 k3) :: (L + 1 + 1 + 1 + 1 + 1, c4) :: (L + 1 + 1 + 1 + 1, c3) :: (L + 1 + 1 + 1, c2') :: (L + 1 + 1, c1) :: (L + 1, c0) :: te) → Q .next { s with heap := h', toks := tk' }),
    wpAny (model PySem.Challenge.rw_at5001_01.row.prog w) (callerA.deeper (lawEnv sc L fa)) (exec t (lawEnv sc L fa)) Q E s := by
  k_fill
  intro w sc fa p loose mean mg mb h₀ L m s Q E t ht hsc B F X T C hL te hte pl rl np nr r1 x1 d1 u1 v1 y1 z1 k1 p1 tu1 tv1 tn1 r2 x2 d2 u2 v2 y2 z2 k2 p2 tu2 tv2 tn2 r3 x3 d3 u3 v3 y3 z3 k3 p3 tu3 tv3 tn3 n tn c0 c1 c2 c3 c4 hc0 hc1 hc2 hc3 hc4 N hret
  replace hsc : (⟨_, _, _, _, _⟩ : Scope) = _ := hsc
  subst hsc
  replace ht : some _ = some _ := ht
  obtain rfl := Option.some.inj ht
  clear ht
  have hoff : ∀ p ∈ te, p.1 ≠ L + 1 + 1 + 1 := te_off N (by intro p hp; (repeat (first | exact hp | refine List.Mem.tail _ ?_))) (by k_mem) hc2 hte
  k_steps
  all_goals (
    refine' hret _ _ _ _ ?qd ?qm1 ?qm2 ?qf ?qn
    (case qf => assumption)
    (case qn => first | assumption | (refine' cb_drop ?qN ?qS; (case qN => assumption); (case qS => (repeat (first | exact List.forall_mem_nil _ | exact fun _ h => h | (intro p hp; ((repeat (first | exact hp | refine List.Mem.tail _ ?_)); done)) | (refine List.forall_mem_cons.mpr ⟨by k_mem, ?_⟩))))))
    (case qd => assumption)
    (case qm1 => (first | assumption | exact if_pos rfl | (refine (if_neg (by decide)).trans ?_; first | assumption | exact if_pos rfl | (refine (if_neg (by decide)).trans ?_; first | assumption | exact if_pos rfl))))
    (case qm2 => (first | assumption | exact if_pos rfl | (refine (if_neg (by decide)).trans ?_; first | assumption | exact if_pos rfl | (refine (if_neg (by decide)).trans ?_; first | assumption | exact if_pos rfl))))
)
end
section
local macro_rules | `(tactic| k_ne) => `(tactic| (refine ne_cell (by k_asm) (by k_mem) (by k_mem) (by assumption) (by exact notCell_of rfl)))
local macro_rules | `(tactic| walk_at "subscriptTail Subscript") => `(tactic| (k_here; (with_reducible show wpAny _ _ (subscriptTail _ _ (Value.ref _) (Value.int _ _)) _ _ _); k_dflt (refine' item_tupleT ?t ?a ?b ?c ?d ?_; (case t => exact News.isTup (by k_asm) (by k_mem)); (case a => decide); (case b => decide); (case c => rfl); (case d => rfl); k_whole)))
local macro_rules | `(tactic| walk_at "subscriptTail Name Constant ref int") => `(tactic| (k_here; (with_reducible show wpAny _ _ (subscriptTail _ _ (Value.ref _) (Value.int _ _)) _ _ _); (with_unfolding_all refine' item_litK ?k1 ?k2 ?k3 ?k4 ?_ ?k6; (case k1 => is_list); (case k2 => decide); (case k3 => decide); (case k4 => rfl); (case k6 => with_unfolding_all rfl); k_whole)))
theorem segA10 : ∀ {w : World} {sc : Scope} {fa : Addr} {p : Program} {loose : List Str} {mean : ExcName → Option Value} {mg mb : Str → Option Value} {h₀ : Heap} {L : Addr} {m : Str → Option Value} {s : Shared} {Q : Flow → Shared → Prop} {E : Value → Shared → Prop} {t : Stmt} (ht : lawParts.1[10]? = some t) (hsc : lawParts.2 = sc) (B : Below callerA h₀ [] h₀) (F : Fr h₀ L s.heap m) (X : (Mine.hd.heap_39 w.params).In h₀) (T : Top p loose mean mg mb h₀) (C : CodeHd h₀ 215 213) (hL : 213 < L) {te : Led} (hte : NoCell te) {pl rl : Addr} {np nr : Nat} {r1 : Rat} {x1 d1 : Addr} {u1 v1 y1 z1 : Tok} {k1 : Nat} {p1 : Addr} {tu1 tv1 : Tok} {tn1 : Nat} {r2 : Rat} {x2 d2 : Addr} {u2 v2 y2 z2 : Tok} {k2 : Nat} {p2 : Addr} {tu2 tv2 : Tok} {tn2 : Nat} {r3 : Rat} {x3 d3 : Addr} {u3 v3 y3 z3 : Tok} {k3 : Nat} {p3 : Addr} {tu3 tv3 : Tok} {tn3 : Nat} {n : Int} {tn : Tok} {c0 c1 c2 c3 c4 : Obj} (hs1 : Sm r1) (hs2 : Sm r2) (hs3 : Sm r3) (hc0 : c0.data = .cell (some (.ref rl))) (hc1 : c1.data = .cell (some (.int n tn))) (hc2 : c2.data = .cell (some (.ref x1))) (hc3 : c3.data = .cell (some (.ref pl))) (hc4 : c4.data = .cell (none)) (N : News h₀ L s.heap ((pl, listOf ([.ref p1, .ref p2, .ref p3] : List Value).toArray np) :: (p1, tup2 r1.num r1.den tu1 tv1 tn1) :: (p2, tup2 r2.num r2.den tu2 tv2 tn2) :: (p3, tup2 r3.num r3.den tu3 tv3 tn3) :: (rl, listOf ([.ref x1, .ref x2, .ref x3] : List Value).toArray nr) :: (x1, instObj 165 d1) :: (d1, fdict w r1.num r1.den u1 v1 y1 z1 k1) :: (x2, instObj 165 d2) :: (d2, fdict w r2.num r2.den u2 v2 y2 z2 k2) :: (x3, instObj 165 d3) :: (d3, fdict w r3.num r3.den u3 v3 y3 z3 k3) :: (L + 1 + 1 + 1 + 1 + 1, c4) :: (L + 1 + 1 + 1 + 1, c3) :: (L + 1 + 1 + 1, c2) :: (L + 1 + 1, c1) :: (L + 1, c0) :: te)) (hret : ∀ tw c4' h' tk', c4'.data = .cell (some (.int (r1.den * r2.den * r3.den) tw)) → Fr h₀ L h' m → News h₀ L h' ((pl, listOf ([.ref p1, .ref p2, .ref p3] : List Value).toArray np) :: (p1, tup2 r1.num r1.den tu1 tv1 tn1) :: (p2, tup2 r2.num r2.den tu2 tv2 tn2) :: (p3, tup2 r3.num r3.den tu3 tv3 tn3) :: (rl, listOf ([.ref x1, .ref x2, .ref x3] : List Value).toArray nr) :: (x1, instObj 165 d1) :: (d1, fdict w r1.num r1.den u1 v1 y1 z1 k1) :: (x2, instObj 165 d2) :: (d2, fdict w r2.num r2.den u2 v2 y2 z2 k2) :: (x3, instObj 165 d3) :: (d3, fdict w r3.num r3.den u3 v3 y3 z3 k3) :: (L + 1 + 1 + 1 + 1 + 1, c4') :: (L + 1 + 1 + 1 + 1, c3) :: (L + 1 + 1 + 1, c2) :: (L + 1 + 1, c1) :: (L + 1, c0) :: te) → Q .next { s with heap := h', toks := tk' }),
    wpAny (model PySem.Challenge.rw_at5001_01.row.prog w) (callerA.deeper (lawEnv sc L fa)) (exec t (lawEnv sc L fa)) Q E s := by
  k_fill
  intro w sc fa p loose mean mg mb h₀ L m s Q E t ht hsc B F X T C hL te hte pl rl np nr r1 x1 d1 u1 v1 y1 z1 k1 p1 tu1 tv1 tn1 r2 x2 d2 u2 v2 y2 z2 k2 p2 tu2 tv2 tn2 r3 x3 d3 u3 v3 y3 z3 k3 p3 tu3 tv3 tn3 n tn c0 c1 c2 c3 c4 hs1 hs2 hs3 hc0 hc1 hc2 hc3 hc4 N hret
  replace hsc : (⟨_, _, _, _, _⟩ : Scope) = _ := hsc
  subst hsc
  replace ht : some _ = some _ := ht
  obtain rfl := Option.some.inj ht
  clear ht
  have hoff : ∀ p ∈ te, p.1 ≠ L + 1 + 1 + 1 + 1 + 1 := te_off N (by intro p hp; (repeat (first | exact hp | refine List.Mem.tail _ ?_))) (by k_mem) hc4 hte
  have hd1 := hs1.den
  have hd2 := hs2.den
  have hd3 := hs3.den
  k_steps
  all_goals (
    refine' hret _ _ _ _ ?qd ?qf ?qn
    (case qf => assumption)
    (case qn => first | assumption | (refine' cb_drop ?qN ?qS; (case qN => assumption); (case qS => (repeat (first | exact List.forall_mem_nil _ | exact fun _ h => h | (intro p hp; ((repeat (first | exact hp | refine List.Mem.tail _ ?_)); done)) | (refine List.forall_mem_cons.mpr ⟨by k_mem, ?_⟩))))))
    (case qd => assumption)
)
end
section
theorem law_body : ∀ {w : World} {sc : Scope} {fa : Addr} {p : Program} {loose : List Str} {mean : ExcName → Option Value} {mg mb : Str → Option Value} {h₀ : Heap} {L : Addr} {m : Str → Option Value} {s : Shared} {Q : Flow → Shared → Prop} {E : Value → Shared → Prop} {t : List Stmt} (ht : lawParts.1 = t) (hsc : lawParts.2 = sc) (B : Below callerA h₀ [] h₀) (F : Fr h₀ L s.heap m) (X : (Mine.hd.heap_39 w.params).In h₀) (T : Top p loose mean mg mb h₀) (C : CodeHd h₀ 215 213) (hL : 213 < L) {sl : Addr} {ws : List Value} {ns : List Int} {c0 c1 c2 c3 c4 : Obj} (IL : h₀.IsList sl ws.toArray) (IA : IntsAre ws ns) (hcond : ns.length ≤ 63) (hm : m (Str.ofString "script") = some (.ref sl)) (hc0 : c0.data = .cell (none)) (hc1 : c1.data = .cell (none)) (hc2 : c2.data = .cell (none)) (hc3 : c3.data = .cell (none)) (hc4 : c4.data = .cell (none)) (N : News h₀ L s.heap ((L + 1 + 1 + 1 + 1 + 1, c4) :: (L + 1 + 1 + 1 + 1, c3) :: (L + 1 + 1 + 1, c2) :: (L + 1 + 1, c1) :: (L + 1, c0) :: [(206, tabObj #[]), (199, tabObj #[]), (213, tabObj #[])])) (hret : ∀ m' h' tk' te' led, Tabs te' → Fr h₀ L h' m' → News h₀ L h' (led ++ te') → Q (.ret (.bool true)) { s with heap := h', toks := tk' }),
    wpAny (model PySem.Challenge.rw_at5001_01.row.prog w) (callerA.deeper (lawEnv sc L fa)) (execs t (lawEnv sc L fa)) Q E s := by
  intro w sc fa p loose mean mg mb h₀ L m s Q E t ht hsc B F X T C hL sl ws ns c0 c1 c2 c3 c4 IL IA hcond hm hc0 hc1 hc2 hc3 hc4 N hret
  replace ht : _ :: _ :: _ :: _ :: _ :: _ :: _ :: _ :: _ :: _ :: _ :: _ :: _ :: _ :: _ :: _ :: [] = _ := ht
  subst ht
  refine wpAny_execs_cons (segA0 rfl hsc B F X T C hL IL IA hcond hm hc0 hc1 hc2 hc3 hc4 N fun nl nn ws1 m1 h1 tk1 hI hm1 hn F1 N1 => ?_)
  obtain ⟨x0, x1, x2, x3, x4, x5, x6, t0, t1, t2, t3, t4, t5, t6, e7⟩ := ints7 hI (len7 _)
  subst e7
  clear hI
  refine wpAny_execs_cons (segA1 rfl hsc B F1 X T C hL hn hc0 hc1 hc2 hc3 hc4 N1 fun pl0 n1 g3 h2 tk2 hg3 hp F2 N2 => ?_)
  refine wpAny_execs_cons (segA2 rfl hsc B F2 X T C hL hp hn hm1 hc0 hc1 hc2 hg3 hc4 N2 fun q1 a1 b1 ta1 tb1 na1 q2 a2 b2 ta2 tb2 na2 q3 a3 b3 ta3 tb3 na3 n2 m3 h3 tk3 il1 ir1 iq1 il2 ir2 iq2 il3 ir3 iq3 hm3 F3 N3 => ?_)
  have lq : ∀ q : Addr, pl0 < q → L + 1 + 1 + 1 + 1 + 1 < q := fun q hq => Nat.lt_trans (Nat.lt_trans hn hp) hq
  refine wpAny_execs_cons (segA3 rfl hsc B F3 X T C hL hn hp (lq _ iq1) (lq _ iq2) (lq _ iq3) hm3 hc0 hc1 hc2 hg3 hc4 N3 fun n tn g1 h4 tk4 hg1 hnr F4 N4 => ?_)
  refine wpAny_execs_cons (segA4 rfl hsc B F4 X T C hL il1 il2 il3 hc0 hg1 hc2 hg3 hc4 N4 fun rl nr x1 d1 x2 d2 x3 d3 u1 v1 y1 z1 k1 u2 v2 y2 z2 k2 u3 v3 y3 z3 k3 g0 h5 tk5 hg0 F5 N5 => ?_)
  refine wpAny_execs_cons (segA5 rfl hsc B F5 X T C hL il1 il2 il3 hg0 hg1 hc2 hg3 hc4 N5 fun pl np p1 tu1 tv1 tn1 p2 tu2 tv2 tn2 p3 tu3 tv3 tn3 f3 h6 tk6 hf3 F6 N6 => ?_)
  have s1 : Sm (Rat.divInt a1 b1) := Sm.of ir1 il1
  have s2 : Sm (Rat.divInt a2 b2) := Sm.of ir2 il2
  have s3 : Sm (Rat.divInt a3 b3) := Sm.of ir3 il3
  clear N5 N4 N3 N2 N1 F5 F4 F3 F2 F1
  revert N6 s1 s2 s3
  generalize (Rat.divInt a1 b1) = r1
  generalize (Rat.divInt a2 b2) = r2
  generalize (Rat.divInt a3 b3) = r3
  intro N6 s1 s2 s3
  refine wpAny_execs_cons (segA6 rfl hsc B F6 X T C hL tabs_start hnr s1 s2 s3 hg0 hg1 hc2 hf3 hc4 N6 fun m7 h7 tk7 te7 TS7 F7 N7 => ?_)
  have N7' := news_clean (pre := (pl, listOf ([.ref p1, .ref p2, .ref p3] : List Value).toArray np) :: (p1, tup2 r1.num r1.den tu1 tv1 tn1) :: (p2, tup2 r2.num r2.den tu2 tv2 tn2) :: (p3, tup2 r3.num r3.den tu3 tv3 tn3) :: (rl, listOf ([.ref x1, .ref x2, .ref x3] : List Value).toArray nr) :: (x1, instObj 165 d1) :: (d1, fdict w r1.num r1.den u1 v1 y1 z1 k1) :: (x2, instObj 165 d2) :: (d2, fdict w r2.num r2.den u2 v2 y2 z2 k2) :: (x3, instObj 165 d3) :: (d3, fdict w r3.num r3.den u3 v3 y3 z3 k3) :: (L + 1 + 1 + 1 + 1 + 1, c4) :: (L + 1 + 1 + 1 + 1, f3) :: (L + 1 + 1 + 1, c2) :: (L + 1 + 1, g1) :: (L + 1, g0) :: []) N7
  refine wpAny_execs_cons (segA7 rfl hsc B F7 X T C hL cleanT_noCell hg0 hg1 hc2 hf3 hc4 N7' fun m8 g2 h8 tk8 hg2 hm2 hm3' F8 N8 => ?_)
  refine wpAny_execs_cons (segA8 rfl hsc B F8 X T C hL hm2 hm3' s1 s2 s3 hg0 hg1 hg2 hf3 hc4 N8 fun h9 tk9 F9 N9 => ?_)
  refine wpAny_execs_cons (segA9 rfl hsc B F9 X T C hL hm2 hm3' hnr s1 s2 s3 hg0 hg1 hg2 hf3 hc4 N9 fun h10 tk10 F10 N10 => ?_)
  refine wpAny_execs_cons (segA10 rfl hsc B F10 X T C hL cleanT_noCell s1 s2 s3 hg0 hg1 hg2 hf3 hc4 N10 fun tw g4 h11 tk11 hg4 F11 N11 => ?_)
  refine wpAny_execs_cons (segA11 rfl hsc B F11 X T C hL TS7.clean (wh_rng s1 s2 s3) s1 s2 s3 hg0 hg1 hg2 hf3 hg4 N11 fun m12 ol no o0 o1 o2 to0 to1 to2 h12 tk12 te12 TS12 hord hmo F12 N12 => ?_)
  obtain ⟨q0', q1', q2', w0, w1, w2, hsrt, ho0, ho1, ho2, hw0, hw1, hw2⟩ := ord_srt x1 x2 x3 rfl hord
  have F1i : FracIn w ((ol, listOf #[.int o0 to0, .int o1 to1, .int o2 to2] no) :: (pl, listOf ([.ref p1, .ref p2, .ref p3] : List Value).toArray np) :: (p1, tup2 r1.num r1.den tu1 tv1 tn1) :: (p2, tup2 r2.num r2.den tu2 tv2 tn2) :: (p3, tup2 r3.num r3.den tu3 tv3 tn3) :: (rl, listOf ([.ref x1, .ref x2, .ref x3] : List Value).toArray nr) :: (x1, instObj 165 d1) :: (d1, fdict w r1.num r1.den u1 v1 y1 z1 k1) :: (x2, instObj 165 d2) :: (d2, fdict w r2.num r2.den u2 v2 y2 z2 k2) :: (x3, instObj 165 d3) :: (d3, fdict w r3.num r3.den u3 v3 y3 z3 k3) :: (L + 1 + 1 + 1 + 1 + 1, g4) :: (L + 1 + 1 + 1 + 1, f3) :: (L + 1 + 1 + 1, g2) :: (L + 1 + 1, g1) :: (L + 1, g0) :: te12) x1 r1 := ⟨_, _, _, _, _, _, by k_mem, by k_mem⟩
  have F2i : FracIn w ((ol, listOf #[.int o0 to0, .int o1 to1, .int o2 to2] no) :: (pl, listOf ([.ref p1, .ref p2, .ref p3] : List Value).toArray np) :: (p1, tup2 r1.num r1.den tu1 tv1 tn1) :: (p2, tup2 r2.num r2.den tu2 tv2 tn2) :: (p3, tup2 r3.num r3.den tu3 tv3 tn3) :: (rl, listOf ([.ref x1, .ref x2, .ref x3] : List Value).toArray nr) :: (x1, instObj 165 d1) :: (d1, fdict w r1.num r1.den u1 v1 y1 z1 k1) :: (x2, instObj 165 d2) :: (d2, fdict w r2.num r2.den u2 v2 y2 z2 k2) :: (x3, instObj 165 d3) :: (d3, fdict w r3.num r3.den u3 v3 y3 z3 k3) :: (L + 1 + 1 + 1 + 1 + 1, g4) :: (L + 1 + 1 + 1 + 1, f3) :: (L + 1 + 1 + 1, g2) :: (L + 1 + 1, g1) :: (L + 1, g0) :: te12) x2 r2 := ⟨_, _, _, _, _, _, by k_mem, by k_mem⟩
  have F3i : FracIn w ((ol, listOf #[.int o0 to0, .int o1 to1, .int o2 to2] no) :: (pl, listOf ([.ref p1, .ref p2, .ref p3] : List Value).toArray np) :: (p1, tup2 r1.num r1.den tu1 tv1 tn1) :: (p2, tup2 r2.num r2.den tu2 tv2 tn2) :: (p3, tup2 r3.num r3.den tu3 tv3 tn3) :: (rl, listOf ([.ref x1, .ref x2, .ref x3] : List Value).toArray nr) :: (x1, instObj 165 d1) :: (d1, fdict w r1.num r1.den u1 v1 y1 z1 k1) :: (x2, instObj 165 d2) :: (d2, fdict w r2.num r2.den u2 v2 y2 z2 k2) :: (x3, instObj 165 d3) :: (d3, fdict w r3.num r3.den u3 v3 y3 z3 k3) :: (L + 1 + 1 + 1 + 1 + 1, g4) :: (L + 1 + 1 + 1 + 1, f3) :: (L + 1 + 1 + 1, g2) :: (L + 1 + 1, g1) :: (L + 1, g0) :: te12) x3 r3 := ⟨_, _, _, _, _, _, by k_mem, by k_mem⟩
  obtain ⟨⟨_, _, _, _, _, _, ma, ma'⟩, ⟨_, _, _, _, _, _, mb, mb'⟩, ⟨_, _, _, _, _, _, mc, mc'⟩⟩ := srt_in hsrt F1i F2i F3i
  have M12 := news_dup2 (.tail _ (.tail _ (.tail _ (.tail _ ma)))) (.tail _ (.tail _ (.tail _ (.tail _ ma')))) (news_dup2 (.tail _ (.tail _ mb)) (.tail _ (.tail _ mb')) (news_dup2 mc mc' N12))
  refine wpAny_execs_cons (segA12 rfl hsc B F12 X T C hL hmo ho0 hw0 ho1 hw1 ho2 hw2 hsrt s1 s2 s3 hg0 hg1 hg2 hf3 hg4 M12 fun h13 tk13 F13 N13 => ?_)
  refine wpAny_execs_cons (segA13 rfl hsc B F13 X T C hL TS12 hnr s1 s2 s3 hg0 hg1 hg2 hf3 hg4 N13 fun h14 tk14 te14 TS14 F14 N14 => ?_)
  refine wpAny_execs_cons (segA14 rfl hsc B F14 X T C hL TS14 s1 s2 s3 hg0 hg1 hg2 hf3 hg4 N14 fun h15 tk15 te15 TS15 F15 N15 => ?_)
  refine wpAny_execs_cons (segA15 rfl hsc B F15 X T C hL TS15 s1 s2 s3 hg0 hg1 hg2 hf3 hg4 N15 fun h16 tk16 te16 TS16 F16 N16 => ?_)
  exact hret m12 h16 tk16 te16 ((pl, listOf ([.ref p1, .ref p2, .ref p3] : List Value).toArray np) :: (p1, tup2 r1.num r1.den tu1 tv1 tn1) :: (p2, tup2 r2.num r2.den tu2 tv2 tn2) :: (p3, tup2 r3.num r3.den tu3 tv3 tn3) :: (rl, listOf ([.ref x1, .ref x2, .ref x3] : List Value).toArray nr) :: (x1, instObj 165 d1) :: (d1, fdict w r1.num r1.den u1 v1 y1 z1 k1) :: (x2, instObj 165 d2) :: (d2, fdict w r2.num r2.den u2 v2 y2 z2 k2) :: (x3, instObj 165 d3) :: (d3, fdict w r3.num r3.den u3 v3 y3 z3 k3) :: (L + 1 + 1 + 1 + 1 + 1, g4) :: (L + 1 + 1 + 1 + 1, f3) :: (L + 1 + 1 + 1, g2) :: (L + 1 + 1, g1) :: (L + 1, g0) :: []) TS16 F16 N16
end
end
section
set_option maxRecDepth 100000
set_option maxHeartbeats 4000000
set_option Elab.async false
set_option rowWalk.seconds 0
theorem law_all : PySem.Challenge.rw_at5001_01.Holds := by
  w_on
  refine Mine.hd ?_
  k_go0
  rename Below _ _ _ _ => kB
  rename Fr _ _ _ _ => kF
  rename News _ _ _ _ => kN
  rename Top _ _ _ _ _ (ghostOf _ _) => kT
  rename Frag.In _ (ghostOf _ _) => kX
  rename CodeHd _ (215, 213).1 _ => kC
  rename (206 < _ ∧ _) => kl
  rename Heap.IsList (ghostOf _ _) _ _ => kL
  rename IntsAre _ _ => kI
  refine' law_body rfl rfl kB ?hF kX kT kC kl.2.2 kL kI ?hlen ?hm ?h0 ?h1 ?h2 ?h3 ?h4 ?hN ?hr
  case hF => exact kF
  case hN => exact kN
  case hm => exact rfl
  case h0 => exact Eq.trans (by assumption) rfl
  case h1 => exact Eq.trans (by assumption) rfl
  case h2 => exact Eq.trans (by assumption) rfl
  case h3 => exact Eq.trans (by assumption) rfl
  case h4 => exact Eq.trans (by assumption) rfl
  case hlen => omega
  case hr =>
    intro m' h' tk' te' led TS F N
    obtain ⟨⟨ps2, m2, _, _⟩, ⟨ps1, m1, _, _⟩, ⟨ps0, m0, _, _⟩⟩ := TS
    refine ⟨?_, ?_⟩
    · dsimp only
      k_steps


    · exact ⟨GrownAt.of N (List.mem_append_right _ m1), GrownAt.of N (List.mem_append_right _ m2), GrownAt.of N (List.mem_append_right _ m0), trivial⟩
end
end Mine
end
theorem PySem.Challenge.cw_at5001_01_holds : PySem.Challenge.rw_at5001_01.Holds := by
  exact Mine.law_all
