import PyProof.Rows.All
import Wide.All
import OpenK.AllK
import Wide.FinOn
import PySem.Challenge.RW_bd5016_01
open PySem PySem.W PyProof.Rows
set_option Elab.async false
namespace Mine
set_option maxRecDepth 100000 in
set_option maxHeartbeats 8000000 in
open_top hd for PySem.Challenge.rw_bd5016_01
end Mine

namespace Mine
open PySem PySem.Float64

/-- magnitude index of j * 2^k (j below 2^53, k at least 52) -/
def rep (j k : Nat) : Nat := (k - (52 - j.log2)) * 2 ^ 52 + j * 2 ^ (52 - j.log2)

theorem rep_norm {j : Nat} (h0 : 0 < j) (h : j < 2 ^ 53) : j.log2 ≤ 52 ∧ 2 ^ 52 ≤ j * 2 ^ (52 - j.log2) ∧ j * 2 ^ (52 - j.log2) < 2 ^ 53 := by
  have hl : j.log2 < 53 := (Nat.log2_lt (by omega)).mpr h
  have h1 : 2 ^ j.log2 ≤ j := Nat.log2_self_le (by omega)
  have h2 : j < 2 ^ (j.log2 + 1) := (Nat.log2_lt (by omega)).mp (Nat.lt_succ_self _)
  refine ⟨by omega, ?_, ?_⟩
  · calc 2 ^ 52 = 2 ^ j.log2 * 2 ^ (52 - j.log2) := by rw [← Nat.pow_add]; congr 1; omega
      _ ≤ _ := Nat.mul_le_mul_right _ h1
  · calc j * 2 ^ (52 - j.log2) < 2 ^ (j.log2 + 1) * 2 ^ (52 - j.log2) := Nat.mul_lt_mul_of_pos_right h2 (Nat.two_pow_pos _)
      _ = 2 ^ 53 := by rw [← Nat.pow_add]; congr 1; omega

theorem V_rep {j k : Nat} (h0 : 0 < j) (h : j < 2 ^ 53) (hk : 52 ≤ k) : V (rep j k) = j * 2 ^ k := by
  obtain ⟨h1, h2, h3⟩ := rep_norm h0 h
  unfold rep
  rw [V_at (Nat.le_of_lt h3) (.inl h2), Nat.mul_assoc, ← Nat.pow_add]
  congr 2; omega

theorem rep_lt {j k : Nat} (h0 : 0 < j) (h : j < 2 ^ 53) (hk : k < 1100) : rep j k < 1102 * 2 ^ 52 := by
  obtain ⟨h1, h2, h3⟩ := rep_norm h0 h
  unfold rep
  have : (k - (52 - j.log2)) * 2 ^ 52 ≤ 1100 * 2 ^ 52 := Nat.mul_le_mul_right _ (by omega)
  omega

theorem V_small {t : Nat} (h : t < 1102 * 2 ^ 52) : V t ≤ 2 ^ 1200 := by
  have h1 : V t ≤ V (1101 * 2 ^ 52 + 2 ^ 52) := V_mono (by omega)
  rw [V_at (k := 1101) (q := 2 ^ 52) (by decide) (.inl (Nat.le_refl _)), ← Nat.pow_add] at h1
  exact Nat.le_trans h1 (Nat.pow_le_pow_right (by decide) (by decide))

theorem big_pow : 2 * 2 ^ 1200 < (2 ^ 54 - 1) * 2 ^ 2045 := by decide +kernel

theorem right_exact {r : UInt64} {neg : Bool} {D t' : Nat} (hD : 0 < D) (ht : t' < 1102 * 2 ^ 52) (h : Right r neg (D * V t') D) : r = pack neg t' := by
  obtain ⟨t, rfl, _, hinf, hnear⟩ := h
  have hV := V_small ht
  have hlt : t < infMag := by
    rcases Nat.lt_or_ge t infMag with h | h
    · exact h
    · exfalso
      have e : t = infMag := by omega
      have h1 := hinf.mp e
      have h2 : D * ((2 ^ 54 - 1) * 2 ^ 2045) ≤ D * (2 * V t') := by
        rw [show D * (2 * V t') = 2 * (D * V t') by rw [Nat.mul_left_comm]]; exact h1
      have h3 := Nat.le_of_mul_le_mul_left h2 hD
      have h4 := big_pow
      have h5 : 2 * V t' ≤ 2 * 2 ^ 1200 := Nat.mul_le_mul_left _ hV
      exact absurd (Nat.lt_of_lt_of_le h4 (Nat.le_trans h3 h5)) (Nat.lt_irrefl _)
  have h1 := (hnear hlt t').1
  have h2 : D * V t' = D * V t := by unfold dist at h1; omega
  have h3 := Nat.eq_of_mul_eq_mul_left hD h2
  rcases Nat.lt_trichotomy t t' with c | c | c
  · have := V_lt c; omega
  · rw [c]
  · have := V_lt c; omega

/-- the float of n halves -/
@[irreducible] def fl (n : Int) : UInt64 := pack false (rep n.toNat 1073)

theorem fl_dec {n : Int} (h0 : 0 < n) (h : n < 2 ^ 50) : ∃ m e, decode (fl n) = .fin false m e ∧ m * 2 ^ (e + 1074).toNat = n.toNat * 2 ^ 1073 := by
  have hl := rep_lt (j := n.toNat) (k := 1073) (by omega) (by omega) (by decide)
  unfold fl
  obtain ⟨m, e, h1, h2⟩ := decode_pack false (t := rep n.toNat 1073) (by unfold infMag; omega)
  exact ⟨m, e, h1, by rw [h2, V_rep (by omega) (by omega) (by decide)]⟩
theorem fl_val {n : Int} (h0 : 0 < n) (h : n < 2 ^ 50) : val (fl n) = n * 2 ^ 1073 := by
  obtain ⟨m, e, h1, h2⟩ := fl_dec h0 h
  rw [val_eq h1, h2]
  unfold sgn
  simp only [Bool.false_eq_true, if_false]
  rw [Int.natCast_mul, Int.toNat_of_nonneg (by omega)]
  norm_cast

theorem pow_1074 : (2 : Nat) ^ 1074 = 2 * 2 ^ 1073 := by rw [Nat.pow_succ, Nat.mul_comm]
theorem ofInt_fl {n : Int} (h0 : 0 < n) (h : n < 2 ^ 49) : ofInt n = fl (2 * n) := by
  have h1 := ofInt_right n
  have e : decide (n < 0) = false := by simp; omega
  rw [e] at h1
  unfold fl
  refine right_exact (D := 1) (by decide) (rep_lt (by omega) (by omega) (by decide)) ?_
  rw [V_rep (by omega) (by omega) (by decide), Nat.one_mul]
  have e2 : n.natAbs * 2 ^ 1074 = (2 * n).toNat * 2 ^ 1073 := by
    rw [pow_1074, ← Nat.mul_assoc]; congr 1; omega
  rw [← e2]; exact h1

theorem ofInt_dec {n : Int} (h0 : 0 ≤ n) (h : n < 2 ^ 49) : ∃ m e, decode (ofInt n) = .fin false m e ∧ val (ofInt n) = 2 * n * 2 ^ 1073 := by
  by_cases hz : n = 0
  · subst hz
    exact ⟨0, -1074, by kernel_rfl, by kernel_rfl⟩
  · rw [ofInt_fl (by omega) h]
    obtain ⟨m, e, h1, _⟩ := fl_dec (n := 2 * n) (by omega) (by omega)
    exact ⟨m, e, h1, fl_val (by omega) (by omega)⟩

theorem right_fl {r : UInt64} {n : Int} (h0 : 0 < n) (h : n < 2 ^ 50) (hr : Right r (decide (n * 2 ^ 1073 < 0)) (n * 2 ^ 1073 : Int).natAbs 1) : r = fl n := by
  have hp : (0 : Int) < 2 ^ 1073 := by decide +kernel
  have e : decide (n * 2 ^ 1073 < 0) = false := by
    have := Int.mul_pos h0 hp
    simp; omega
  rw [e] at hr
  unfold fl
  refine right_exact (D := 1) (by decide) (rep_lt (by omega) (by omega) (by decide)) ?_
  rw [V_rep (by omega) (by omega) (by decide), Nat.one_mul]
  have e2 : (n * 2 ^ 1073 : Int).natAbs = n.toNat * 2 ^ 1073 := by
    rw [Int.natAbs_mul, Int.natAbs_pow]
    congr 1
    omega
  rw [← e2]; exact hr

theorem add_fl {a b : Int} {x y : UInt64} {m k : Nat} {e f : Int} (hx : decode x = .fin false m e) (hy : decode y = .fin false k f) (vx : val x = a * 2 ^ 1073) (vy : val y = b * 2 ^ 1073)
    (h0 : 0 < a + b) (h : a + b < 2 ^ 50) : add x y = fl (a + b) := by
  have hr := (add_right hx hy).2
  rw [vx, vy, ← Int.add_mul] at hr
  refine right_fl h0 h (hr ?_)
  have hp : (0 : Int) < 2 ^ 1073 := by decide +kernel
  have := Int.mul_pos h0 hp
  omega
theorem sub_fl {a b : Int} {x y : UInt64} {m k : Nat} {e f : Int} (hx : decode x = .fin false m e) (hy : decode y = .fin false k f) (vx : val x = a * 2 ^ 1073) (vy : val y = b * 2 ^ 1073)
    (h0 : 0 < a - b) (h : a - b < 2 ^ 50) : sub x y = fl (a - b) := by
  have hr := (sub_right hx hy).2
  rw [vx, vy, ← Int.sub_mul] at hr
  refine right_fl h0 h (hr ?_)
  have hp : (0 : Int) < 2 ^ 1073 := by decide +kernel
  have := Int.mul_pos h0 hp
  omega

theorem fl_add_int {a b : Int} (ha : 0 < a) (ha' : a < 2 ^ 48) (hb : 0 ≤ b) (hb' : b < 2 ^ 48) : add (fl a) (ofInt b) = fl (a + 2 * b) := by
  obtain ⟨m, e, h1, _⟩ := fl_dec ha (by omega)
  obtain ⟨k, f, h2, h3⟩ := ofInt_dec hb (by omega)
  exact add_fl h1 h2 (fl_val ha (by omega)) h3 (by omega) (by omega)
theorem int_add_fl {a b : Int} (ha : 0 < a) (ha' : a < 2 ^ 48) (hb : 0 ≤ b) (hb' : b < 2 ^ 48) : add (ofInt b) (fl a) = fl (2 * b + a) := by
  obtain ⟨m, e, h1, _⟩ := fl_dec ha (by omega)
  obtain ⟨k, f, h2, h3⟩ := ofInt_dec hb (by omega)
  exact add_fl h2 h1 h3 (fl_val ha (by omega)) (by omega) (by omega)
theorem fl_add_fl {a b : Int} (ha : 0 < a) (ha' : a < 2 ^ 48) (hb : 0 < b) (hb' : b < 2 ^ 48) : add (fl a) (fl b) = fl (a + b) := by
  obtain ⟨m, e, h1, _⟩ := fl_dec ha (by omega)
  obtain ⟨k, f, h2, _⟩ := fl_dec hb (by omega)
  exact add_fl h1 h2 (fl_val ha (by omega)) (fl_val hb (by omega)) (by omega) (by omega)
theorem fl_sub_fl {a b : Int} (ha' : a < 2 ^ 48) (hb : 0 < b) (hab : b < a) : sub (fl a) (fl b) = fl (a - b) := by
  obtain ⟨m, e, h1, _⟩ := fl_dec (n := a) (by omega) (by omega)
  obtain ⟨k, f, h2, _⟩ := fl_dec (n := b) hb (by omega)
  exact sub_fl h1 h2 (fl_val (by omega) (by omega)) (fl_val hb (by omega)) (by omega) (by omega)

theorem epoch_fl : (4689722129631936512 : UInt64) = fl 695991 := by decide +kernel
theorem half_fl : (4602678819172646912 : UInt64) = fl 1 := by decide +kernel

theorem floorOf_V {m : Nat} {e : Int} {W : Nat} (he : -1074 ≤ e) (h : m * 2 ^ (e + 1074).toNat = W) : floorOf false m e = ((W / 2 ^ 1074 : Nat) : Int) := by
  unfold floorOf sgn
  simp only [Bool.false_eq_true, if_false]
  split
  · rename_i h0
    have e1 : (e + 1074).toNat = e.toNat + 1074 := by omega
    rw [← h, e1, Nat.pow_add, ← Nat.mul_assoc, Nat.mul_div_cancel _ (Nat.two_pow_pos _), Int.natCast_mul]
    norm_cast
  · rename_i h0
    have e1 : 1074 = (e + 1074).toNat + (-e).toNat := by omega
    have e2 : W / 2 ^ 1074 = m / 2 ^ (-e).toNat := by
      rw [← h]
      conv => lhs; rhs; rw [e1, Nat.pow_add]
      rw [Nat.mul_comm m, Nat.mul_div_mul_left _ _ (Nat.two_pow_pos _)]
    rw [e2]
    rw [Int.fdiv_eq_ediv_of_nonneg _ (by exact Int.le_of_lt (Int.pow_pos (by decide)))]
    norm_cast

theorem fl_floor {n : Int} (h0 : 0 < n) (h : n < 2 ^ 50) : ∃ m e, decode (fl n) = .fin false m e ∧ floorOf false m e = n / 2 := by
  obtain ⟨m, e, h1, h2⟩ := fl_dec h0 h
  refine ⟨m, e, h1, ?_⟩
  rw [floorOf_V (decode_ge h1) h2, pow_1074, Nat.mul_div_mul_right _ _ (Nat.two_pow_pos _)]
  omega
theorem fl_trunc {n : Int} (h0 : 0 < n) (h : n < 2 ^ 50) : Flt.toInt truncOf (fl n) = n / 2 := by
  obtain ⟨m, e, h1, h2⟩ := fl_floor h0 h
  rw [Flt.toInt_fin h1]
  unfold truncOf
  simpa using h2
theorem fin_of_dec {x : UInt64} {a : Bool} {m : Nat} {e : Int} (h : decode x = .fin a m e) : isFinite x = true := by
  unfold isFinite; rw [h]
theorem fl_finite {n : Int} (h0 : 0 < n) (h : n < 2 ^ 50) : isFinite (fl n) = true := by
  obtain ⟨m, e, h1, _⟩ := fl_dec h0 h
  exact fin_of_dec h1
theorem pow74 (k : Nat) : (2 : Int) ^ (k + 1) = 2 ^ k * 2 := Int.pow_succ 2 k
theorem pos73 (k : Nat) : (0 : Int) < 2 ^ k := Int.pow_pos (by decide)
theorem cmp_scale {n j K : Int} (hp : 0 < K) : compare (n * K) (j * K) = compare n j := by
  rcases Int.lt_trichotomy n j with c | c | c
  · rw [Int.compare_eq_lt.mpr c, Int.compare_eq_lt.mpr (Int.mul_lt_mul_of_pos_right c hp)]
  · rw [c]; simp
  · rw [Int.compare_eq_gt.mpr c, Int.compare_eq_gt.mpr (Int.mul_lt_mul_of_pos_right c hp)]
theorem fl_cmpInt {n i : Int} (h0 : 0 < n) (h : n < 2 ^ 50) : cmpInt (fl n) i = some (compare n (2 * i)) := by
  obtain ⟨m, e, h1, _⟩ := fl_dec h0 h
  have h2 := cmpInt_right h1 i
  rw [fl_val h0 h] at h2
  have h3 := pow74 1073
  have hp := pos73 1073
  rw [show (1073 + 1 : Nat) = 1074 from rfl] at h3
  rw [h3] at h2
  generalize (2 : Int) ^ 1073 = K at h2 hp
  rw [h2, ← cmp_scale (n := n) (j := 2 * i) hp]
  congr 2
  rw [Int.mul_comm K 2, ← Int.mul_assoc, Int.mul_comm i 2]

/-- the quotient of two ints as the model's true division gives it -/
@[irreducible] def fq (a b : Int) : UInt64 := ofFrac (decide (a < 0) != decide (b < 0)) a.natAbs b.natAbs

theorem quot_right {n d : Nat} (hd : 0 < d) : Right (ofFrac false n d) false (n * 2 ^ 1074) d :=
  ofFrac_right hd rfl hd

theorem mul_pred_add {x K : Nat} (h : 0 < x) : (x - 1) * K + K = x * K := by
  obtain ⟨y, rfl⟩ : ∃ y, x = y + 1 := ⟨x - 1, by omega⟩
  rw [Nat.add_sub_cancel, Nat.succ_mul]
theorem quot_floor_nat {n d : Nat} (hd : 0 < d) (hd' : d < 2 ^ 20) (hn : n < 2 ^ 32) : ∃ m e, decode (ofFrac false n d) = .fin false m e ∧ floorOf false m e = ((n / d : Nat) : Int) := by
  obtain ⟨t, ht, _, hinf, hnear⟩ := quot_right (n := n) hd
  have hlt : t < infMag := by
    rcases Nat.lt_or_ge t infMag with h | h
    · exact h
    · exfalso
      have e : t = infMag := by omega
      have h1 := hinf.mp e
      have h2 : 1 * ((2 ^ 54 - 1) * 2 ^ 2045) ≤ d * ((2 ^ 54 - 1) * 2 ^ 2045) := Nat.mul_le_mul_right _ hd
      have h3 : 2 * (n * 2 ^ 1074) ≤ 2 * (2 ^ 32 * 2 ^ 1074) := Nat.mul_le_mul_left _ (Nat.mul_le_mul_right _ (by omega))
      have h4 : 2 * (2 ^ 32 * 2 ^ 1074) < (2 ^ 54 - 1) * 2 ^ 2045 := by decide +kernel
      exact absurd (Nat.lt_of_lt_of_le h4 (Nat.le_trans (by rw [Nat.one_mul] at h2; exact h2) (Nat.le_trans h1 h3))) (Nat.lt_irrefl _)
  obtain ⟨m, e, h1, h2⟩ := decode_pack false hlt
  refine ⟨m, e, by rw [ht]; exact h1, ?_⟩
  rw [floorOf_V (decode_ge h1) h2]
  congr 1
  have hq := Nat.div_add_mod n d
  have hr := Nat.mod_lt n hd
  have hq' : n / d ≤ n := Nat.div_le_self _ _
  generalize hqq : n / d = q at *
  -- the lower end
  have lo : q * 2 ^ 1074 ≤ V t := by
    by_cases hz : q = 0
    · subst hz; simp
    · have hV := V_rep (j := q) (k := 1074) (by omega) (by omega) (by decide)
      have hn1 := (hnear hlt (rep q 1074)).1
      rw [hV] at hn1
      have h3 : d * (q * 2 ^ 1074) ≤ n * 2 ^ 1074 := by
        rw [← Nat.mul_assoc]
        exact Nat.mul_le_mul_right _ (by omega)
      rcases Nat.lt_or_ge (V t) (q * 2 ^ 1074) with c | c
      · exfalso
        have h4 : d * V t < d * (q * 2 ^ 1074) := Nat.mul_lt_mul_of_pos_left c hd
        unfold dist at hn1
        omega
      · exact c
  have hi : V t < (q + 1) * 2 ^ 1074 := by
    rcases Nat.lt_or_ge (V t) ((q + 1) * 2 ^ 1074) with c | c
    · exact c
    · exfalso
      have hV := V_rep (j := (q + 1) * 2 ^ 20 - 1) (k := 1054) (by omega) (by omega) (by decide)
      have hn1 := (hnear hlt (rep ((q + 1) * 2 ^ 20 - 1) 1054)).1
      rw [hV] at hn1
      have eK : (2 : Nat) ^ 1074 = 2 ^ 20 * 2 ^ 1054 := by rw [← Nat.pow_add]
      rw [eK] at c hn1
      have hK : 0 < (2 : Nat) ^ 1054 := Nat.two_pow_pos _
      generalize (2 : Nat) ^ 1054 = K at *
      have hn2 : n + 1 ≤ d * (q + 1) := by rw [Nat.mul_add]; omega
      have a1 : d * ((q + 1) * (2 ^ 20 * K)) ≤ d * V t := Nat.mul_le_mul_left _ c
      have a2 : (n + 1) * (2 ^ 20 * K) ≤ d * (q + 1) * (2 ^ 20 * K) := Nat.mul_le_mul_right _ hn2
      have a3 : d * (((q + 1) * 2 ^ 20 - 1) * K) + d * K = d * ((q + 1) * (2 ^ 20 * K)) := by
        rw [← Nat.mul_add, ← Nat.mul_assoc (q + 1)]
        exact congrArg (fun z => d * z) (mul_pred_add (by omega))
      have a4 : d * K < 2 ^ 20 * K := Nat.mul_lt_mul_of_pos_right hd' hK
      have a5 : 0 < d * K := Nat.mul_pos hd hK
      rw [Nat.mul_assoc] at a2
      rw [Nat.add_mul, Nat.one_mul] at a2
      unfold dist at hn1
      omega
  exact Nat.div_eq_of_lt_le lo hi

set_option maxRecDepth 100000 in
theorem fq_neg1 : isFinite (fq (-234) 19) = true ∧ Flt.toInt floorOf (fq (-234) 19) = (-234) / 19 := ⟨by kernel_rfl, by kernel_rfl⟩
set_option maxRecDepth 100000 in
theorem fq_neg2 : isFinite (fq (-166705) 25920) = true ∧ Flt.toInt floorOf (fq (-166705) 25920) = (-166705) / 25920 := ⟨by kernel_rfl, by kernel_rfl⟩
set_option maxRecDepth 100000 in
theorem fq_floor {a b : Int} (h : (0 ≤ a ∧ a < 2 ^ 32 ∧ 0 < b ∧ b < 2 ^ 20) ∨ (a = -234 ∧ b = 19) ∨ (a = -166705 ∧ b = 25920)) : isFinite (fq a b) = true ∧ Flt.toInt floorOf (fq a b) = a / b := by
  rcases h with ⟨h1, h2, h3, h4⟩ | ⟨rfl, rfl⟩ | ⟨rfl, rfl⟩
  · have e : (decide (a < 0) != decide (b < 0)) = false := by
      rw [decide_eq_false (by omega), decide_eq_false (by omega)]; rfl
    unfold fq
    rw [e]
    obtain ⟨m, f, h5, h6⟩ := quot_floor_nat (n := a.natAbs) (d := b.natAbs) (by omega) (by omega) (by omega)
    refine ⟨fin_of_dec h5, ?_⟩
    rw [Flt.toInt_fin h5, h6]
    have e1 : a = (a.natAbs : Int) := by omega
    have e2 : b = (b.natAbs : Int) := by omega
    conv => rhs; rw [e1, e2]
    norm_cast
  · exact fq_neg1
  · exact fq_neg2
end Mine

namespace Mine
section
variable {prog : Program} {w : World} {A : Around} {E : Value → Shared → Prop} {s : Shared} {t u : Tok} {Q : Value → Shared → Prop}
abbrev FqOk (a b : Int) : Prop := (0 ≤ a ∧ a < 4294967296 ∧ 0 < b ∧ b < 1048576) ∨ (a = -234 ∧ b = 19) ∨ (a = -166705 ∧ b = 25920)
theorem fq_parts {d : Int} (h1 : 0 ≤ d) (h2 : d ≤ 10000) : FqOk (12084 + 13753 * ((235 * d - 234) / 19)) 25920 := by
  rcases Int.lt_or_le 0 d with h | h
  · left; omega
  · right; right; omega
theorem fqFits {a b : Int} (h : FqOk a b) : a.natAbs < 2 ^ 1023 := by
  have h1 : a.natAbs < 4294967296 := by unfold FqOk at h; omega
  exact Nat.lt_trans h1 (by decide +kernel)
theorem m_div {a b : Int} (hA : A.handled = none) (h : FqOk a b) (hq : Q (.float (fq a b) s.toks) { s with toks := s.toks + 1 }) : wpAny (model prog w) A (binaryOp .Div (.int a t) (.int b u)) Q E s := by
  unfold fq at hq
  exact Flt.div_ii_fits hA (fqFits h) (fun hb => by exfalso; unfold FqOk at h; omega) (fun _ _ => hq)
theorem m_floor {a b : Int} (hA : A.handled = none) (h : FqOk a b) (hq : Q (.int (a / b) s.toks) { s with toks := s.toks + 1 }) : wpAny (model prog w) A (call (.builtin "math.floor") [.float (fq a b) t]) Q E s := by
  obtain ⟨h1, h2⟩ := fq_floor (a := a) (b := b) h
  refine Flt.call_floor_float hA (fun c => ?_) (fun c => ?_) (fun _ => by rw [h2]; exact hq)
  · rw [Flt.not_nan_of_finite h1] at c; cases c
  · rw [Flt.not_inf_of_finite h1] at c; cases c
theorem intFits {b : Int} (hb : 0 ≤ b ∧ b < 4294967296) : b.natAbs < 2 ^ 1023 := Nat.lt_trans (by omega : b.natAbs < 4294967296) (by decide +kernel)
abbrev FlOk (a : Int) : Prop := 0 < a ∧ a < 4294967296
theorem m_add_fi {a b : Int} (ha : FlOk a) (hb : 0 ≤ b ∧ b < 4294967296) (hq : Q (.float (fl (a + 2 * b)) s.toks) { s with toks := s.toks + 1 }) : wpAny (model prog w) A (binaryOp .Add (.float (fl a) t) (.int b u)) Q E s :=
  add_fi_fits (intFits hb) (by rw [fl_add_int ha.1 (by have := ha.2; omega) hb.1 (by omega)]; exact hq)
theorem m_add_ei {b : Int} (hb : 0 ≤ b ∧ b < 4294967296) (hq : Q (.float (fl (695991 + 2 * b)) s.toks) { s with toks := s.toks + 1 }) : wpAny (model prog w) A (binaryOp .Add (.float 4689722129631936512 t) (.int b u)) Q E s := by
  rw [epoch_fl]
  exact m_add_fi ⟨by decide, by decide⟩ hb hq
theorem m_iadd_fi {a b : Int} (hA : A.handled = none) (ha : FlOk a) (hb : 0 ≤ b ∧ b < 4294967296) (hq : Q (.float (fl (a + 2 * b)) s.toks) { s with toks := s.toks + 1 }) : wpAny (model prog w) A (inplaceOp .Add (.float (fl a) t) (.int b u)) Q E s :=
  Flt.iadd_fi hA (fun ho => absurd (Flt.inf_of_over ho) (Float64.ofInt_fits (intFits hb))) (fun _ => by rw [fl_add_int ha.1 (by have := ha.2; omega) hb.1 (by omega)]; exact hq)
theorem m_int {a : Int} (hA : A.handled = none) (ha : FlOk a) (hq : Q (.int (a / 2) s.toks) { s with toks := s.toks + 1 }) : wpAny (model prog w) A (call (.type "int") [.float (fl a) t]) Q E s := by
  have h1 := fl_finite ha.1 (by have := ha.2; omega)
  refine Flt.call_int_float3 hA (fun c => ?_) (fun c => ?_) (fun _ => by rw [fl_trunc ha.1 (by have := ha.2; omega)]; exact hq)
  · rw [Flt.not_nan_of_finite h1] at c; cases c
  · rw [Flt.not_inf_of_finite h1] at c; cases c
theorem m_trunc {a : Int} (hA : A.handled = none) (ha : FlOk a) (hq : Q (.int (a / 2) s.toks) { s with toks := s.toks + 1 }) : wpAny (model prog w) A (call (.builtin "math.trunc") [.float (fl a) t]) Q E s := by
  have h1 := fl_finite ha.1 (by have := ha.2; omega)
  refine Flt.call_trunc_float hA (fun c => ?_) (fun c => ?_) (fun _ => by rw [fl_trunc ha.1 (by have := ha.2; omega)]; exact hq)
  · rw [Flt.not_nan_of_finite h1] at c; cases c
  · rw [Flt.not_inf_of_finite h1] at c; cases c
theorem m_add_ih {b : Int} (hb : 0 ≤ b ∧ b < 4294967296) (hq : Q (.float (fl (2 * b + 1)) s.toks) { s with toks := s.toks + 1 }) : wpAny (model prog w) A (binaryOp .Add (.int b u) (.float 4602678819172646912 t)) Q E s :=
  add_if_fits (intFits hb) (by rw [half_fl, int_add_fl (by decide) (by decide) hb.1 (by omega)]; exact hq)
theorem m_add_fh {a : Int} (ha : FlOk a) (hq : Q (.float (fl (a + 1)) s.toks) { s with toks := s.toks + 1 }) : wpAny (model prog w) A (binaryOp .Add (.float (fl a) t) (.float 4602678819172646912 u)) Q E s :=
  AutoFloatOps.add_0 (by rw [half_fl, fl_add_fl ha.1 (by have := ha.2; omega) (by decide) (by decide)]; exact hq)
theorem m_sub_ff {a b : Int} (ha : a < 4294967296) (hb : 0 < b) (hab : b < a) (hq : Q (.float (fl (a - b)) s.toks) { s with toks := s.toks + 1 }) : wpAny (model prog w) A (binaryOp .Sub (.float (fl a) t) (.float (fl b) u)) Q E s :=
  AutoFloatOps.sub_0 (by rw [fl_sub_fl (by omega) hb hab]; exact hq)
theorem cmp_eq_dec {x y : Int} : (some (compare x y) != some Ordering.eq) = decide (x ≠ y) := by
  rcases Int.lt_trichotomy x y with c | c | c
  · rw [Int.compare_eq_lt.mpr c, decide_eq_true (by omega)]; rfl
  · subst c; simp
  · rw [Int.compare_eq_gt.mpr c, decide_eq_true (by omega)]; rfl
theorem m_ne_fi {a n : Int} (ha : FlOk a) (hq : Q (.bool (decide (a ≠ 2 * n))) s) : wpAny (model prog w) A (compareOp .NotEq (.float (fl a) t) (.int n u)) Q E s :=
  ne_fi (by rw [fl_cmpInt ha.1 (by have := ha.2; omega), cmp_eq_dec]; exact hq)
theorem eq_dec {x y : Int} : (some (compare x y) == some Ordering.eq) = decide (x = y) := by
  rcases Int.lt_trichotomy x y with c | c | c
  · rw [Int.compare_eq_lt.mpr c, decide_eq_false (by omega)]; rfl
  · subst c; simp
  · rw [Int.compare_eq_gt.mpr c, decide_eq_false (by omega)]; rfl
theorem m_eq_fi {a n : Int} (ha : FlOk a) (hq : Q (.bool (decide (a = 2 * n))) s) : wpAny (model prog w) A (compareOp .Eq (.float (fl a) t) (.int n u)) Q E s :=
  eq_fi (by rw [fl_cmpInt ha.1 (by have := ha.2; omega), eq_dec]; exact hq)
/-- the six lengths of a year, and their last figure -/
abbrev SizeOk (n : Int) : Prop := (353 ≤ n ∧ n ≤ 355) ∨ (383 ≤ n ∧ n ≤ 385)
theorem mod_fl {n : Int} (h : SizeOk n) : (Float64.divmod (fl (2 * n)) (Float64.ofInt 10)).2 = fl (2 * (n % 10)) := by
  have h1 : n = 353 ∨ n = 354 ∨ n = 355 ∨ n = 383 ∨ n = 384 ∨ n = 385 := by unfold SizeOk at h; omega
  rcases h1 with rfl | rfl | rfl | rfl | rfl | rfl <;> kernel_rfl
theorem ten_fits : ¬ Flt.Over 10 := fun h => absurd (Flt.inf_of_over h) (Float64.ofInt_fits (intFits ⟨by decide, by decide⟩))
theorem m_mod {n : Int} (hA : A.handled = none) (h : SizeOk n) (hq : Q (.float (fl (2 * (n % 10))) s.toks) { s with toks := s.toks + 1 }) : wpAny (model prog w) A (binaryOp .Mod (.float (fl (2 * n)) t) (.int 10 u)) Q E s :=
  Flt.mod_fi hA (fun ho => absurd ho ten_fits) (fun h => absurd h (by decide)) (fun _ _ => by rw [mod_fl h]; exact hq)
end
end Mine

namespace Mine
theorem resetBD1 : True ∧ True := by
  w_top off
  (try walk1)
  all_goals first | trivial | exact ⟨trivial, trivial⟩
theorem fillBD1 : (fun (_ : PySem.Challenge.rw_bd5016_01 = PySem.Challenge.rw_bd5016_01) => hd.heap_39) = fun _ => hd.heap_39 := by
  w_top off
  k_fill
  rfl
local macro_rules | `(tactic| walk_at "binaryOp Div int int") => `(tactic| (k_here; k_dflt ((refine' m_div ?hh ?hb ?_); (case hh => rfl); (case hb => first | (unfold FqOk; omega) | exact fq_parts (by omega) (by omega)); k_whole)))
local macro_rules | `(tactic| walk_at "call builtin:math.floor") => `(tactic| (k_here; (with_reducible show wpAny _ _ (call _ [Value.float (fq _ _) _]) _ _ _); k_dflt ((refine' m_floor ?hh ?hb ?_); (case hh => rfl); (case hb => first | (unfold FqOk; omega) | exact fq_parts (by omega) (by omega)); k_whole)))
local macro_rules | `(tactic| walk_at "binaryOp Add float int") => `(tactic| (k_here; first
  | ((with_reducible show wpAny _ _ (binaryOp _ (Value.float (fl _) _) _) _ _ _); k_dflt ((refine' m_add_fi ?ha ?hb ?_); (case ha => (unfold FlOk; omega)); (case hb => omega); k_whole))
  | ((with_reducible show wpAny _ _ (binaryOp _ (Value.float 4689722129631936512 _) _) _ _ _); k_dflt ((refine' m_add_ei ?hb ?_); (case hb => omega); k_whole))))
local macro_rules | `(tactic| walk_at "inplaceOp Add float int") => `(tactic| (k_here; (with_reducible show wpAny _ _ (inplaceOp _ (Value.float (fl _) _) _) _ _ _); k_dflt ((refine' m_iadd_fi ?hh ?ha ?hb ?_); (case hh => rfl); (case ha => (unfold FlOk; omega)); (case hb => omega); k_whole)))
local macro_rules | `(tactic| walk_at "call type:int") => `(tactic| (k_here; (with_reducible show wpAny _ _ (call _ [Value.float (fl _) _]) _ _ _); k_dflt ((refine' m_int ?hh ?ha ?_); (case hh => rfl); (case ha => (unfold FlOk; omega)); k_whole)))
local macro_rules | `(tactic| walk_at "call builtin:math.trunc") => `(tactic| (k_here; (with_reducible show wpAny _ _ (call _ [Value.float (fl _) _]) _ _ _); k_dflt ((refine' m_trunc ?hh ?ha ?_); (case hh => rfl); (case ha => (unfold FlOk; omega)); k_whole)))
local macro_rules | `(tactic| walk_at "binaryOp Add int float") => `(tactic| (k_here; (with_reducible show wpAny _ _ (binaryOp _ (Value.int _ _) (Value.float 4602678819172646912 _)) _ _ _); k_dflt ((refine' m_add_ih ?hb ?_); (case hb => omega); k_whole)))
local macro_rules | `(tactic| walk_at "binaryOp Add float float") => `(tactic| (k_here; (with_reducible show wpAny _ _ (binaryOp _ (Value.float (fl _) _) (Value.float 4602678819172646912 _)) _ _ _); k_dflt ((refine' m_add_fh ?ha ?_); (case ha => (unfold FlOk; omega)); k_whole)))
local macro_rules | `(tactic| walk_at "binaryOp Sub float float") => `(tactic| (k_here; (with_reducible show wpAny _ _ (binaryOp _ (Value.float (fl _) _) (Value.float (fl _) _)) _ _ _); k_dflt ((refine' m_sub_ff ?ha ?hb ?hc ?_); (case ha => omega); (case hb => omega); (case hc => omega); k_whole)))
local macro_rules | `(tactic| walk_at "compareOp NotEq float int") => `(tactic| (k_here; (with_reducible show wpAny _ _ (compareOp _ (Value.float (fl _) _) _) _ _ _); k_dflt ((refine' m_ne_fi ?ha ?_); (case ha => (unfold FlOk; omega)); k_whole)))
local macro_rules | `(tactic| walk_at "compareOp Eq float int") => `(tactic| (k_here; (with_reducible show wpAny _ _ (compareOp _ (Value.float (fl _) _) _) _ _ _); k_dflt ((refine' m_eq_fi ?ha ?_); (case ha => (unfold FlOk; omega)); k_whole)))
local macro_rules | `(tactic| walk_at "binaryOp Mod float int") => `(tactic| (k_here; (with_reducible show wpAny _ _ (binaryOp _ (Value.float (fl (2 * _)) _) (Value.int 10 _)) _ _ _); k_dflt ((refine' m_mod ?hh ?hb ?_); (case hh => rfl); (case hb => (unfold SizeOk; omega)); k_whole)))
inductive R1 (news : List (Addr × Obj)) : List Value → Int → Prop
  | mk (n : Int) (t : Tok) : R1 news [.int n t] n

def leapF (y : Int) : Bool := decide ((y * 7 + 1) % 19 < 7)
def molF (y : Int) : Int := (235 * y - 234) / 19
def dayF (y : Int) : Int := molF y * 29 + (12084 + 13753 * molF y) / 25920
def d1F (y : Int) : Int := if (3 * (dayF y + 1)) % 7 < 3 then dayF y + 1 else dayF y

theorem d1F_bound {y : Int} (h1 : 0 ≤ y) (h2 : y ≤ 10000) : 0 ≤ d1F y + 400 ∧ d1F y ≤ 4000000 ∧ (1 ≤ y → 0 ≤ d1F y) := by
  unfold d1F dayF molF
  rcases Int.lt_or_le 0 y with h | h
  · split <;> omega
  · have e : y = 0 := by omega
    subst e
    decide
abbrev cLeap : ToldN Int where
  Rel := R1
  Ok := fun y => 0 ≤ y ∧ y ≤ 10000
  size := fun _ => 1
  Tl := fun tl => tl = []
  Out := fun _ r y => ∃ _t : Tok, r = .bool (leapF y) ∧ True
set_option maxRecDepth 100000 in
set_option maxHeartbeats 8000000 in
theorem tLeap {w : World} {mean : ExcName → Option Value} {mg mb : Str → Option Value} : ∀ d, TellsN PySem.Challenge.pw_bd5016_01 w (hd.heap_39 w.params) hd.view_39 (looseW hd.view_39 []) mean mg mb 61 cLeap d := by
  intro d
  unfold TellsN
  intro dp un gd cn cs a ccd cl outer A₀ base h₀ L m news s vs Q E B F X N T hk hR hok hd hu hret
  cases hR
  obtain ⟨ho1, ho2⟩ := hok
  refine wpAny_call ?_
  k_dflt ktr_enter
  k_steps
  refine hret _ [] _ _ (by k_asm) (ktn_tl0 (by k_asm)) ktn_ord0 rfl ⟨0, ?_, trivial⟩
  unfold leapF
  rw [Int.fmod_eq_emod_of_nonneg _ (by decide)]

abbrev cD1 : ToldN Int where
  Rel := R1
  Ok := fun y => 0 ≤ y ∧ y ≤ 10000
  size := fun _ => 1
  Tl := fun tl => tl = []
  Out := fun _ r y => ∃ t, r = .int (d1F y) t ∧ (0 ≤ d1F y + 400 ∧ d1F y ≤ 4000000 ∧ (1 ≤ y → 0 ≤ d1F y))
set_option maxRecDepth 100000 in
set_option maxHeartbeats 8000000 in
theorem tD1 {w : World} {mean : ExcName → Option Value} {mg mb : Str → Option Value} : ∀ d, TellsN PySem.Challenge.pw_bd5016_01 w (hd.heap_39 w.params) hd.view_39 (looseW hd.view_39 []) mean mg mb 75 cD1 d := by
  intro d
  unfold TellsN
  intro dp un gd cn cs a ccd cl outer A₀ base h₀ L m news s vs Q E B F X N T hk hR hok hd hu hret
  cases hR
  obtain ⟨ho1, ho2⟩ := hok
  refine wpAny_call ?_
  k_dflt ktr_enter
  k_steps
  · refine hret _ [] _ _ (by k_asm) (ktn_tl0 (by k_asm)) ktn_ord0 rfl ⟨_, congrArg (Value.int · _) ?_, d1F_bound ho1 ho2⟩
    rename (_ : Int) < 3 => hc
    rw [Int.fmod_eq_emod_of_nonneg _ (by decide)] at hc
    exact (if_pos (c := (3 * (dayF d + 1)) % 7 < 3) hc).symm
  · refine hret _ [] _ _ (by k_asm) (ktn_tl0 (by k_asm)) ktn_ord0 rfl ⟨_, congrArg (Value.int · _) ?_, d1F_bound ho1 ho2⟩
    rename ¬ (_ : Int) < 3 => hc
    rw [Int.fmod_eq_emod_of_nonneg _ (by decide)] at hc
    exact (if_neg (c := (3 * (dayF d + 1)) % 7 < 3) hc).symm
end Mine
namespace Mine
theorem resetBD2 : True ∧ True := by
  w_top off
  (try walk1)
  all_goals first | trivial | exact ⟨trivial, trivial⟩
theorem fillBD2 : (fun (_ : PySem.Challenge.rw_bd5016_01 = PySem.Challenge.rw_bd5016_01) => hd.heap_39) = fun _ => hd.heap_39 := by
  w_top off
  k_fill
  rfl
local macro_rules | `(tactic| walk_at "binaryOp Div int int") => `(tactic| (k_here; k_dflt ((refine' m_div ?hh ?hb ?_); (case hh => rfl); (case hb => first | (unfold FqOk; omega) | exact fq_parts (by omega) (by omega)); k_whole)))
local macro_rules | `(tactic| walk_at "call builtin:math.floor") => `(tactic| (k_here; (with_reducible show wpAny _ _ (call _ [Value.float (fq _ _) _]) _ _ _); k_dflt ((refine' m_floor ?hh ?hb ?_); (case hh => rfl); (case hb => first | (unfold FqOk; omega) | exact fq_parts (by omega) (by omega)); k_whole)))
local macro_rules | `(tactic| walk_at "binaryOp Add float int") => `(tactic| (k_here; first
  | ((with_reducible show wpAny _ _ (binaryOp _ (Value.float (fl _) _) _) _ _ _); k_dflt ((refine' m_add_fi ?ha ?hb ?_); (case ha => (unfold FlOk; omega)); (case hb => omega); k_whole))
  | ((with_reducible show wpAny _ _ (binaryOp _ (Value.float 4689722129631936512 _) _) _ _ _); k_dflt ((refine' m_add_ei ?hb ?_); (case hb => omega); k_whole))))
local macro_rules | `(tactic| walk_at "inplaceOp Add float int") => `(tactic| (k_here; (with_reducible show wpAny _ _ (inplaceOp _ (Value.float (fl _) _) _) _ _ _); k_dflt ((refine' m_iadd_fi ?hh ?ha ?hb ?_); (case hh => rfl); (case ha => (unfold FlOk; omega)); (case hb => omega); k_whole)))
local macro_rules | `(tactic| walk_at "call type:int") => `(tactic| (k_here; (with_reducible show wpAny _ _ (call _ [Value.float (fl _) _]) _ _ _); k_dflt ((refine' m_int ?hh ?ha ?_); (case hh => rfl); (case ha => (unfold FlOk; omega)); k_whole)))
local macro_rules | `(tactic| walk_at "call builtin:math.trunc") => `(tactic| (k_here; (with_reducible show wpAny _ _ (call _ [Value.float (fl _) _]) _ _ _); k_dflt ((refine' m_trunc ?hh ?ha ?_); (case hh => rfl); (case ha => (unfold FlOk; omega)); k_whole)))
local macro_rules | `(tactic| walk_at "binaryOp Add int float") => `(tactic| (k_here; (with_reducible show wpAny _ _ (binaryOp _ (Value.int _ _) (Value.float 4602678819172646912 _)) _ _ _); k_dflt ((refine' m_add_ih ?hb ?_); (case hb => omega); k_whole)))
local macro_rules | `(tactic| walk_at "binaryOp Add float float") => `(tactic| (k_here; (with_reducible show wpAny _ _ (binaryOp _ (Value.float (fl _) _) (Value.float 4602678819172646912 _)) _ _ _); k_dflt ((refine' m_add_fh ?ha ?_); (case ha => (unfold FlOk; omega)); k_whole)))
local macro_rules | `(tactic| walk_at "binaryOp Sub float float") => `(tactic| (k_here; (with_reducible show wpAny _ _ (binaryOp _ (Value.float (fl _) _) (Value.float (fl _) _)) _ _ _); k_dflt ((refine' m_sub_ff ?ha ?hb ?hc ?_); (case ha => omega); (case hb => omega); (case hc => omega); k_whole)))
local macro_rules | `(tactic| walk_at "compareOp NotEq float int") => `(tactic| (k_here; (with_reducible show wpAny _ _ (compareOp _ (Value.float (fl _) _) _) _ _ _); k_dflt ((refine' m_ne_fi ?ha ?_); (case ha => (unfold FlOk; omega)); k_whole)))
local macro_rules | `(tactic| walk_at "compareOp Eq float int") => `(tactic| (k_here; (with_reducible show wpAny _ _ (compareOp _ (Value.float (fl _) _) _) _ _ _); k_dflt ((refine' m_eq_fi ?ha ?_); (case ha => (unfold FlOk; omega)); k_whole)))
local macro_rules | `(tactic| walk_at "binaryOp Mod float int") => `(tactic| (k_here; (with_reducible show wpAny _ _ (binaryOp _ (Value.float (fl (2 * _)) _) (Value.int 10 _)) _ _ _); k_dflt ((refine' m_mod ?hh ?hb ?_); (case hh => rfl); (case hb => (unfold SizeOk; omega)); k_whole)))
def d2F (y : Int) : Int := if d1F (y + 1) - d1F y = 356 then 2 else if d1F y - d1F (y - 1) = 382 then 1 else 0
theorem d2F_bound (y : Int) : 0 ≤ d2F y ∧ d2F y ≤ 2 := by
  unfold d2F
  split
  · omega
  · split <;> omega
def monthsF (y : Int) : Int := if leapF y = true then 13 else 12

abbrev cMonths : ToldN Int where
  Rel := R1
  Ok := fun y => 0 ≤ y ∧ y ≤ 10000
  size := fun _ => 2
  Tl := fun tl => tl = []
  Out := fun _ r y => ∃ t, r = .int (monthsF y) t ∧ True
local macro_rules | `(tactic| walk_at "call ref") => `(tactic| (k_here; k_dflt ((refine' tellsN_use ?k1 ?k2 ?k3 ?k4 ?k5 ?kK ?kR (tLeap _) ?ko ?kd ?ku ?_); (case kR => exact R1.mk _ _); (case k1 => k_asm); (case k2 => k_asm); (case k3 => k_asm); (case k4 => k_asm); (case k5 => k_asm); (case kK => first | exact rfl | assumption); (case ko => (dsimp only; omega)); (case kd => (dsimp only; ktr_room)); (case ku => (dsimp only; ktr_units)); k_whole; intro r9 tl9 h9 tk9 F9 N9 hl9 ht9 ho9; (try (subst ht9; clear hl9; simp only [List.append_nil] at N9)); (dsimp only at ho9); (obtain ⟨t9, e9, hb9⟩ := ho9; subst e9); (try dsimp only); (try k_fold))))
set_option maxRecDepth 100000 in
set_option maxHeartbeats 8000000 in
theorem tMonths {w : World} {mean : ExcName → Option Value} {mg mb : Str → Option Value} : ∀ d, TellsN PySem.Challenge.pw_bd5016_01 w (hd.heap_39 w.params) hd.view_39 (looseW hd.view_39 []) mean mg mb 68 cMonths d := by
  intro d
  unfold TellsN
  intro dp un gd cn cs a ccd cl outer A₀ base h₀ L m news s vs Q E B F X N T hk hR hok hd hu hret
  cases hR
  obtain ⟨ho1, ho2⟩ := hok
  refine wpAny_call ?_
  k_dflt ktr_enter
  k_steps
  · refine hret _ [] _ _ (by k_asm) (ktn_tl0 (by k_asm)) ktn_ord0 rfl ⟨_, congrArg (Value.int · _) ?_, trivial⟩
    rename leapF _ = true => hc
    exact (if_pos hc).symm
  · refine hret _ [] _ _ (by k_asm) (ktn_tl0 (by k_asm)) ktn_ord0 rfl ⟨_, congrArg (Value.int · _) ?_, trivial⟩
    first
    | (rename ¬ leapF _ = true => hc; exact (if_neg hc).symm)
    | (rename leapF _ = false => hc; exact (if_neg (by rw [hc]; decide)).symm)

abbrev cD2 : ToldN Int where
  Rel := R1
  Ok := fun y => 1 ≤ y ∧ y ≤ 9990
  size := fun _ => 2
  Tl := fun tl => tl = []
  Out := fun _ r y => ∃ t, r = .int (d2F y) t ∧ 0 ≤ d2F y ∧ d2F y ≤ 2
local macro_rules | `(tactic| walk_at "call ref") => `(tactic| (k_here; k_dflt ((refine' tellsN_use ?k1 ?k2 ?k3 ?k4 ?k5 ?kK ?kR (tD1 _) ?ko ?kd ?ku ?_); (case kR => exact R1.mk _ _); (case k1 => k_asm); (case k2 => k_asm); (case k3 => k_asm); (case k4 => k_asm); (case k5 => k_asm); (case kK => first | exact rfl | assumption); (case ko => (dsimp only; omega)); (case kd => (dsimp only; ktr_room)); (case ku => (dsimp only; ktr_units)); k_whole; intro r9 tl9 h9 tk9 F9 N9 hl9 ht9 ho9; (try (subst ht9; clear hl9; simp only [List.append_nil] at N9)); (dsimp only at ho9); (obtain ⟨t9, e9, hb9⟩ := ho9; subst e9); (try dsimp only); (try k_fold))))
set_option maxRecDepth 100000 in
set_option maxHeartbeats 8000000 in
theorem tD2 {w : World} {mean : ExcName → Option Value} {mg mb : Str → Option Value} : ∀ d, TellsN PySem.Challenge.pw_bd5016_01 w (hd.heap_39 w.params) hd.view_39 (looseW hd.view_39 []) mean mg mb 82 cD2 d := by
  intro d
  unfold TellsN
  intro dp un gd cn cs a ccd cl outer A₀ base h₀ L m news s vs Q E B F X N T hk hR hok hd hu hret
  cases hR
  obtain ⟨ho1, ho2⟩ := hok
  refine wpAny_call ?_
  k_dflt ktr_enter
  k_steps
  all_goals (refine hret _ [] _ _ (by k_asm) (ktn_tl0 (by k_asm)) ktn_ord0 rfl ⟨_, congrArg (Value.int · _) ?_, d2F_bound d⟩; unfold d2F)
  · exact (if_pos (by assumption)).symm
  · exact ((if_neg (by assumption)).trans (if_pos (by assumption))).symm
  · exact ((if_neg (by assumption)).trans (if_neg (by assumption))).symm

-- to_jd at the seventh month's first day
def jdF (y : Int) : Int := 695995 + 2 * (d1F y + d2F y)
inductive R3 (a2 a3 : Int) (news : List (Addr × Obj)) : List Value → Int → Prop
  | mk (n : Int) (t u v : Tok) : R3 a2 a3 news [.int n t, .int a2 u, .int a3 v] n
abbrev cJd7 : ToldN Int where
  Rel := R3 7 1
  Ok := fun y => 1 ≤ y ∧ y ≤ 9990
  size := fun _ => 3
  Tl := fun tl => tl = []
  Out := fun _ r y => ∃ t, r = .float (fl (jdF y)) t ∧ 0 < jdF y ∧ jdF y ≤ 9000000
local macro_rules | `(tactic| walk_at "call ref") => `(tactic| (k_here; k_dflt ((refine' tellsN_use ?k1 ?k2 ?k3 ?k4 ?k5 ?kK ?kR (tMonths _) ?ko ?kd ?ku ?_); (case kR => exact R1.mk _ _); (case k1 => k_asm); (case k2 => k_asm); (case k3 => k_asm); (case k4 => k_asm); (case k5 => k_asm); (case kK => first | exact rfl | assumption); (case ko => (dsimp only; omega)); (case kd => (dsimp only; ktr_room)); (case ku => (dsimp only; ktr_units)); k_whole; intro r9 tl9 h9 tk9 F9 N9 hl9 ht9 ho9; (try (subst ht9; clear hl9; simp only [List.append_nil] at N9)); (dsimp only at ho9); (obtain ⟨t9, e9, hb9⟩ := ho9; subst e9); (try dsimp only); (try k_fold))))
local macro_rules | `(tactic| walk_at "call ref") => `(tactic| (k_here; k_dflt ((refine' tellsN_use ?k1 ?k2 ?k3 ?k4 ?k5 ?kK ?kR (tD2 _) ?ko ?kd ?ku ?_); (case kR => exact R1.mk _ _); (case k1 => k_asm); (case k2 => k_asm); (case k3 => k_asm); (case k4 => k_asm); (case k5 => k_asm); (case kK => first | exact rfl | assumption); (case ko => (dsimp only; omega)); (case kd => (dsimp only; ktr_room)); (case ku => (dsimp only; ktr_units)); k_whole; intro r9 tl9 h9 tk9 F9 N9 hl9 ht9 ho9; (try (subst ht9; clear hl9; simp only [List.append_nil] at N9)); (dsimp only at ho9); (obtain ⟨t9, e9, hb9⟩ := ho9; subst e9); (try dsimp only); (try k_fold))))
set_option maxRecDepth 100000 in
set_option maxHeartbeats 8000000 in
theorem tJd7 {w : World} {mean : ExcName → Option Value} {mg mb : Str → Option Value} : ∀ d, TellsN PySem.Challenge.pw_bd5016_01 w (hd.heap_39 w.params) hd.view_39 (looseW hd.view_39 []) mean mg mb 110 cJd7 d := by
  intro d
  unfold TellsN
  intro dp un gd cn cs a ccd cl outer A₀ base h₀ L m news s vs Q E B F X N T hk hR hok hd hu hret
  cases hR
  obtain ⟨ho1, ho2⟩ := hok
  refine wpAny_call ?_
  k_dflt ktr_enter
  k_steps
  refine hret _ [] _ _ (by k_asm) (ktn_tl0 (by k_asm)) ktn_ord0 rfl ⟨_, congrArg (Value.float · _) (congrArg fl ?_), ?_, ?_⟩
  all_goals (unfold jdF; omega)

-- year_days
def sizeF (y : Int) : Int := d1F (y + 1) + d2F (y + 1) - (d1F y + d2F y)
theorem by7 (D : Int) : ∃ q k : Int, D + 1 = 7 * q + k ∧ (k = 0 ∨ k = 1 ∨ k = 2 ∨ k = 3 ∨ k = 4 ∨ k = 5 ∨ k = 6) := ⟨(D + 1) / 7, (D + 1) % 7, by omega, by omega⟩
theorem by19 (D : Int) : ∃ q k : Int, D = 19 * q + k ∧ (k = 0 ∨ k = 1 ∨ k = 2 ∨ k = 3 ∨ k = 4 ∨ k = 5 ∨ k = 6 ∨ k = 7 ∨ k = 8 ∨ k = 9 ∨ k = 10 ∨ k = 11 ∨ k = 12 ∨ k = 13 ∨ k = 14 ∨ k = 15 ∨ k = 16 ∨ k = 17 ∨ k = 18) := ⟨D / 19, D % 19, by omega, by omega⟩
def rhoF (y : Int) : Int := (12084 + 13753 * molF y) % 25920
def adjE (D : Int) : Int := if (3 * (D + 1)) % 7 < 3 then 1 else 0
theorem d1_adj (y : Int) : d1F y = dayF y + adjE (dayF y) := by unfold d1F adjE; split <;> omega
theorem adj_cases (D : Int) : (adjE D = 1 ∧ ((D + 1) % 7 = 0 ∨ (D + 1) % 7 = 3 ∨ (D + 1) % 7 = 5)) ∨ (adjE D = 0 ∧ ((D + 1) % 7 = 1 ∨ (D + 1) % 7 = 2 ∨ (D + 1) % 7 = 4 ∨ (D + 1) % 7 = 6)) := by
  obtain ⟨q, k, e, h7⟩ := by7 D
  unfold adjE
  rw [e]
  rcases h7 with rfl | rfl | rfl | rfl | rfl | rfl | rfl <;> split <;> omega
theorem mol_step (y : Int) : (leapF y = true ∧ molF (y + 1) = molF y + 13) ∨ (leapF y = false ∧ molF (y + 1) = molF y + 12) := by
  unfold leapF molF
  rw [decide_eq_true_eq, decide_eq_false_iff_not]
  obtain ⟨q, k, e, h19⟩ := by19 y
  subst e
  rcases h19 with rfl | rfl | rfl | rfl | rfl | rfl | rfl | rfl | rfl | rfl | rfl | rfl | rfl | rfl | rfl | rfl | rfl | rfl | rfl <;> omega
theorem rho_bd (y : Int) : 0 ≤ rhoF y ∧ rhoF y < 25920 := by unfold rhoF; omega
theorem day_step (y : Int) : (leapF y = true ∧ ((rhoF y < 2651 ∧ dayF (y + 1) = dayF y + 383 ∧ rhoF (y + 1) = rhoF y + 23269) ∨ (2651 ≤ rhoF y ∧ dayF (y + 1) = dayF y + 384 ∧ rhoF (y + 1) = rhoF y - 2651))) ∨
    (leapF y = false ∧ ((rhoF y < 16404 ∧ dayF (y + 1) = dayF y + 354 ∧ rhoF (y + 1) = rhoF y + 9516) ∨ (16404 ≤ rhoF y ∧ dayF (y + 1) = dayF y + 355 ∧ rhoF (y + 1) = rhoF y - 16404))) := by
  rcases mol_step y with ⟨h, e⟩ | ⟨h, e⟩
  · left
    refine ⟨h, ?_⟩
    unfold dayF rhoF
    rw [e]
    omega
  · right
    refine ⟨h, ?_⟩
    unfold dayF rhoF
    rw [e]
    omega
theorem no_two (y : Int) : ¬ (leapF y = true ∧ leapF (y + 1) = true) := by
  unfold leapF
  rw [decide_eq_true_eq, decide_eq_true_eq]
  obtain ⟨q, k, e, h19⟩ := by19 y
  subst e
  rcases h19 with rfl | rfl | rfl | rfl | rfl | rfl | rfl | rfl | rfl | rfl | rfl | rfl | rfl | rfl | rfl | rfl | rfl | rfl | rfl <;> omega
theorem d2_char (y : Int) : ((dayF y + 1) % 7 = 2 ∧ 16404 ≤ rhoF y ∧ leapF y = false ∧ d2F y = 2) ∨ ((dayF y + 1) % 7 = 1 ∧ 23269 ≤ rhoF y ∧ leapF (y - 1) = true ∧ d2F y = 1) ∨
    (¬ ((dayF y + 1) % 7 = 2 ∧ 16404 ≤ rhoF y ∧ leapF y = false) ∧ ¬ ((dayF y + 1) % 7 = 1 ∧ 23269 ≤ rhoF y ∧ leapF (y - 1) = true) ∧ d2F y = 0) := by
  have s1 := day_step y
  have s0 := day_step (y - 1)
  rw [show y - 1 + 1 = y by omega] at s0
  have b0 := rho_bd (y - 1)
  have b1 := rho_bd y
  have a0 := adj_cases (dayF (y - 1))
  have a1 := adj_cases (dayF y)
  have a2 := adj_cases (dayF (y + 1))
  have hd : d2F y = if dayF (y + 1) + adjE (dayF (y + 1)) - (dayF y + adjE (dayF y)) = 356 then 2 else if dayF y + adjE (dayF y) - (dayF (y - 1) + adjE (dayF (y - 1))) = 382 then 1 else 0 := by
    unfold d2F
    rw [d1_adj, d1_adj, d1_adj]
  generalize d2F y = d2 at *
  generalize adjE (dayF (y - 1)) = e0 at *
  generalize adjE (dayF y) = e1 at *
  generalize adjE (dayF (y + 1)) = e2 at *
  generalize rhoF (y + 1) = r2 at *
  generalize rhoF (y - 1) = r0 at *
  generalize rhoF y = r1 at *
  generalize dayF (y + 1) = D2 at *
  generalize dayF (y - 1) = D0 at *
  generalize dayF y = D1 at *
  rcases s1 with ⟨l1, s1⟩ | ⟨l1, s1⟩ <;> rcases s0 with ⟨l0, s0⟩ | ⟨l0, s0⟩ <;> simp only [l1, l0, Bool.false_eq_true, Bool.true_eq_false, and_false, false_and, and_true, true_and, false_or, or_false, not_false_eq_true] <;>
    (split at hd) <;> first | omega | (split at hd <;> omega)
theorem leap_size0 (y : Int) : (leapF y = false ∧ 353 ≤ sizeF y ∧ sizeF y ≤ 355) ∨ (leapF y = true ∧ 383 ≤ sizeF y ∧ sizeF y ≤ 385) := by
  have s1 := day_step y
  have hc1 := d2_char y
  have hc2 := d2_char (y + 1)
  rw [show y + 1 - 1 = y by omega] at hc2
  have b1 := rho_bd y
  have b2 := rho_bd (y + 1)
  have a1 := adj_cases (dayF y)
  have a2 := adj_cases (dayF (y + 1))
  have n1 := no_two y
  have n0 := no_two (y - 1)
  rw [show y - 1 + 1 = y by omega] at n0
  unfold sizeF
  rw [d1_adj, d1_adj]
  generalize adjE (dayF (y + 1)) = e2 at *
  generalize adjE (dayF y) = e1 at *
  generalize d2F (y + 1) = d2' at *
  generalize d2F y = d2 at *
  generalize rhoF (y + 1) = r2 at *
  generalize rhoF y = r1 at *
  generalize dayF (y + 1) = D2 at *
  generalize dayF y = D1 at *
  cases hl : leapF y <;> cases hl0 : leapF (y - 1) <;> cases hl2 : leapF (y + 1) <;> rw [hl, hl0] at hc1 <;> rw [hl, hl2] at hc2 <;> simp only [hl, hl0, hl2, Bool.false_eq_true, Bool.true_eq_false, and_false, false_and, and_true, true_and, false_or, or_false, not_false_eq_true, not_true_eq_false] at hc1 hc2 s1 n1 n0 ⊢ <;> omega
theorem size_ok {y : Int} (_ : 1 ≤ y) (_ : y ≤ 9100) : SizeOk (sizeF y) := by
  have h := leap_size0 y
  unfold SizeOk
  omega
theorem jd_size (y : Int) : jdF (y + 1) - jdF y = 2 * sizeF y := by unfold jdF sizeF; omega
theorem jd_lt {y : Int} (h1 : 1 ≤ y) (h2 : y ≤ 9100) : jdF y < jdF (y + 1) := by
  have h := size_ok h1 h2
  have e := jd_size y
  unfold SizeOk at h
  omega
abbrev cDays : ToldN Int where
  Rel := R1
  Ok := fun y => 1 ≤ y ∧ y ≤ 9100
  size := fun _ => 4
  Tl := fun tl => tl = []
  Out := fun _ r y => ∃ t, r = .float (fl (2 * sizeF y)) t ∧ SizeOk (sizeF y)
local macro_rules | `(tactic| walk_at "call ref") => `(tactic| (k_here; k_dflt ((refine' tellsN_use ?k1 ?k2 ?k3 ?k4 ?k5 ?kK ?kR (tJd7 _) ?ko ?kd ?ku ?_); (case kR => exact R3.mk _ _ _ _); (case k1 => k_asm); (case k2 => k_asm); (case k3 => k_asm); (case k4 => k_asm); (case k5 => k_asm); (case kK => first | exact rfl | assumption); (case ko => (dsimp only; omega)); (case kd => (dsimp only; ktr_room)); (case ku => (dsimp only; ktr_units)); k_whole; intro r9 tl9 h9 tk9 F9 N9 hl9 ht9 ho9; (try (subst ht9; clear hl9; simp only [List.append_nil] at N9)); (dsimp only at ho9); (obtain ⟨t9, e9, hb9⟩ := ho9; subst e9); (try dsimp only); (try k_fold))))
set_option maxRecDepth 100000 in
set_option maxHeartbeats 8000000 in
theorem tDays {w : World} {mean : ExcName → Option Value} {mg mb : Str → Option Value} : ∀ d, TellsN PySem.Challenge.pw_bd5016_01 w (hd.heap_39 w.params) hd.view_39 (looseW hd.view_39 []) mean mg mb 89 cDays d := by
  intro d
  unfold TellsN
  intro dp un gd cn cs a ccd cl outer A₀ base h₀ L m news s vs Q E B F X N T hk hR hok hd hu hret
  cases hR
  obtain ⟨ho1, ho2⟩ := hok
  have hlt := jd_lt ho1 ho2
  refine wpAny_call ?_
  k_dflt ktr_enter
  k_steps
  refine hret _ [] _ _ (by k_asm) (ktn_tl0 (by k_asm)) ktn_ord0 rfl ⟨_, congrArg (Value.float · _) (congrArg fl (jd_size d)), size_ok ho1 ho2⟩

-- month_length
def mlF (y m : Int) : Int :=
  if m = 2 ∨ m = 4 ∨ m = 6 ∨ m = 10 ∨ m = 13 then 29
  else if m = 12 ∧ leapF y = false then 29
  else if m = 8 ∧ sizeF y % 10 ≠ 5 then 29
  else if m = 9 ∧ sizeF y % 10 = 3 then 29
  else 30
theorem ml_bound (y m : Int) : mlF y m = 29 ∨ mlF y m = 30 := by
  unfold mlF
  (repeat' split) <;> simp
theorem ml_any {mo : Int} (h : ([2, 4, 6, 10, 13].any fun x => x == mo) = false) : ¬ (mo = 2 ∨ mo = 4 ∨ mo = 6 ∨ mo = 10 ∨ mo = 13) := by
  simp only [List.any_cons, List.any_nil, Bool.or_false, Bool.or_eq_false_iff, beq_eq_false_iff_ne] at h
  omega
theorem ml1 {y mo : Int} (h : ([2, 4, 6, 10, 13].any fun x => x == mo) = true) : 29 = mlF y mo := by
  simp only [List.any_cons, List.any_nil, Bool.or_false, Bool.or_eq_true, beq_iff_eq] at h
  exact (if_pos (by omega)).symm
section
variable {y mo : Int} (h : ([2, 4, 6, 10, 13].any fun x => x == mo) = false)
include h
theorem ml2 (h1 : mo = 12) (h2 : leapF y = false) : 29 = mlF y mo := by
  unfold mlF; rw [if_neg (ml_any h), if_pos ⟨h1, h2⟩]
theorem ml3 (h1 : mo = 12) (h2 : leapF y = true) : 30 = mlF y mo := by
  unfold mlF; rw [if_neg (ml_any h), if_neg (fun x => by rw [h2] at x; exact absurd x.2 (by decide)), if_neg (by omega), if_neg (by omega)]
theorem ml4 (h1 : mo = 8) (h2 : sizeF y % 10 ≠ 5) : 29 = mlF y mo := by
  unfold mlF; rw [if_neg (ml_any h), if_neg (by omega), if_pos ⟨h1, h2⟩]
theorem ml5 (h1 : mo = 8) (h2 : sizeF y % 10 = 5) : 30 = mlF y mo := by
  unfold mlF; rw [if_neg (ml_any h), if_neg (by omega), if_neg (by omega), if_neg (by omega)]
theorem ml6 (h1 : mo = 9) (h2 : sizeF y % 10 = 3) : 29 = mlF y mo := by
  unfold mlF; rw [if_neg (ml_any h), if_neg (by omega), if_neg (by omega), if_pos ⟨h1, h2⟩]
theorem ml7 (h1 : mo = 9) (h2 : sizeF y % 10 ≠ 3) : 30 = mlF y mo := by
  unfold mlF; rw [if_neg (ml_any h), if_neg (by omega), if_neg (by omega), if_neg (by omega)]
theorem ml8 (h1 : mo ≠ 8) (h2 : mo ≠ 9) (h3 : mo ≠ 12) : 30 = mlF y mo := by
  unfold mlF; rw [if_neg (ml_any h), if_neg (by omega), if_neg (by omega), if_neg (by omega)]
end
inductive R2 (news : List (Addr × Obj)) : List Value → Int × Int → Prop
  | mk (n k : Int) (t u : Tok) : R2 news [.int n t, .int k u] (n, k)
abbrev cMl : ToldN (Int × Int) where
  Rel := R2
  Ok := fun d => 1 ≤ d.1 ∧ d.1 ≤ 9100 ∧ 1 ≤ d.2 ∧ d.2 ≤ 13
  size := fun _ => 5
  Tl := fun tl => tl = []
  Out := fun _ r d => ∃ t, r = .int (mlF d.1 d.2) t ∧ (mlF d.1 d.2 = 29 ∨ mlF d.1 d.2 = 30)
local macro_rules | `(tactic| walk_at "call ref") => `(tactic| (k_here; k_dflt ((refine' tellsN_use ?k1 ?k2 ?k3 ?k4 ?k5 ?kK ?kR (tDays _) ?ko ?kd ?ku ?_); (case kR => exact R1.mk _ _); (case k1 => k_asm); (case k2 => k_asm); (case k3 => k_asm); (case k4 => k_asm); (case k5 => k_asm); (case kK => first | exact rfl | assumption); (case ko => (dsimp only; omega)); (case kd => (dsimp only; ktr_room)); (case ku => (dsimp only; ktr_units)); k_whole; intro r9 tl9 h9 tk9 F9 N9 hl9 ht9 ho9; (try (subst ht9; clear hl9; simp only [List.append_nil] at N9)); (dsimp only at ho9); (obtain ⟨t9, e9, hb9⟩ := ho9; subst e9); (try dsimp only); (try k_fold))))
set_option maxRecDepth 100000 in
set_option maxHeartbeats 8000000 in
theorem tMl {w : World} {mean : ExcName → Option Value} {mg mb : Str → Option Value} : ∀ d, TellsN PySem.Challenge.pw_bd5016_01 w (hd.heap_39 w.params) hd.view_39 (looseW hd.view_39 []) mean mg mb 96 cMl d := by
  intro d
  unfold TellsN
  intro dp un gd cn cs a ccd cl outer A₀ base h₀ L m news s vs Q E B F X N T hk hR hok hd hu hret
  cases hR
  rename_i y mo t u
  obtain ⟨ho1, ho2, ho3, ho4⟩ := hok
  dsimp only at ho1 ho2 ho3 ho4
  refine wpAny_call ?_
  k_dflt ktr_enter
  k_steps
  all_goals (refine hret _ [] _ _ (by k_asm) (ktn_tl0 (cb_drop (by assumption) (fun _ hp => List.Mem.tail _ hp))) ktn_ord0 rfl ⟨_, congrArg (Value.int · _) ?_, ml_bound y mo⟩)
  all_goals (dsimp only; try (rename ¬ (_ ≠ _) => hnn; replace hnn := Decidable.not_not.mp hnn))
  all_goals first
    | (exfalso; omega)
    | exact ml1 (by assumption)
    | exact ml2 (by assumption) (by assumption) (by assumption)
    | exact ml3 (by assumption) (by assumption) (by assumption)
    | exact ml4 (by assumption) (by omega) (by omega)
    | exact ml5 (by assumption) (by omega) (by omega)
    | exact ml6 (by assumption) (by omega) (by omega)
    | exact ml7 (by assumption) (by omega) (by omega)
    | exact ml8 (by assumption) (by omega) (by omega) (by omega)

-- month_days
abbrev cMd : ToldN (Int × Int) where
  Rel := R2
  Ok := fun d => 1 ≤ d.1 ∧ d.1 ≤ 9100 ∧ 1 ≤ d.2 ∧ d.2 ≤ 13
  size := fun _ => 6
  Tl := fun tl => tl = []
  Out := fun _ r d => ∃ t, r = .int (mlF d.1 d.2) t ∧ (mlF d.1 d.2 = 29 ∨ mlF d.1 d.2 = 30)
local macro_rules | `(tactic| walk_at "call ref") => `(tactic| (k_here; k_dflt ((refine' tellsN_use ?k1 ?k2 ?k3 ?k4 ?k5 ?kK ?kR (tMl _) ?ko ?kd ?ku ?_); (case kR => exact R2.mk _ _ _ _); (case k1 => k_asm); (case k2 => k_asm); (case k3 => k_asm); (case k4 => k_asm); (case k5 => k_asm); (case kK => first | exact rfl | assumption); (case ko => (dsimp only; omega)); (case kd => (dsimp only; ktr_room)); (case ku => (dsimp only; ktr_units)); k_whole; intro r9 tl9 h9 tk9 F9 N9 hl9 ht9 ho9; (try (subst ht9; clear hl9; simp only [List.append_nil] at N9)); (dsimp only at ho9); (obtain ⟨t9, e9, hb9⟩ := ho9; subst e9); (try dsimp only); (try k_fold))))
set_option maxRecDepth 100000 in
set_option maxHeartbeats 8000000 in
theorem tMd {w : World} {mean : ExcName → Option Value} {mg mb : Str → Option Value} : ∀ d, TellsN PySem.Challenge.pw_bd5016_01 w (hd.heap_39 w.params) hd.view_39 (looseW hd.view_39 []) mean mg mb 103 cMd d := by
  intro d
  unfold TellsN
  intro dp un gd cn cs a ccd cl outer A₀ base h₀ L m news s vs Q E B F X N T hk hR hok hd hu hret
  cases hR
  rename_i y mo t u
  obtain ⟨ho1, ho2, ho3, ho4⟩ := hok
  dsimp only at ho1 ho2 ho3 ho4
  refine wpAny_call ?_
  k_dflt ktr_enter
  k_steps
  refine hret _ [] _ _ (by k_asm) (ktn_tl0 (by k_asm)) ktn_ord0 rfl ⟨_, rfl, ml_bound y mo⟩
end Mine
namespace Mine
theorem resetBJd : True ∧ True := by
  w_top off
  (try walk1)
  all_goals first | trivial | exact ⟨trivial, trivial⟩
theorem fillBJd : (fun (_ : PySem.Challenge.rw_bd5016_01 = PySem.Challenge.rw_bd5016_01) => hd.heap_39) = fun _ => hd.heap_39 := by
  w_top off
  k_fill
  rfl
local macro_rules | `(tactic| walk_at "binaryOp Div int int") => `(tactic| (k_here; k_dflt ((refine' m_div ?hh ?hb ?_); (case hh => rfl); (case hb => first | (unfold FqOk; omega) | exact fq_parts (by omega) (by omega)); k_whole)))
local macro_rules | `(tactic| walk_at "call builtin:math.floor") => `(tactic| (k_here; (with_reducible show wpAny _ _ (call _ [Value.float (fq _ _) _]) _ _ _); k_dflt ((refine' m_floor ?hh ?hb ?_); (case hh => rfl); (case hb => first | (unfold FqOk; omega) | exact fq_parts (by omega) (by omega)); k_whole)))
local macro_rules | `(tactic| walk_at "binaryOp Add float int") => `(tactic| (k_here; first
  | ((with_reducible show wpAny _ _ (binaryOp _ (Value.float (fl _) _) _) _ _ _); k_dflt ((refine' m_add_fi ?ha ?hb ?_); (case ha => (unfold FlOk; omega)); (case hb => omega); k_whole))
  | ((with_reducible show wpAny _ _ (binaryOp _ (Value.float 4689722129631936512 _) _) _ _ _); k_dflt ((refine' m_add_ei ?hb ?_); (case hb => omega); k_whole))))
local macro_rules | `(tactic| walk_at "inplaceOp Add float int") => `(tactic| (k_here; (with_reducible show wpAny _ _ (inplaceOp _ (Value.float (fl _) _) _) _ _ _); k_dflt ((refine' m_iadd_fi ?hh ?ha ?hb ?_); (case hh => rfl); (case ha => (unfold FlOk; omega)); (case hb => omega); k_whole)))
local macro_rules | `(tactic| walk_at "call type:int") => `(tactic| (k_here; (with_reducible show wpAny _ _ (call _ [Value.float (fl _) _]) _ _ _); k_dflt ((refine' m_int ?hh ?ha ?_); (case hh => rfl); (case ha => (unfold FlOk; omega)); k_whole)))
local macro_rules | `(tactic| walk_at "call builtin:math.trunc") => `(tactic| (k_here; (with_reducible show wpAny _ _ (call _ [Value.float (fl _) _]) _ _ _); k_dflt ((refine' m_trunc ?hh ?ha ?_); (case hh => rfl); (case ha => (unfold FlOk; omega)); k_whole)))
local macro_rules | `(tactic| walk_at "binaryOp Add int float") => `(tactic| (k_here; (with_reducible show wpAny _ _ (binaryOp _ (Value.int _ _) (Value.float 4602678819172646912 _)) _ _ _); k_dflt ((refine' m_add_ih ?hb ?_); (case hb => omega); k_whole)))
local macro_rules | `(tactic| walk_at "binaryOp Add float float") => `(tactic| (k_here; (with_reducible show wpAny _ _ (binaryOp _ (Value.float (fl _) _) (Value.float 4602678819172646912 _)) _ _ _); k_dflt ((refine' m_add_fh ?ha ?_); (case ha => (unfold FlOk; omega)); k_whole)))
local macro_rules | `(tactic| walk_at "binaryOp Sub float float") => `(tactic| (k_here; (with_reducible show wpAny _ _ (binaryOp _ (Value.float (fl _) _) (Value.float (fl _) _)) _ _ _); k_dflt ((refine' m_sub_ff ?ha ?hb ?hc ?_); (case ha => omega); (case hb => omega); (case hc => omega); k_whole)))
local macro_rules | `(tactic| walk_at "compareOp NotEq float int") => `(tactic| (k_here; (with_reducible show wpAny _ _ (compareOp _ (Value.float (fl _) _) _) _ _ _); k_dflt ((refine' m_ne_fi ?ha ?_); (case ha => (unfold FlOk; omega)); k_whole)))
local macro_rules | `(tactic| walk_at "compareOp Eq float int") => `(tactic| (k_here; (with_reducible show wpAny _ _ (compareOp _ (Value.float (fl _) _) _) _ _ _); k_dflt ((refine' m_eq_fi ?ha ?_); (case ha => (unfold FlOk; omega)); k_whole)))
local macro_rules | `(tactic| walk_at "binaryOp Mod float int") => `(tactic| (k_here; (with_reducible show wpAny _ _ (binaryOp _ (Value.float (fl (2 * _)) _) (Value.int 10 _)) _ _ _); k_dflt ((refine' m_mod ?hh ?hb ?_); (case hh => rfl); (case hb => (unfold SizeOk; omega)); k_whole)))
/-- a goal that the walk leaves alone -/
def Hold (P : Prop) : Prop := P
theorem Hold.out {P : Prop} (h : Hold P) : P := h

def sumS (S : Int → Int) (a : Int) : Nat → Int
  | 0 => 0
  | n + 1 => sumS S a n + S (a + (n : Int))
abbrev jdN : Str := Str.ofString "jd"
def JdEnd (h₀ : Heap) (L : Addr) (led : List (Addr × Obj)) (m₀ : Str → Option Value) (x : Str) (c : Int) (s₁ : Shared) (f : Flow) (s₂ : Shared) : Prop :=
  f = .next ∧ ∃ h' tk m' tc, s₂ = { s₁ with heap := h', toks := tk } ∧ Fr h₀ L h' m' ∧ News h₀ L h' led ∧ m' jdN = some (.float (fl c) tc) ∧ ∀ z, z ≠ x → z ≠ jdN → m' z = m₀ z
section
variable {prog : Program} {w : World} {A : Around} {E : Value → Shared → Prop} {s : Shared} {env : Env} {h₀ : Heap} {x : Str} {body : List Stmt} {Q : Flow → Shared → Prop}
theorem jd_loop {r : Addr} {a₀ b₀ b : Int} {t₀ u₀ v₀ tb : Tok} {m₀ : Str → Option Value} {news : List (Addr × Obj)} (S : Int → Int)
    (hh : A.handled = none) (hr : IsRange s.heap r a₀ b₀ 1 t₀ u₀ v₀) (ha : 0 ≤ a₀ ∧ a₀ < 1000) (hb : a₀ ≤ b₀ ∧ b₀ < 1000) (F : Fr h₀ env.locals s.heap m₀) (N : News h₀ env.locals s.heap news) (hv : m₀ jdN = some (.float (fl b) tb))
    (turn : ∀ (c : Int) tc k t (u : Str → Option Value) h tk own, a₀ ≤ k → k < b₀ → c = b + 2 * sumS S a₀ (k - a₀).toNat → Fr h₀ env.locals h (fun y => if y = x then some (.int k t) else kstB (fun z => if ([] : List Str).contains z then u z else m₀ z) [(jdN, .float (fl c) tc)] y) → News h₀ env.locals h (news ++ own) →
      wpAny (model prog w) A (execs body env) (JdEnd h₀ env.locals (news ++ own) m₀ x (c + 2 * S k) { s with heap := h, toks := tk }) E { s with heap := h, toks := tk })
    (done : ∀ (c : Int) tc (u : Str → Option Value) h tk, c = b + 2 * sumS S a₀ (b₀ - a₀).toNat → Fr h₀ env.locals h (fun y => if y = x then u y else kstB (fun z => if ([] : List Str).contains z then u z else m₀ z) [(jdN, .float (fl c) tc)] y) → News h₀ env.locals h news → Q .next { s with heap := h, toks := tk }) :
    wpAny (model prog w) A (pyIter (.ref r)) (fun it s₂ => LoopAtV prog w A h₀ env x body Q E it s₂) E s := by
  refine kd_range (σ := Int × Tok) (n := (b₀ - a₀).toNat) (fun _ => []) news (fun c => [(jdN, .float (fl c.1) c.2)]) (fun _ _ => True) [] (fun pre c => c.1 = b + 2 * sumS S a₀ pre.length) (news.map (·.1)) (b, tb)
    hh hr (small_one (by omega) (by omega) (by omega) (by omega)) (rangeSize_nat _ _) F N ?_ (fun _ => rfl) trivial ?_ ?_ ?_ ?_
  · intro p hp
    rw [List.nil_append, List.append_nil] at hp
    exact hp
  · intro p hp
    rw [List.mem_singleton.mp hp]
    exact hv
  · show b = b + 2 * sumS S a₀ 0
    unfold sumS
    omega
  · rintro ⟨c, tc⟩ tl pre k t u h tk own hk hn sep off _ hp F₁ N₁
    have hp' : c = b + 2 * sumS S a₀ pre.length := hp
    have e1 : (k - a₀).toNat = pre.length := by omega
    rw [List.nil_append] at N₁
    refine wpAny_mono (turn c tc k t u h tk (tl ++ own) (by omega) (by omega) (by rw [e1]; exact hp') F₁ N₁) (fun f s₂ hq => ?_) fun _ _ e => e
    obtain ⟨rfl, h', tk', m', tc', rfl, F', N', h1, h2⟩ := hq
    refine kd_end (c + 2 * S k, tc') [] sep F' N' ?_ ?_ rfl (fun q hq => nomatch hq) (fun q hq => nomatch hq) ?_ ?_ trivial ?_
    · intro p hp
      rw [List.nil_append, List.nil_append] at hp
      rcases List.mem_append.mp hp with hp | hp
      · exact List.mem_append.mpr (.inl hp)
      · exact List.mem_append.mpr (.inr (List.mem_append.mpr (.inl hp)))
    · intro p hp
      exact List.mem_append.mpr (.inr (List.mem_append.mpr (.inr hp)))
    · intro p hp
      rw [List.mem_singleton.mp hp]
      exact h1
    · intro z z1 z2 _
      exact h2 z z1 (z2 _ (List.mem_singleton.mpr rfl))
    · show c + 2 * S k = b + 2 * sumS S a₀ (pre ++ [k]).length
      rw [List.length_append, List.length_singleton]
      unfold sumS
      rw [← hk, hp']
      omega
  · rintro ⟨c, tc⟩ tl u h tk off _ hp F₁ N₁
    have hp' : c = b + 2 * sumS S a₀ (rangeKs a₀ (b₀ - a₀).toNat).length := hp
    rw [rangeKs_length] at hp'
    exact done c tc u h tk hp' F₁ (fun p hp => N₁ p (by rw [List.nil_append]; exact List.mem_append.mpr (.inl hp)))
end
theorem sumS_bound {S : Int → Int} (h : ∀ k, 29 ≤ S k ∧ S k ≤ 30) (a : Int) : ∀ n : Nat, 29 * (n : Int) ≤ sumS S a n ∧ sumS S a n ≤ 30 * (n : Int)
  | 0 => by unfold sumS; omega
  | n + 1 => by
    have h1 := sumS_bound h a n
    have h2 := h (a + n)
    unfold sumS
    omega
theorem ml_two (y k : Int) : 29 ≤ mlF y k ∧ mlF y k ≤ 30 := by
  have := ml_bound y k
  omega

theorem months_two (y : Int) : monthsF y = 12 ∨ monthsF y = 13 := by
  unfold monthsF
  split <;> simp
-- to_jd at any month's first day
def jdM (y m : Int) : Int :=
  if m < 7 then jdF y + 2 * sumS (mlF y) 7 (monthsF y + 1 - 7).toNat + 2 * sumS (mlF y) 1 (m - 1).toNat
  else jdF y + 2 * sumS (mlF y) 7 (m - 7).toNat
inductive R3m (news : List (Addr × Obj)) : List Value → Int × Int → Prop
  | mk (n k : Int) (t u v : Tok) : R3m news [.int n t, .int k u, .int 1 v] (n, k)
abbrev cJd : ToldN (Int × Int) where
  Rel := R3m
  Ok := fun d => 1 ≤ d.1 ∧ d.1 ≤ 9100 ∧ 1 ≤ d.2 ∧ d.2 ≤ 13
  size := fun _ => 7
  Tl := fun tl => tl = []
  Out := fun _ r d => ∃ t, r = .float (fl (jdM d.1 d.2)) t ∧ 0 < jdM d.1 d.2 ∧ jdM d.1 d.2 ≤ 9500000
local macro_rules | `(tactic| walk_at "call ref") => `(tactic| (k_here; k_dflt ((refine' tellsN_use ?k1 ?k2 ?k3 ?k4 ?k5 ?kK ?kR (tMonths _) ?ko ?kd ?ku ?_); (case kR => exact R1.mk _ _); (case k1 => k_asm); (case k2 => k_asm); (case k3 => k_asm); (case k4 => k_asm); (case k5 => k_asm); (case kK => first | exact rfl | assumption); (case ko => (dsimp only; omega)); (case kd => (dsimp only; ktr_room)); (case ku => (dsimp only; ktr_units)); k_whole; intro r9 tl9 h9 tk9 F9 N9 hl9 ht9 ho9; (try (subst ht9; clear hl9; simp only [List.append_nil] at N9)); (dsimp only at ho9); (obtain ⟨t9, e9, hb9⟩ := ho9; subst e9); (try dsimp only); (try k_fold))))
local macro_rules | `(tactic| walk_at "call ref") => `(tactic| (k_here; k_dflt ((refine' tellsN_use ?k1 ?k2 ?k3 ?k4 ?k5 ?kK ?kR (tD1 _) ?ko ?kd ?ku ?_); (case kR => exact R1.mk _ _); (case k1 => k_asm); (case k2 => k_asm); (case k3 => k_asm); (case k4 => k_asm); (case k5 => k_asm); (case kK => first | exact rfl | assumption); (case ko => (dsimp only; omega)); (case kd => (dsimp only; ktr_room)); (case ku => (dsimp only; ktr_units)); k_whole; intro r9 tl9 h9 tk9 F9 N9 hl9 ht9 ho9; (try (subst ht9; clear hl9; simp only [List.append_nil] at N9)); (dsimp only at ho9); (obtain ⟨t9, e9, hb9⟩ := ho9; subst e9); (try dsimp only); (try k_fold))))
local macro_rules | `(tactic| walk_at "call ref") => `(tactic| (k_here; k_dflt ((refine' tellsN_use ?k1 ?k2 ?k3 ?k4 ?k5 ?kK ?kR (tD2 _) ?ko ?kd ?ku ?_); (case kR => exact R1.mk _ _); (case k1 => k_asm); (case k2 => k_asm); (case k3 => k_asm); (case k4 => k_asm); (case k5 => k_asm); (case kK => first | exact rfl | assumption); (case ko => (dsimp only; omega)); (case kd => (dsimp only; ktr_room)); (case ku => (dsimp only; ktr_units)); k_whole; intro r9 tl9 h9 tk9 F9 N9 hl9 ht9 ho9; (try (subst ht9; clear hl9; simp only [List.append_nil] at N9)); (dsimp only at ho9); (obtain ⟨t9, e9, hb9⟩ := ho9; subst e9); (try dsimp only); (try k_fold))))
local macro_rules | `(tactic| walk_at "call ref") => `(tactic| (k_here; k_dflt ((refine' tellsN_use ?k1 ?k2 ?k3 ?k4 ?k5 ?kK ?kR (tMd _) ?ko ?kd ?ku ?_); (case kR => exact R2.mk _ _ _ _); (case k1 => k_asm); (case k2 => k_asm); (case k3 => k_asm); (case k4 => k_asm); (case k5 => k_asm); (case kK => first | exact rfl | assumption); (case ko => (dsimp only; omega)); (case kd => (dsimp only; ktr_room)); (case ku => (dsimp only; ktr_units)); k_whole; intro r9 tl9 h9 tk9 F9 N9 hl9 ht9 ho9; (try (subst ht9; clear hl9; simp only [List.append_nil] at N9)); (dsimp only at ho9); (obtain ⟨t9, e9, hb9⟩ := ho9; subst e9); (try dsimp only); (try k_fold))))
local macro_rules | `(tactic| walk_at "pyIter ref") => `(tactic| (k_here; refine Hold.out ?_))
set_option maxRecDepth 100000 in
set_option maxHeartbeats 8000000 in
theorem tJd {w : World} {mean : ExcName → Option Value} {mg mb : Str → Option Value} : ∀ d, TellsN PySem.Challenge.pw_bd5016_01 w (hd.heap_39 w.params) hd.view_39 (looseW hd.view_39 []) mean mg mb 110 cJd d := by
  intro d
  unfold TellsN
  intro dp un gd cn cs a ccd cl outer A₀ base h₀ L m news s vs Q E B F X N T hk hR hok hd hu hret
  cases hR
  rename_i y mo t u v
  obtain ⟨ho1, ho2, ho3, ho4⟩ := hok
  dsimp only at ho1 ho2 ho3 ho4 hd hu
  have hmt := months_two y
  refine wpAny_call ?_
  k_dflt ktr_enter
  k_steps
  · show wpAny _ _ _ _ _ _
    refine jd_loop (mlF y) rfl (by assumption) ⟨by omega, by omega⟩ ⟨by omega, by omega⟩ (by k_asm) (by k_asm) rfl ?_ ?_
    · intro c tc k t9 u9 h tk own hk1 hk2 hc F N
      have hsb := sumS_bound (ml_two y) 7 (k - 7).toNat
      have hml := ml_two y k
      (try k_fold)
      k_steps
      exact ⟨rfl, _, _, _, _, rfl, by k_asm, by k_asm, rfl, fun z h1 h2 => by simp only [if_neg h1, if_neg h2, kstB]; rfl⟩
    · intro c tc u9 h tk hc F N
      have hsb := sumS_bound (ml_two y) 7 (monthsF y + 1 - 7).toNat
      (try k_fold)
      k_steps
      show wpAny _ _ _ _ _ _
      refine jd_loop (mlF y) rfl (by assumption) ⟨by omega, by omega⟩ ⟨by omega, by omega⟩ (by k_asm) (by k_asm) rfl ?_ ?_
      · intro c2 tc2 k t9 u9 h tk own hk1 hk2 hc2 F N
        have hsb2 := sumS_bound (ml_two y) 1 (k - 1).toNat
        have hml := ml_two y k
        (try k_fold)
        k_steps
        exact ⟨rfl, _, _, _, _, rfl, by k_asm, by k_asm, rfl, fun z h1 h2 => by simp only [if_neg h1, if_neg h2, kstB]; rfl⟩
      · intro c2 tc2 u9 h tk hc2 F N
        have hsb2 := sumS_bound (ml_two y) 1 (mo - 1).toNat
        (try k_fold)
        k_steps
        refine hret _ [] _ _ (by k_asm) (ktn_tl0 (by k_asm)) ktn_ord0 rfl ⟨_, congrArg (Value.float · _) (congrArg fl ?_), ?_, ?_⟩
        all_goals (dsimp only; unfold jdM jdF; rw [if_pos (by assumption)]; omega)
  · show wpAny _ _ _ _ _ _
    refine jd_loop (mlF y) rfl (by assumption) ⟨by omega, by omega⟩ ⟨by omega, by omega⟩ (by k_asm) (by k_asm) rfl ?_ ?_
    · intro c tc k t9 u9 h tk own hk1 hk2 hc F N
      have hsb := sumS_bound (ml_two y) 7 (k - 7).toNat
      have hml := ml_two y k
      (try k_fold)
      k_steps
      exact ⟨rfl, _, _, _, _, rfl, by k_asm, by k_asm, rfl, fun z h1 h2 => by simp only [if_neg h1, if_neg h2, kstB]; rfl⟩
    · intro c tc u9 h tk hc F N
      have hsb := sumS_bound (ml_two y) 7 (mo - 7).toNat
      (try k_fold)
      k_steps
      refine hret _ [] _ _ (by k_asm) (ktn_tl0 (by k_asm)) ktn_ord0 rfl ⟨_, congrArg (Value.float · _) (congrArg fl ?_), ?_, ?_⟩
      all_goals (dsimp only; unfold jdM jdF; rw [if_neg (by assumption)]; omega)
end Mine
namespace Mine
theorem resetBComp : True ∧ True := by
  w_top off
  (try walk1)
  all_goals first | trivial | exact ⟨trivial, trivial⟩
theorem fillBComp : (fun (_ : PySem.Challenge.rw_bd5016_01 = PySem.Challenge.rw_bd5016_01) => hd.heap_39) = fun _ => hd.heap_39 := by
  w_top off
  k_fill
  rfl
local macro_rules | `(tactic| walk_at "binaryOp Div int int") => `(tactic| (k_here; k_dflt ((refine' m_div ?hh ?hb ?_); (case hh => rfl); (case hb => first | (unfold FqOk; omega) | exact fq_parts (by omega) (by omega)); k_whole)))
local macro_rules | `(tactic| walk_at "call builtin:math.floor") => `(tactic| (k_here; (with_reducible show wpAny _ _ (call _ [Value.float (fq _ _) _]) _ _ _); k_dflt ((refine' m_floor ?hh ?hb ?_); (case hh => rfl); (case hb => first | (unfold FqOk; omega) | exact fq_parts (by omega) (by omega)); k_whole)))
local macro_rules | `(tactic| walk_at "binaryOp Add float int") => `(tactic| (k_here; first
  | ((with_reducible show wpAny _ _ (binaryOp _ (Value.float (fl _) _) _) _ _ _); k_dflt ((refine' m_add_fi ?ha ?hb ?_); (case ha => (unfold FlOk; omega)); (case hb => omega); k_whole))
  | ((with_reducible show wpAny _ _ (binaryOp _ (Value.float 4689722129631936512 _) _) _ _ _); k_dflt ((refine' m_add_ei ?hb ?_); (case hb => omega); k_whole))))
local macro_rules | `(tactic| walk_at "inplaceOp Add float int") => `(tactic| (k_here; (with_reducible show wpAny _ _ (inplaceOp _ (Value.float (fl _) _) _) _ _ _); k_dflt ((refine' m_iadd_fi ?hh ?ha ?hb ?_); (case hh => rfl); (case ha => (unfold FlOk; omega)); (case hb => omega); k_whole)))
local macro_rules | `(tactic| walk_at "call type:int") => `(tactic| (k_here; (with_reducible show wpAny _ _ (call _ [Value.float (fl _) _]) _ _ _); k_dflt ((refine' m_int ?hh ?ha ?_); (case hh => rfl); (case ha => (unfold FlOk; omega)); k_whole)))
local macro_rules | `(tactic| walk_at "call builtin:math.trunc") => `(tactic| (k_here; (with_reducible show wpAny _ _ (call _ [Value.float (fl _) _]) _ _ _); k_dflt ((refine' m_trunc ?hh ?ha ?_); (case hh => rfl); (case ha => (unfold FlOk; omega)); k_whole)))
local macro_rules | `(tactic| walk_at "binaryOp Add int float") => `(tactic| (k_here; (with_reducible show wpAny _ _ (binaryOp _ (Value.int _ _) (Value.float 4602678819172646912 _)) _ _ _); k_dflt ((refine' m_add_ih ?hb ?_); (case hb => omega); k_whole)))
local macro_rules | `(tactic| walk_at "binaryOp Add float float") => `(tactic| (k_here; (with_reducible show wpAny _ _ (binaryOp _ (Value.float (fl _) _) (Value.float 4602678819172646912 _)) _ _ _); k_dflt ((refine' m_add_fh ?ha ?_); (case ha => (unfold FlOk; omega)); k_whole)))
local macro_rules | `(tactic| walk_at "binaryOp Sub float float") => `(tactic| (k_here; (with_reducible show wpAny _ _ (binaryOp _ (Value.float (fl _) _) (Value.float (fl _) _)) _ _ _); k_dflt ((refine' m_sub_ff ?ha ?hb ?hc ?_); (case ha => omega); (case hb => omega); (case hc => omega); k_whole)))
local macro_rules | `(tactic| walk_at "compareOp NotEq float int") => `(tactic| (k_here; (with_reducible show wpAny _ _ (compareOp _ (Value.float (fl _) _) _) _ _ _); k_dflt ((refine' m_ne_fi ?ha ?_); (case ha => (unfold FlOk; omega)); k_whole)))
local macro_rules | `(tactic| walk_at "compareOp Eq float int") => `(tactic| (k_here; (with_reducible show wpAny _ _ (compareOp _ (Value.float (fl _) _) _) _ _ _); k_dflt ((refine' m_eq_fi ?ha ?_); (case ha => (unfold FlOk; omega)); k_whole)))
local macro_rules | `(tactic| walk_at "binaryOp Mod float int") => `(tactic| (k_here; (with_reducible show wpAny _ _ (binaryOp _ (Value.float (fl (2 * _)) _) (Value.int 10 _)) _ _ _); k_dflt ((refine' m_mod ?hh ?hb ?_); (case hh => rfl); (case hb => (unfold SizeOk; omega)); k_whole)))
-- a contract that may make objects: what it made lies apart from what stood
structure Con (D : Type) where
  Rel : List (Addr × Obj) → List Value → D → Prop
  Ok : D → Prop
  size : Nat
  Out : List (Addr × Obj) → List (Addr × Obj) → Value → D → Prop

def Apart (news tl : List (Addr × Obj)) : Prop := ∀ q ∈ news, ∀ p ∈ tl, @Ne Nat q.1 p.1
theorem Apart.nil {news : List (Addr × Obj)} : Apart news [] := fun _ _ _ h => nomatch h

def Spec {D : Type} (prog : Program) (w : World) (K : Frag) (p : Program) (loose : List Str) (mean : ExcName → Option Value) (mg mb : Str → Option Value) (f : Addr) (c : Con D) (d : D) : Prop :=
  ∀ (dp un : Nat) (gd : Option (List Code)) (cn : Str) (cs : Scope) (a : Addr) (ccd : Value) (cl : List (Str × Addr)) (outer : List Env) (A₀ : Around) (base h₀ : Heap) (L : Addr) (m : Str → Option Value) (news : List (Addr × Obj)) (s : Shared) (vs : List Value)
    (Q E : Value → Shared → Prop),
    Below A₀ base outer h₀ → Fr h₀ L s.heap m → K.In h₀ → News h₀ L s.heap news → Top p loose mean mg mb h₀ → cs.kind = .function → c.Rel news vs d → c.Ok d → dp + c.size < recursionLimit → un + 8 * c.size < cLine →
    (∀ r tl h' tk', Fr h₀ L h' m → News h₀ L h' (news ++ tl) → Apart news tl → c.Out news tl r d → Q r { s with heap := h', toks := tk' }) →
    wpAny (model prog w) (ktrTop dp un gd cn cs L a ccd cl outer) (call (.ref f) vs) Q E s
theorem spec_use {D : Type} {prog : Program} {w : World} {K : Frag} {p : Program} {loose : List Str} {mean : ExcName → Option Value} {mg mb : Str → Option Value} {f : Addr} {c : Con D}
    {d : D} {dp un : Nat} {gd : Option (List Code)} {cn : Str} {cs : Scope} {a : Addr} {ccd : Value} {cl : List (Str × Addr)} {outer : List Env} {A₀ : Around} {base h₀ : Heap} {L : Addr} {m : Str → Option Value} {news : List (Addr × Obj)} {s : Shared} {vs : List Value}
    {Q E : Value → Shared → Prop} (B : Below A₀ base outer h₀) (F : Fr h₀ L s.heap m) (X : K.In h₀) (N : News h₀ L s.heap news) (T : Top p loose mean mg mb h₀) (hk : cs.kind = .function) (R : c.Rel news vs d) (C : Spec prog w K p loose mean mg mb f c d) (ok : c.Ok d)
    (hd : dp + c.size < recursionLimit) (hu : un + 8 * c.size < cLine)
    (ret : ∀ r tl h' tk', Fr h₀ L h' m → News h₀ L h' (news ++ tl) → Apart news tl → c.Out news tl r d → Q r { s with heap := h', toks := tk' }) :
    wpAny (model prog w) (ktrTop dp un gd cn cs L a ccd cl outer) (call (.ref f) vs) Q E s := C _ _ _ _ _ _ _ _ _ _ _ _ _ _ _ _ _ _ _ B F X N T hk R ok hd hu ret

theorem allNe_of_lt {news : List (Addr × Obj)} {a b : Nat} (h : ∀ p ∈ news, @LT.lt Nat _ p.1 a) (hab : a ≤ b) : ∀ p ∈ news, p.1 ≠ b := fun p hp e => by
  have h1 : @LT.lt Nat _ p.1 a := h p hp
  have h2 : @Eq Nat p.1 b := e
  omega
-- a list comprehension over a range by steps
section
variable {prog : Program} {w : World} {A : Around} {E : Value → Shared → Prop} {s : Shared} {h₀ : Heap} {L : Addr} {m : Str → Option Value} {env : Env}
def SrcS (prog : Program) (w : World) (A : Around) (h₀ : Heap) (L : Addr) (m : Str → Option Value) (env : Env) (elt : Expr) (x : Str) (scope : Scope) (cl : List (Str × Addr)) (Fin : Shared → List Value → List (Addr × Obj) → Prop) (xv : Value) (s₁ : Shared) : Prop :=
  ∃ r a b c t u v n news, xv = .ref r ∧ A.handled = none ∧ Fr h₀ L s₁.heap m ∧ News h₀ L s₁.heap news ∧ IsRange s₁.heap r a b c t u v ∧ Builtin.Range.small a b c = true ∧ Builtin.Range.rangeSize a b c = ((n : Nat) : Int) ∧ n ≤ sizeLine ∧
    ∀ g : Heap, LCg.CompRest prog w A h₀ L m env elt x scope cl { s₁ with heap := g } (fun _ => True) (fun i v => ∃ t, v = .int (a + (i : Int) * c) t) (Fin { s₁ with heap := g }) n 0 [] news
theorem steps_st {I : Addr} {a c : Int} {n : Nat} : ∀ i (h h' : Heap) (o : Obj) (nw : List (Addr × Obj)), IsRangeIter h I (a + (i : Nat) * c) ((n : Int) - (i : Nat)) c → h.get? I = some o → h'.get? I = some o → (∀ b o, h₀.get? b = some o → h'.get? b = some o) → News h₀ L h' nw → True → IsRangeIter h' I (a + (i : Nat) * c) ((n : Int) - (i : Nat)) c := by
  intro i h h' o nw st e e' _ _ _
  have st' : h.get? I = some _ := st
  show h'.get? I = some _
  rw [e', ← e]
  exact st'
theorem comp_steps {elt iter : Expr} {x : Str} {px : Pos} {scope : Scope} {cl : List (Str × Addr)} {pos : Pos} {Q : Value → Shared → Prop} (_F₀ : Fr h₀ L s.heap m)
    (hclos : closureFor scope env = pure cl) (hcell : ∀ y ∈ scope.names, y.2 ≠ .cell) (hkind : scope.kind = .function)
    (hnames : ∀ y ∈ scope.names, y.2 = .local → scope.names.lookup y.1 = some .local) (hx : scope.names.lookup x = some .local)
    (h : wpAny (model prog w) A (eval iter env) (SrcS prog w A h₀ L m env elt x scope cl (fun s₂ => LCg.FinE h₀ L m s₂ Q)) E s)
    (hs : ∀ x, foldedSetIterable iter env x = pure x) :
    wpAny (model prog w) A (eval (.ListComp elt [⟨.Name x px, iter, [], 0⟩] scope pos) env) Q E s := by
  rw [eval_ListComp]
  refine wpAny_comprehension_free (use := none) rfl hs hclos hkind hnames (wpAny_mono h (fun xv s₁ h₁ => ?_) fun _ _ e => e)
  obtain ⟨r, a, b, c, t, u, v, n, news, rfl, hh, F, N, hr, hsm, hn, hsz, R⟩ := h₁
  have hnew : ∀ o : Obj, s₁.heap.objs.size < (s₁.heap.push o).objs.size := fun o => by rw [Heap.size_push]; exact Nat.lt_succ_self _
  refine wpAny_pyIter_range hr hsm ?_
  refine LCg.block_U (Walks.range hh s₁.heap.objs.size a c n) hsz (fun _ _ st => ⟨_, st⟩) steps_st hcell hkind hx ?_ (fun b hb => by rw [List.mem_singleton.mp hb]; exact hnew _)
    (F.push _) (N.grown fun _ _ e => Heap.get?_push_of_some _ e) (Nat.ne_of_lt F.ns.lt) (next_is_new F) (fun p hp => Nat.ne_of_lt (Heap.lt_size (N p hp).1)) trivial (R _) ?_
  · show IsRangeIter _ _ _ _ _
    rw [hn]
    simpa using Heap.get?_push_size _ rfl
  · intro D C h tk m' ys news' F' N' o1 hnC hC₀ hD₀ hCL hDL hCD offC fin
    refine ⟨m', hnC, fun h'' hs'' => fin D h'' tk (F'.change hs'' hCL hC₀) (fun p hp => ⟨hs''.extBut _ _ (fun e => ?_) (N' p hp).1, (N' p hp).2⟩) o1⟩
    rcases List.mem_cons.mp hp with rfl | hp
    · exact hCD e.symm
    · exact offC p hp e

/-- a turn's end: a new flat list -/
def RowEnd (h₀ : Heap) (L : Addr) (m : Str → Option Value) (s : Shared) (led : List (Addr × Obj)) (ds : List Dat) (y : Value) (s₂ : Shared) : Prop :=
  ∃ l V k h' tk', y = .ref l ∧ s₂ = { s with heap := h', toks := tk' } ∧ Fr h₀ L h' m ∧ News h₀ L h' ((l, listOf (List.toArray V) k) :: led) ∧ (∀ p ∈ led, @Ne Nat p.1 l) ∧ DatAll [] V ds
theorem RowEnd.intro {h₀ : Heap} {L l : Addr} {m : Str → Option Value} {s : Shared} {led : List (Addr × Obj)} {ds ds' : List Dat} {V : List Value} {k : Nat} {h' : Heap} {tk' : Nat} (F : Fr h₀ L h' m) (N : News h₀ L h' ((l, listOf V.toArray k) :: led)) (hl : ∀ p ∈ led, @LT.lt Nat _ p.1 l) (hd : DatAll [] V ds') (e : ds' = ds) :
    RowEnd h₀ L m s led ds (.ref l) { s with heap := h', toks := tk' } := ⟨l, V, k, h', tk', rfl, rfl, F, N, fun p hp => Nat.ne_of_lt (hl p hp), e ▸ hd⟩
/-- the turns of such a comprehension whose element is a new flat list each -/
theorem rest_rows {elt : Expr} {x : Str} {scope : Scope} {cl : List (Str × Addr)} {s : Shared} {Fin : List Value → List (Addr × Obj) → Prop} {news : List (Addr × Obj)} {n : Nat} {P : Nat → Value → Prop} (g : Nat → List Dat)
    (turn : ∀ i v I oI C oC D m₂ ys nw h tk (E' : Value → Shared → Prop), i < n → P i v → LCg.NsObj oC m₂ → m₂ x = some v → Fr h₀ L h m → News h₀ L h ((I, oI) :: (C, oC) :: (D, LCg.lst ys) :: (nw ++ news)) → LCg.Off3 I C D (nw ++ news) → ((@Ne Nat I C) ∧ (@Ne Nat I D) ∧ (@Ne Nat C D)) →
      wpAny (model prog w) A (eval elt (compEnvC scope cl C env)) (RowEnd h₀ L m s ((I, oI) :: (C, oC) :: (D, LCg.lst ys) :: (nw ++ news)) (g i)) E' { s with heap := h, toks := tk })
    (fin : ∀ ys nw, Apart news nw → DatAll nw ys ((List.range n).map fun i => Dat.list (g i)) → Fin ys (nw ++ news)) : LCg.CompRest prog w A h₀ L m env elt x scope cl s (fun _ => True) P Fin n 0 [] news := by
  have key : ∀ (j i : Nat) (ys : List Value) (nw : List (Addr × Obj)), i + j = n → Apart news nw → DatAll nw ys ((List.range i).map fun i => Dat.list (g i)) → LCg.CompRest prog w A h₀ L m env elt x scope cl s (fun _ => True) P Fin j i ys (nw ++ news) := by
    intro j
    induction j with
    | zero =>
      intro i ys nw hi ha hy
      have e : i = n := by omega
      subst e
      exact LCg.CompRest.zero (fin ys nw ha hy)
    | succ j ih =>
      intro i ys nw hi ha hy
      refine LCg.CompRest.succ ?_
      intro v I oI C oC D m₂ h tk E' hv hC hx F N off ne
      refine wpAny_mono (turn i v I oI C oC D m₂ ys nw h tk E' (by omega) hv hC hx F N off ne) (fun y s₂ hq => ?_) fun _ _ e => e
      obtain ⟨l, V, k, h', tk', rfl, rfl, F', N', hl, hV⟩ := hq
      have sub : ∀ p ∈ (I, oI) :: (C, oC) :: (D, LCg.lst ys) :: (((l, listOf V.toArray k) :: nw) ++ news), p ∈ (l, listOf V.toArray k) :: (I, oI) :: (C, oC) :: (D, LCg.lst ys) :: (nw ++ news) := by
        intro p hp
        simp only [List.cons_append, List.mem_cons] at hp ⊢
        rcases hp with h | h | h | h | h
        · exact .inr (.inl h)
        · exact .inr (.inr (.inl h))
        · exact .inr (.inr (.inr (.inl h)))
        · exact .inl h
        · exact .inr (.inr (.inr (.inr h)))
      refine LCg.CompEnd.intro F' N' (((l, listOf V.toArray k) :: nw) ++ news) sub ?_ trivial ?_
      · exact ⟨⟨fun e => hl (I, oI) (.head _) e.symm, fun e => hl (C, oC) (.tail _ (.head _)) e.symm, fun e => hl (D, LCg.lst ys) (.tail _ (.tail _ (.head _))) e.symm⟩, off⟩
      · refine ih (i + 1) (ys ++ [.ref l]) ((l, listOf V.toArray k) :: nw) (by omega) ?_ ?_
        · intro q hq p hp
          rcases List.mem_cons.mp hp with rfl | hp
          · exact hl q (.tail _ (.tail _ (.tail _ (List.mem_append.mpr (.inr hq)))))
          · exact ha q hq p hp
        · rw [List.range_succ, List.map_append]
          refine DatAll.append (hy.mono fun p hp => .tail _ hp) (DatAll.one (DatIn.list (.head _) (hV.mono fun _ hp => absurd hp List.not_mem_nil)))
  exact key n 0 [] [] (by omega) Apart.nil .nil
theorem off1_mem {D : Addr} : ∀ {l : List (Addr × Obj)}, LCg.Off1 D l → ∀ p ∈ l, @Ne Nat p.1 D
  | [], _, _, h => nomatch h
  | _ :: _, x, p, h => by
    rcases List.mem_cons.mp h with rfl | h
    · exact x.1
    · exact off1_mem x.2 p h
/-- what a call hands back when its last step was such a comprehension -/
theorem rows_back {h₀ h : Heap} {L D : Addr} {ys : List Value} {nw own news : List (Addr × Obj)} {ds : List Dat} (N : News h₀ L h ((D, LCg.lst ys) :: (nw ++ (own ++ news)))) (o1 : LCg.Off1 D (nw ++ (own ++ news))) (ha : Apart (own ++ news) nw) (hy : DatAll nw ys ds) :
    News h₀ L h (news ++ ((D, LCg.lst ys) :: nw)) ∧ Apart news ((D, LCg.lst ys) :: nw) ∧ DatIn ((D, LCg.lst ys) :: nw) (.ref D) (.list ds) := by
  refine ⟨fun p hp => N p ?_, fun q hq p hp => ?_, DatIn.list (n := ys.length) (.head _) (hy.mono fun p hp => .tail _ hp)⟩
  · rcases List.mem_append.mp hp with hp | hp
    · exact .tail _ (List.mem_append.mpr (.inr (List.mem_append.mpr (.inr hp))))
    · rcases List.mem_cons.mp hp with rfl | hp
      · exact .head _
      · exact .tail _ (List.mem_append.mpr (.inl hp))
  · rcases List.mem_cons.mp hp with rfl | hp
    · exact off1_mem o1 q (List.mem_append.mpr (.inr (List.mem_append.mpr (.inr hq))))
    · exact ha q (List.mem_append.mpr (.inr hq)) p hp
end

-- steps over lists of data
theorem datDrop {led : List (Addr × Obj)} : ∀ {vs : List Value} {ds : List Dat}, DatAll led vs ds → ∀ k, DatAll led (vs.drop k) (ds.drop k)
  | _, _, .nil, k => by simp only [List.drop_nil]; exact .nil
  | _, _, .cons h r, 0 => .cons h r
  | _, _, .cons _ r, k + 1 => datDrop r k
theorem datTake {led : List (Addr × Obj)} : ∀ {vs : List Value} {ds : List Dat}, DatAll led vs ds → ∀ k, DatAll led (vs.take k) (ds.take k)
  | _, _, .nil, k => by simp only [List.take_nil]; exact .nil
  | _, _, .cons _ _, 0 => .nil
  | _, _, .cons h r, k + 1 => .cons h (datTake r k)
theorem datNone (led : List (Addr × Obj)) : ∀ k, DatAll led (List.replicate k Value.none) (List.replicate k Dat.none)
  | 0 => .nil
  | k + 1 => .cons .none (datNone led k)
theorem datInts {led : List (Addr × Obj)} {vs : List Value} {ns : List Int} (h : IntsAre vs ns) : DatAll led vs (ns.map Dat.int) := by
  induction h with
  | nil => exact .nil
  | cons n t _ ih => exact .cons (.int n t) ih
section
variable {prog : Program} {w : World} {A : Around} {E : Value → Shared → Prop} {s : Shared} {h₀ : Heap} {L l : Addr} {m : Str → Option Value} {news led : List (Addr × Obj)} {value slice : PySem.Expr} {vs : List Value} {ds : List Dat} {x y : Int} {t u : Tok} {nn : Nat} {Q : Value → Shared → Prop}
theorem m_slice (F : Fr h₀ L s.heap m) (N : News h₀ L s.heap news) (hm : (l, listOf vs.toArray nn) ∈ news) (hd : DatAll led vs ds) (h0 : 0 ≤ x) (h1 : 0 ≤ y) (hz : ds.length ≤ sizeLine)
    (h : ∀ D ws h', Fr h₀ L h' m → News h₀ L h' ((D, listOf (List.toArray ws) 0) :: news) → (∀ p ∈ news, @LT.lt Nat _ p.1 D) → DatAll led ws ((ds.drop x.toNat).take (y.toNat - x.toNat)) → Q (.ref D) { s with heap := h' })
    (hs : subscripted slice false (.ref l) (.ref s.heap.objs.size) = operate [.ref s.heap.objs.size, .ref l] (getItem (.ref l) (.ref s.heap.objs.size))) (ht : ∀ r, letTemporaryGo value (.ref l) r = pure ()) :
    wpAny (model prog w) A (subscriptTail value slice (.ref l) (.ref s.heap.objs.size)) Q E { s with heap := s.heap.push { cls := .type "slice", data := .fields #[.int x t, .int y u, .none] } } := by
  have hlen : vs.length = ds.length := hd.length
  have e : sliceBounds (some x) (some y) none vs.toArray.size = (((min x.toNat vs.length : Nat) : Int), ((min y.toNat vs.length : Nat) : Int), 1) := by
    simp only [sliceBounds, Option.getD_none, show (1 : Int) > 0 by decide, if_true, if_neg (show ¬ (x < 0) by omega), if_neg (show ¬ (y < 0) by omega), List.size_toArray]
    congr 1
    · omega
    · congr 1
      omega
  have e2 : slicePick vs.toArray (some x) (some y) none = ((vs.drop x.toNat).take (y.toNat - x.toNat)).toArray := by
    rw [kmk_pick_nat _ e]
    show ((vs.drop (min x.toNat vs.length)).take (min y.toNat vs.length - min x.toNat vs.length)).toArray = _
    congr 1
    rw [kmk_drop_min]
    by_cases hx : x.toNat ≤ vs.length
    · rw [Nat.min_eq_left hx]
      by_cases hy : y.toNat ≤ vs.length
      · rw [Nat.min_eq_left hy]
      · rw [Nat.min_eq_right (by omega), List.take_of_length_le (by rw [List.length_drop]; omega), List.take_of_length_le (by rw [List.length_drop]; omega)]
    · rw [List.drop_of_length_le (by omega), List.take_nil, List.take_nil]
  refine kmk_slice F N (N.isList hm) (IsPart.int _ _) (IsPart.int _ _) (fun D h' F' N' l1 => ?_) hs ht (by rw [List.size_toArray, hlen]; exact hz)
  rw [e2] at N'
  exact h D _ h' F' N' l1 (datTake (datDrop hd _) _)
end
end Mine
namespace Mine
theorem resetBLst : True ∧ True := by
  w_top off
  (try walk1)
  all_goals first | trivial | exact ⟨trivial, trivial⟩
theorem fillBLst : (fun (_ : PySem.Challenge.rw_bd5016_01 = PySem.Challenge.rw_bd5016_01) => hd.heap_39) = fun _ => hd.heap_39 := by
  w_top off
  k_fill
  rfl
local macro_rules | `(tactic| walk_at "binaryOp Div int int") => `(tactic| (k_here; k_dflt ((refine' m_div ?hh ?hb ?_); (case hh => rfl); (case hb => first | (unfold FqOk; omega) | exact fq_parts (by omega) (by omega)); k_whole)))
local macro_rules | `(tactic| walk_at "call builtin:math.floor") => `(tactic| (k_here; (with_reducible show wpAny _ _ (call _ [Value.float (fq _ _) _]) _ _ _); k_dflt ((refine' m_floor ?hh ?hb ?_); (case hh => rfl); (case hb => first | (unfold FqOk; omega) | exact fq_parts (by omega) (by omega)); k_whole)))
local macro_rules | `(tactic| walk_at "binaryOp Add float int") => `(tactic| (k_here; first
  | ((with_reducible show wpAny _ _ (binaryOp _ (Value.float (fl _) _) _) _ _ _); k_dflt ((refine' m_add_fi ?ha ?hb ?_); (case ha => (unfold FlOk; omega)); (case hb => omega); k_whole))
  | ((with_reducible show wpAny _ _ (binaryOp _ (Value.float 4689722129631936512 _) _) _ _ _); k_dflt ((refine' m_add_ei ?hb ?_); (case hb => omega); k_whole))))
local macro_rules | `(tactic| walk_at "inplaceOp Add float int") => `(tactic| (k_here; (with_reducible show wpAny _ _ (inplaceOp _ (Value.float (fl _) _) _) _ _ _); k_dflt ((refine' m_iadd_fi ?hh ?ha ?hb ?_); (case hh => rfl); (case ha => (unfold FlOk; omega)); (case hb => omega); k_whole)))
local macro_rules | `(tactic| walk_at "call type:int") => `(tactic| (k_here; (with_reducible show wpAny _ _ (call _ [Value.float (fl _) _]) _ _ _); k_dflt ((refine' m_int ?hh ?ha ?_); (case hh => rfl); (case ha => (unfold FlOk; omega)); k_whole)))
local macro_rules | `(tactic| walk_at "call builtin:math.trunc") => `(tactic| (k_here; (with_reducible show wpAny _ _ (call _ [Value.float (fl _) _]) _ _ _); k_dflt ((refine' m_trunc ?hh ?ha ?_); (case hh => rfl); (case ha => (unfold FlOk; omega)); k_whole)))
local macro_rules | `(tactic| walk_at "binaryOp Add int float") => `(tactic| (k_here; (with_reducible show wpAny _ _ (binaryOp _ (Value.int _ _) (Value.float 4602678819172646912 _)) _ _ _); k_dflt ((refine' m_add_ih ?hb ?_); (case hb => omega); k_whole)))
local macro_rules | `(tactic| walk_at "binaryOp Add float float") => `(tactic| (k_here; (with_reducible show wpAny _ _ (binaryOp _ (Value.float (fl _) _) (Value.float 4602678819172646912 _)) _ _ _); k_dflt ((refine' m_add_fh ?ha ?_); (case ha => (unfold FlOk; omega)); k_whole)))
local macro_rules | `(tactic| walk_at "binaryOp Sub float float") => `(tactic| (k_here; (with_reducible show wpAny _ _ (binaryOp _ (Value.float (fl _) _) (Value.float (fl _) _)) _ _ _); k_dflt ((refine' m_sub_ff ?ha ?hb ?hc ?_); (case ha => omega); (case hb => omega); (case hc => omega); k_whole)))
local macro_rules | `(tactic| walk_at "compareOp NotEq float int") => `(tactic| (k_here; (with_reducible show wpAny _ _ (compareOp _ (Value.float (fl _) _) _) _ _ _); k_dflt ((refine' m_ne_fi ?ha ?_); (case ha => (unfold FlOk; omega)); k_whole)))
local macro_rules | `(tactic| walk_at "compareOp Eq float int") => `(tactic| (k_here; (with_reducible show wpAny _ _ (compareOp _ (Value.float (fl _) _) _) _ _ _); k_dflt ((refine' m_eq_fi ?ha ?_); (case ha => (unfold FlOk; omega)); k_whole)))
local macro_rules | `(tactic| walk_at "binaryOp Mod float int") => `(tactic| (k_here; (with_reducible show wpAny _ _ (binaryOp _ (Value.float (fl (2 * _)) _) (Value.int 10 _)) _ _ _); k_dflt ((refine' m_mod ?hh ?hb ?_); (case hh => rfl); (case hb => (unfold SizeOk; omega)); k_whole)))
section
variable {prog : Program} {w : World} {A : Around} {E : Value → Shared → Prop} {s : Shared} {h₀ : Heap} {L l b : Addr} {m : Str → Option Value} {news : List (Addr × Obj)} {vs ws : List Value} {x : Int} {u : Tok} {nn kk : Nat} {Q : Value → Shared → Prop}
theorem foldl_one (v : Value) : ∀ (k : Nat) (acc : Array Value), List.foldl (fun x1 x2 => x1 ++ x2) acc (List.replicate k #[v]) = acc ++ (List.replicate k v).toArray
  | 0, acc => by simp
  | k + 1, acc => by
    rw [List.replicate_succ, List.foldl_cons, foldl_one v k]
    apply Array.ext'
    simp [List.replicate_succ]
theorem m_mulN {v : Value} (F : Fr h₀ L s.heap m) (N : News h₀ L s.heap news) (hm : (l, listOf #[v] nn) ∈ news) (h0 : 0 ≤ x) (h1 : x < 100000)
    (h : ∀ D h', Fr h₀ L h' m → News h₀ L h' ((D, listOf (List.replicate x.toNat v).toArray 0) :: news) → (∀ p ∈ news, @LT.lt Nat _ p.1 D) → Q (.ref D) { s with heap := h' }) :
    wpAny (model prog w) A (binaryOp .Mult (.ref l) (.int x u)) Q E s := by
  refine mul_list F N (N.get hm) (by omega) (by omega) ?_ (fun h' F' N' => h _ h' F' ?_ fun p hp => Heap.lt_size (N p hp).1)
  · show 1 * x.toNat ≤ _
    omega
  · have e := foldl_one v x.toNat #[]
    rw [Array.empty_append] at e
    rw [← e]
    exact N'
theorem m_mulNr {v : Value} (F : Fr h₀ L s.heap m) (N : News h₀ L s.heap news) (hm : (l, listOf #[v] nn) ∈ news) (h0 : 0 ≤ x) (h1 : x < 100000)
    (h : ∀ D h', Fr h₀ L h' m → News h₀ L h' ((D, listOf (List.replicate x.toNat v).toArray 0) :: news) → (∀ p ∈ news, @LT.lt Nat _ p.1 D) → Q (.ref D) { s with heap := h' }) :
    wpAny (model prog w) A (binaryOp .Mult (.int x u) (.ref l)) Q E s := by
  refine mul_list_r F N (N.get hm) (by omega) (by omega) ?_ (fun h' F' N' => h _ h' F' ?_ fun p hp => Heap.lt_size (N p hp).1)
  · show 1 * x.toNat ≤ _
    omega
  · have e := foldl_one v x.toNat #[]
    rw [Array.empty_append] at e
    rw [← e]
    exact N'
theorem m_len (N : News h₀ L s.heap news) (hm : (l, listOf vs.toArray nn) ∈ news) (hz : vs.length ≤ 100000) (h : Q (.int (vs.length : Nat) (s.toks + 1)) { s with toks := s.toks + 1 + 1 }) : wpAny (model prog w) A (call (.builtin "len") [.ref l]) Q E s := by
  have e : vs.toArray.size = vs.length := List.size_toArray ..
  exact len_list (N.isList hm) (by rw [e]; omega) (by rw [e]; exact h)
theorem m_addL (F : Fr h₀ L s.heap m) (N : News h₀ L s.heap news) (ha : (l, listOf vs.toArray nn) ∈ news) (hb : (b, listOf ws.toArray kk) ∈ news) (hz : vs.length + ws.length ≤ 100000)
    (h : ∀ D h', Fr h₀ L h' m → News h₀ L h' ((D, listOf (vs ++ ws).toArray 0) :: news) → (∀ p ∈ news, @LT.lt Nat _ p.1 D) → Q (.ref D) { s with heap := h' }) :
    wpAny (model prog w) A (binaryOp .Add (.ref l) (.ref b)) Q E s :=
  add_arrays F N (N.isList ha) (N.isList hb) (fun h' F' N' => h _ h' F' N' fun p hp => Heap.lt_size (N p hp).1) (by rw [sizeLine_eq, List.size_toArray, List.size_toArray]; omega)
end
section
variable {prog : Program} {w : World} {A : Around} {E : Value → Shared → Prop} {s : Shared} {a b : Int} {t u : Tok} {Q : Value → Shared → Prop}
theorem m_modE (hb : 0 < b) (h : Q (.int (a % b) s.toks) { s with toks := s.toks + 1 }) : wpAny (model prog w) A (binaryOp .Mod (.int a t) (.int b u)) Q E s :=
  PyProof.Rows.mod_int (by omega) (by rw [Int.fmod_eq_emod_of_nonneg _ (by omega)]; exact h)
end
section
variable {prog : Program} {w : World} {A : Around} {h₀ : Heap} {L : Addr} {m : Str → Option Value} {env : Env}
theorem srcS_intro {elt : Expr} {x : Str} {scope : Scope} {cl : List (Str × Addr)} {Fin : Shared → List Value → List (Addr × Obj) → Prop} {s₁ : Shared} {r : Addr} {z : Int} {t u v : Tok} {news news' : List (Addr × Obj)}
    (hh : A.handled = none) (F : Fr h₀ L s₁.heap m) (N : News h₀ L s₁.heap news) (sub : ∀ p ∈ news', p ∈ news) (hr : IsRange s₁.heap r 0 z 7 t u v) (hsm : Builtin.Range.small 0 z 7 = true) (hn : Builtin.Range.rangeSize 0 z 7 = (((z + 6) / 7).toNat : Int)) (hsz : ((z + 6) / 7).toNat ≤ sizeLine)
    (R : ∀ g : Heap, LCg.CompRest prog w A h₀ L m env elt x scope cl { s₁ with heap := g } (fun _ => True) (fun i v => ∃ t, v = .int (0 + (i : Int) * 7) t) (Fin { s₁ with heap := g }) ((z + 6) / 7).toNat 0 [] news') :
    SrcS prog w A h₀ L m env elt x scope cl Fin (.ref r) s₁ := ⟨_, _, _, _, _, _, _, _, _, rfl, hh, F, cb_drop N sub, hr, hsm, hn, hsz, R⟩
end
theorem news_m1 {h₀ h : Heap} {L : Addr} {a b c x : Addr × Obj} {nw r : List (Addr × Obj)} (_ : News h₀ L h (a :: b :: c :: (nw ++ (x :: r)))) : x ∈ a :: b :: c :: (nw ++ (x :: r)) :=
  .tail _ (.tail _ (.tail _ (List.mem_append.mpr (.inr (.head _)))))
theorem news_m2 {h₀ h : Heap} {L : Addr} {a b c x y : Addr × Obj} {nw r : List (Addr × Obj)} (_ : News h₀ L h (a :: b :: c :: (nw ++ (x :: y :: r)))) : y ∈ a :: b :: c :: (nw ++ (x :: y :: r)) :=
  .tail _ (.tail _ (.tail _ (List.mem_append.mpr (.inr (.tail _ (.head _))))))
theorem steps_size {z : Int} (h0 : 0 ≤ z) : Builtin.Range.rangeSize 0 z 7 = (((z + 6) / 7).toNat : Int) := by
  unfold Builtin.Range.rangeSize
  simp only [show (7 : Int) > 0 by decide, if_true]
  split <;> omega
theorem steps_small {z : Int} (h0 : 0 ≤ z) (h1 : z < 100000) : Builtin.Range.small 0 z 7 = true := by
  unfold Builtin.Range.small
  rw [steps_size h0]
  simp only [Builtin.Range.rangeFitsLong, Bool.and_eq_true, Bool.or_eq_true, decide_eq_true_eq, beq_iff_eq, show (7 : Int) > 0 by decide, if_true]
  omega

def chunk (ds : List Dat) (i : Nat) : List Dat := (ds.drop (7 * i)).take 7
def rowsN (ds : List Dat) (n : Nat) : List Dat := (List.range n).map fun i => Dat.list (chunk ds i)
theorem chunk_at (ds : List Dat) {k : Int} {i : Nat} (h : k = 0 + (i : Int) * 7) : (ds.drop k.toNat).take ((k + 7).toNat - k.toNat) = chunk ds i := by
  unfold chunk
  rw [show k.toNat = 7 * i by omega, show (k + 7).toNat - 7 * i = 7 by omega]
end Mine
namespace Mine
theorem resetBL1 : True ∧ True := by
  w_top off
  (try walk1)
  all_goals first | trivial | exact ⟨trivial, trivial⟩
theorem fillBL1 : (fun (_ : PySem.Challenge.rw_bd5016_01 = PySem.Challenge.rw_bd5016_01) => hd.heap_39) = fun _ => hd.heap_39 := by
  w_top off
  k_fill
  rfl
local macro_rules | `(tactic| walk_at "binaryOp Div int int") => `(tactic| (k_here; k_dflt ((refine' m_div ?hh ?hb ?_); (case hh => rfl); (case hb => first | (unfold FqOk; omega) | exact fq_parts (by omega) (by omega)); k_whole)))
local macro_rules | `(tactic| walk_at "call builtin:math.floor") => `(tactic| (k_here; (with_reducible show wpAny _ _ (call _ [Value.float (fq _ _) _]) _ _ _); k_dflt ((refine' m_floor ?hh ?hb ?_); (case hh => rfl); (case hb => first | (unfold FqOk; omega) | exact fq_parts (by omega) (by omega)); k_whole)))
local macro_rules | `(tactic| walk_at "binaryOp Add float int") => `(tactic| (k_here; first
  | ((with_reducible show wpAny _ _ (binaryOp _ (Value.float (fl _) _) _) _ _ _); k_dflt ((refine' m_add_fi ?ha ?hb ?_); (case ha => (unfold FlOk; omega)); (case hb => omega); k_whole))
  | ((with_reducible show wpAny _ _ (binaryOp _ (Value.float 4689722129631936512 _) _) _ _ _); k_dflt ((refine' m_add_ei ?hb ?_); (case hb => omega); k_whole))))
local macro_rules | `(tactic| walk_at "inplaceOp Add float int") => `(tactic| (k_here; (with_reducible show wpAny _ _ (inplaceOp _ (Value.float (fl _) _) _) _ _ _); k_dflt ((refine' m_iadd_fi ?hh ?ha ?hb ?_); (case hh => rfl); (case ha => (unfold FlOk; omega)); (case hb => omega); k_whole)))
local macro_rules | `(tactic| walk_at "call type:int") => `(tactic| (k_here; (with_reducible show wpAny _ _ (call _ [Value.float (fl _) _]) _ _ _); k_dflt ((refine' m_int ?hh ?ha ?_); (case hh => rfl); (case ha => (unfold FlOk; omega)); k_whole)))
local macro_rules | `(tactic| walk_at "call builtin:math.trunc") => `(tactic| (k_here; (with_reducible show wpAny _ _ (call _ [Value.float (fl _) _]) _ _ _); k_dflt ((refine' m_trunc ?hh ?ha ?_); (case hh => rfl); (case ha => (unfold FlOk; omega)); k_whole)))
local macro_rules | `(tactic| walk_at "binaryOp Add int float") => `(tactic| (k_here; (with_reducible show wpAny _ _ (binaryOp _ (Value.int _ _) (Value.float 4602678819172646912 _)) _ _ _); k_dflt ((refine' m_add_ih ?hb ?_); (case hb => omega); k_whole)))
local macro_rules | `(tactic| walk_at "binaryOp Add float float") => `(tactic| (k_here; (with_reducible show wpAny _ _ (binaryOp _ (Value.float (fl _) _) (Value.float 4602678819172646912 _)) _ _ _); k_dflt ((refine' m_add_fh ?ha ?_); (case ha => (unfold FlOk; omega)); k_whole)))
local macro_rules | `(tactic| walk_at "binaryOp Sub float float") => `(tactic| (k_here; (with_reducible show wpAny _ _ (binaryOp _ (Value.float (fl _) _) (Value.float (fl _) _)) _ _ _); k_dflt ((refine' m_sub_ff ?ha ?hb ?hc ?_); (case ha => omega); (case hb => omega); (case hc => omega); k_whole)))
local macro_rules | `(tactic| walk_at "compareOp NotEq float int") => `(tactic| (k_here; (with_reducible show wpAny _ _ (compareOp _ (Value.float (fl _) _) _) _ _ _); k_dflt ((refine' m_ne_fi ?ha ?_); (case ha => (unfold FlOk; omega)); k_whole)))
local macro_rules | `(tactic| walk_at "compareOp Eq float int") => `(tactic| (k_here; (with_reducible show wpAny _ _ (compareOp _ (Value.float (fl _) _) _) _ _ _); k_dflt ((refine' m_eq_fi ?ha ?_); (case ha => (unfold FlOk; omega)); k_whole)))
local macro_rules | `(tactic| walk_at "binaryOp Mod float int") => `(tactic| (k_here; (with_reducible show wpAny _ _ (binaryOp _ (Value.float (fl (2 * _)) _) (Value.int 10 _)) _ _ _); k_dflt ((refine' m_mod ?hh ?hb ?_); (case hh => rfl); (case hb => (unfold SizeOk; omega)); k_whole)))
local macro_rules | `(tactic| walk_at "binaryOp Mod int int") => `(tactic| (k_here; k_dflt (refine' m_modE ?b ?_; (case b => omega); k_whole)))
local macro_rules | `(tactic| walk_at "binaryOp Mult ref int") => `(tactic| (k_here; k_dflt (refine' m_mulN ?F ?N ?a ?b ?c ?_; (case F => k_asm); (case N => k_asm); (case a => k_mem); (case b => (first | omega | ((simp only [List.length_append, List.length_replicate]); omega) | ((have hl9 := IntsAre.length (by assumption)); (simp only [List.length_append, List.length_replicate, rangeKs_length] at *); omega))); (case c => (first | omega | ((simp only [List.length_append, List.length_replicate]); omega) | ((have hl9 := IntsAre.length (by assumption)); (simp only [List.length_append, List.length_replicate, rangeKs_length] at *); omega))); k_whole); intro D' h' F' N' l1; (try k_lt l1); (try k_sweep)))
local macro_rules | `(tactic| walk_at "binaryOp Mult int ref") => `(tactic| (k_here; k_dflt (refine' m_mulNr ?F ?N ?a ?b ?c ?_; (case F => k_asm); (case N => k_asm); (case a => k_mem); (case b => (first | omega | ((simp only [List.length_append, List.length_replicate]); omega) | ((have hl9 := IntsAre.length (by assumption)); (simp only [List.length_append, List.length_replicate, rangeKs_length] at *); omega))); (case c => (first | omega | ((simp only [List.length_append, List.length_replicate]); omega) | ((have hl9 := IntsAre.length (by assumption)); (simp only [List.length_append, List.length_replicate, rangeKs_length] at *); omega))); k_whole); intro D' h' F' N' l1; (try k_lt l1); (try k_sweep)))
local macro_rules | `(tactic| walk_at "binaryOp Add ref ref") => `(tactic| (k_here; k_dflt (refine' m_addL ?F ?N ?a ?b ?c ?_; (case F => k_asm); (case N => k_asm); (case a => k_mem); (case b => k_mem); (case c => (first | omega | ((simp only [List.length_append, List.length_replicate]); omega) | ((have hl9 := IntsAre.length (by assumption)); (simp only [List.length_append, List.length_replicate, rangeKs_length] at *); omega))); k_whole); intro D' h' F' N' l1; (try k_lt l1); (try k_sweep)))
local macro_rules | `(tactic| walk_at "eval ListComp") => `(tactic| (k_here; k_dflt (refine comp_steps (by k_asm) (by with_unfolding_all rfl) (by decide) (by rfl) (by decide) (by rfl) ?_ (by intro _; rfl))))
local macro_rules | `(tactic| k_all) => `(tactic| exact allNe_of_lt (by assumption) (by omega))
local macro_rules | `(tactic| walk_at "subscriptTail Name Slice ref ref") => `(tactic| (k_here; k_dflt (refine' m_slice ?F ?N ?a ?d ?x ?y ?z ?_ ?s ?t; (case F => k_asm); (case N => k_asm); (case a => first | with_reducible assumption | k_mem); (case d => assumption); (case x => omega); (case y => omega); (case z => assumption); (case s => with_unfolding_all rfl); (case t => (intro _; with_unfolding_all rfl)); k_whole); intro D' ws' h' F' N' l1 hW'; (try k_sweep)))
local macro_rules | `(tactic| walk_at "eval Name") => `(tactic| (k_here; (with_reducible show wpAny _ _ (eval (Expr.Name _ _) (compEnvC _ _ _ _)) _ _ _); k_dflt (first
  | refine LCgL.ld_own (by k_asm) (by first | exact List.Mem.tail _ (List.Mem.head _) | exact List.Mem.tail _ (List.Mem.tail _ (List.Mem.head _))) (by with_reducible assumption) (by with_reducible assumption) ?_
  | refine kcf_cell (by k_asm) (by rfl) (by with_reducible assumption) (by with_reducible assumption) ?_)))
local macro_rules | `(tactic| walk_at "call builtin:len") => `(tactic| (k_here; k_dflt (refine' m_len ?N ?a ?c ?_; (case N => k_asm); (case a => k_mem); (case c => first | omega | ((simp only [List.length_append, List.length_replicate]); omega)); k_whole)))
local macro_rules | `(tactic| k_mem) => `(tactic| ((repeat (refine' List.Mem.tail _ ?_)); assumption))

def helpD (pad ml : Int) : List Dat := List.replicate pad.toNat Dat.none ++ (rangeKs 1 ml.toNat).map Dat.int ++ List.replicate 7 Dat.none
def helpF (wd ml : Int) : List Dat := rowsN (helpD ((wd + 1) % 7) ml) (((wd + 1) % 7 + ml + 6) / 7).toNat
abbrev cHelp : Con (Int × Int) where
  Rel := R2
  Ok := fun d => 0 ≤ d.1 ∧ d.1 ≤ 6 ∧ 29 ≤ d.2 ∧ d.2 ≤ 30
  size := 1
  Out := fun _ tl r d => DatIn tl r (Dat.list (helpF d.1 d.2))
set_option maxRecDepth 100000 in
set_option maxHeartbeats 8000000 in
theorem tHelp {w : World} {mean : ExcName → Option Value} {mg mb : Str → Option Value} : ∀ d, Spec PySem.Challenge.pw_bd5016_01 w (hd.heap_39 w.params) hd.view_39 (looseW hd.view_39 []) mean mg mb 54 cHelp d := by
  intro d
  unfold Spec
  intro dp un gd cn cs a ccd cl outer A₀ base h₀ L m news s vs Q E B F X N T hk hR hok hd hu hret
  cases hR
  rename_i wd ml t u
  obtain ⟨ho1, ho2, ho3, ho4⟩ := hok
  dsimp only at ho1 ho2 ho3 ho4
  dsimp only at hd hu
  refine wpAny_call ?_
  k_dflt (refine' code_defC ?k1 ?k2 ?k3 ?k4 ?k5 ?kA ?kF ?kK ?k6 ?k7 ?k8 ?k9 ?kB ?kD ?_ ?c2 ?c3 ?c4; (case kA => exact rfl); (case kF => exact rfl); (case kK => assumption); (case k1 => k_asm); (case k2 => k_asm); (case k3 => k_asm); (case k4 => k_asm); (case k5 => k_asm); (case k6 => k_is); (case k7 => k_is); (case k8 => ktr_room); (case k9 => exact BindsTo.of_eq rfl); (case kB => exact rfl); (case kD => decide +kernel); (case c2 => exact rfl); (case c3 => exact rfl); (case c4 => exact rfl); k_whole)
  intro g' L' h' tk' cells' FG' F' N' Y' B' X' T' l1
  (try k_lt l1)
  k_cells Y'
  (try simp only [List.cons_append, List.nil_append] at N')
  (try dsimp only)
  (try k_fold)
  k_steps
  have hI := IntsAre.length (by assumption)
  rw [rangeKs_length] at hI
  have hz0 : 0 ≤ (wd + 1) % 7 ∧ (wd + 1) % 7 < 7 := by omega
  refine srcS_intro rfl (by k_asm) (by k_asm) (List.forall_mem_cons.mpr ⟨List.Mem.head _, List.forall_mem_cons.mpr ⟨List.Mem.tail _ (List.Mem.tail _ (List.Mem.tail _ (List.Mem.tail _ (List.Mem.tail _ (List.Mem.tail _ (List.Mem.tail _ (List.Mem.head _))))))), fun p hp => List.Mem.tail _ (List.Mem.tail _ (List.Mem.tail _ (List.Mem.tail _ (List.Mem.tail _ (List.Mem.tail _ (List.Mem.tail _ (List.Mem.tail _ hp)))))))⟩⟩) (by assumption) (steps_small (by omega) (by omega)) (steps_size (by omega)) (by rw [sizeLine_eq]; omega) ?_
  intro g9
  have hD : DatAll [] (List.replicate ((wd + 1) % 7).toNat Value.none ++ _ ++ List.replicate (Int.toNat 7) Value.none) (helpD ((wd + 1) % 7) ml) := DatAll.append (DatAll.append (datNone _ _) (datInts (by rw [show ml.toNat = (1 + ml - 1).toNat by omega]; assumption))) (datNone _ _)
  have hDz : (helpD ((wd + 1) % 7) ml).length ≤ sizeLine := by
    rw [sizeLine_eq]
    simp only [helpD, List.length_append, List.length_replicate, List.length_map, rangeKs_length]
    omega
  refine rest_rows (fun i => chunk (helpD ((wd + 1) % 7) ml) i) ?_ ?_
  · intro i v I oI C oC D m₂ ys nw h tk E' hi hv hC hx F N off ne
    obtain ⟨t9, rfl⟩ := hv
    have hi0 : 0 ≤ (i : Int) := Int.natCast_nonneg i
    have hm1 := news_m1 N
    have hm2 := news_m2 N
    (try k_fold)
    k_steps
    exact RowEnd.intro (by k_asm) (by k_asm) (by assumption) (by assumption) (chunk_at _ rfl)
  · intro ys nw ha hy
    show LCg.FinE _ _ _ _ _ _ _
    unfold LCg.FinE
    intro D h tk F N o1
    (try dsimp only)
    (try k_fold)
    k_steps
    rename News h₀ L _ ((D, _) :: _) => kN9
    obtain ⟨b1, b2, b3⟩ := rows_back (own := [_, _]) kN9 o1 ha hy
    exact hret _ _ _ _ (by k_asm) b1 b2 b3

-- jwday
def jwF (a : Int) : Int := (a + 1) / 2 % 7
inductive Rf (news : List (Addr × Obj)) : List Value → Int → Prop
  | mk (a : Int) (t : Tok) : Rf news [.float (fl a) t] a
abbrev cJw : ToldN Int where
  Rel := Rf
  Ok := fun a => 0 < a ∧ a ≤ 10000000
  size := fun _ => 1
  Tl := fun tl => tl = []
  Out := fun _ r a => ∃ t, r = .int (jwF a) t ∧ 0 ≤ jwF a ∧ jwF a ≤ 6
set_option maxRecDepth 100000 in
set_option maxHeartbeats 8000000 in
theorem tJw {w : World} {mean : ExcName → Option Value} {mg mb : Str → Option Value} : ∀ d, TellsN PySem.Challenge.pw_bd5016_01 w (hd.heap_39 w.params) hd.view_39 (looseW hd.view_39 []) mean mg mb 49 cJw d := by
  intro d
  unfold TellsN
  intro dp un gd cn cs a ccd cl outer A₀ base h₀ L m news s vs Q E B F X N T hk hR hok hd hu hret
  cases hR
  obtain ⟨ho1, ho2⟩ := hok
  refine wpAny_call ?_
  k_dflt ktr_enter
  k_steps
  refine hret _ [] _ _ (by k_asm) (ktn_tl0 (by k_asm)) ktn_ord0 rfl ⟨_, rfl, ?_, ?_⟩
  all_goals (unfold jwF; omega)

-- _law_rows
def lawD (ds : List Dat) : List Dat := ds ++ List.replicate (-(ds.length : Int) % 7).toNat Dat.none
def lawF (ds : List Dat) : List Dat := rowsN (lawD ds) (((lawD ds).length + 6) / 7)
inductive RL (news : List (Addr × Obj)) : List Value → List Dat → Prop
  | mk (a : Addr) (V : List Value) (k : Nat) (ds : List Dat) : (a, listOf V.toArray k) ∈ news → DatAll [] V ds → RL news [.ref a] ds
abbrev cRows : Con (List Dat) where
  Rel := RL
  Ok := fun d => d.length ≤ 1000
  size := 1
  Out := fun _ tl r d => DatIn tl r (Dat.list (lawF d))
set_option maxRecDepth 100000 in
set_option maxHeartbeats 8000000 in
theorem tRows {w : World} {mean : ExcName → Option Value} {mg mb : Str → Option Value} : ∀ d, Spec PySem.Challenge.pw_bd5016_01 w (hd.heap_39 w.params) hd.view_39 (looseW hd.view_39 []) mean mg mb 129 cRows d := by
  intro d
  unfold Spec
  intro dp un gd cn cs a ccd cl outer A₀ base h₀ L m news s vs Q E B F X N T hk hR hok hd hu hret
  cases hR
  rename_i al V k hal hV
  have hok1 : d.length ≤ 1000 := hok
  have hVl := hV.length
  dsimp only at hd hu
  refine wpAny_call ?_
  k_dflt (refine' code_defC ?k1 ?k2 ?k3 ?k4 ?k5 ?kA ?kF ?kK ?k6 ?k7 ?k8 ?k9 ?kB ?kD ?_ ?c2 ?c3 ?c4; (case kA => exact rfl); (case kF => exact rfl); (case kK => assumption); (case k1 => k_asm); (case k2 => k_asm); (case k3 => k_asm); (case k4 => k_asm); (case k5 => k_asm); (case k6 => k_is); (case k7 => k_is); (case k8 => ktr_room); (case k9 => exact BindsTo.of_eq rfl); (case kB => exact rfl); (case kD => decide +kernel); (case c2 => exact rfl); (case c3 => exact rfl); (case c4 => exact rfl); k_whole)
  intro g' L' h' tk' cells' FG' F' N' Y' B' X' T' l1
  (try k_lt l1)
  k_cells Y'
  (try simp only [List.cons_append, List.nil_append] at N')
  (try dsimp only)
  (try k_fold)
  k_steps
  have eN : List.length (V ++ List.replicate (-(V.length : Int) % 7).toNat Value.none) = (lawD d).length := by
    unfold lawD
    rw [List.length_append, List.length_append, List.length_replicate, List.length_replicate, hVl]
  have hDz : (lawD d).length ≤ 1006 := by
    unfold lawD
    rw [List.length_append, List.length_replicate]
    omega
  refine srcS_intro rfl (by k_asm) (by k_asm) (List.forall_mem_cons.mpr ⟨List.Mem.head _, List.forall_mem_cons.mpr ⟨List.Mem.tail _ (List.Mem.tail _ (List.Mem.tail _ (List.Mem.head _))), fun p hp => List.Mem.tail _ (List.Mem.tail _ (List.Mem.tail _ (List.Mem.tail _ hp)))⟩⟩) (by assumption) (steps_small (by omega) (by omega)) (steps_size (by omega)) (by rw [sizeLine_eq]; omega) ?_
  intro g9
  have hD : DatAll [] (V ++ List.replicate (-(V.length : Int) % 7).toNat Value.none) (lawD d) := by
    rw [hVl]
    exact DatAll.append hV (datNone _ _)
  have hDz2 : (lawD d).length ≤ sizeLine := by rw [sizeLine_eq]; omega
  refine rest_rows (fun i => chunk (lawD d) i) ?_ ?_
  · intro i v I oI C oC D m₂ ys nw h tk E' hi hv hC hx F N off ne
    obtain ⟨t9, rfl⟩ := hv
    have hi0 : 0 ≤ (i : Int) := Int.natCast_nonneg i
    have hm1 := news_m1 N
    have hm2 := news_m2 N
    (try k_fold)
    k_steps
    exact RowEnd.intro (by k_asm) (by k_asm) (by assumption) (by assumption) (chunk_at _ rfl)
  · intro ys nw ha hy
    show LCg.FinE _ _ _ _ _ _ _
    unfold LCg.FinE
    intro D h tk F N o1
    (try dsimp only)
    (try k_fold)
    k_steps
    rename News h₀ L _ ((D, _) :: _) => kN9
    obtain ⟨b1, b2, b3⟩ := rows_back (own := [_, _]) kN9 o1 ha hy
    refine hret _ _ _ _ (by k_asm) b1 b2 ?_
    have e9 : (((List.length (V ++ List.replicate (-(V.length : Int) % 7).toNat Value.none) : Nat) : Int) + 6) / 7 = (((lawD d).length + 6) / 7 : Nat) := by
      rw [eN]
      omega
    rw [e9, Int.toNat_natCast] at b3
    exact b3
end Mine
namespace Mine
theorem resetBMc : True ∧ True := by
  w_top off
  (try walk1)
  all_goals first | trivial | exact ⟨trivial, trivial⟩
theorem fillBMc : (fun (_ : PySem.Challenge.rw_bd5016_01 = PySem.Challenge.rw_bd5016_01) => hd.heap_39) = fun _ => hd.heap_39 := by
  w_top off
  k_fill
  rfl
local macro_rules | `(tactic| walk_at "binaryOp Div int int") => `(tactic| (k_here; k_dflt ((refine' m_div ?hh ?hb ?_); (case hh => rfl); (case hb => first | (unfold FqOk; omega) | exact fq_parts (by omega) (by omega)); k_whole)))
local macro_rules | `(tactic| walk_at "call builtin:math.floor") => `(tactic| (k_here; (with_reducible show wpAny _ _ (call _ [Value.float (fq _ _) _]) _ _ _); k_dflt ((refine' m_floor ?hh ?hb ?_); (case hh => rfl); (case hb => first | (unfold FqOk; omega) | exact fq_parts (by omega) (by omega)); k_whole)))
local macro_rules | `(tactic| walk_at "binaryOp Add float int") => `(tactic| (k_here; first
  | ((with_reducible show wpAny _ _ (binaryOp _ (Value.float (fl _) _) _) _ _ _); k_dflt ((refine' m_add_fi ?ha ?hb ?_); (case ha => (unfold FlOk; omega)); (case hb => omega); k_whole))
  | ((with_reducible show wpAny _ _ (binaryOp _ (Value.float 4689722129631936512 _) _) _ _ _); k_dflt ((refine' m_add_ei ?hb ?_); (case hb => omega); k_whole))))
local macro_rules | `(tactic| walk_at "inplaceOp Add float int") => `(tactic| (k_here; (with_reducible show wpAny _ _ (inplaceOp _ (Value.float (fl _) _) _) _ _ _); k_dflt ((refine' m_iadd_fi ?hh ?ha ?hb ?_); (case hh => rfl); (case ha => (unfold FlOk; omega)); (case hb => omega); k_whole)))
local macro_rules | `(tactic| walk_at "call type:int") => `(tactic| (k_here; (with_reducible show wpAny _ _ (call _ [Value.float (fl _) _]) _ _ _); k_dflt ((refine' m_int ?hh ?ha ?_); (case hh => rfl); (case ha => (unfold FlOk; omega)); k_whole)))
local macro_rules | `(tactic| walk_at "call builtin:math.trunc") => `(tactic| (k_here; (with_reducible show wpAny _ _ (call _ [Value.float (fl _) _]) _ _ _); k_dflt ((refine' m_trunc ?hh ?ha ?_); (case hh => rfl); (case ha => (unfold FlOk; omega)); k_whole)))
local macro_rules | `(tactic| walk_at "binaryOp Add int float") => `(tactic| (k_here; (with_reducible show wpAny _ _ (binaryOp _ (Value.int _ _) (Value.float 4602678819172646912 _)) _ _ _); k_dflt ((refine' m_add_ih ?hb ?_); (case hb => omega); k_whole)))
local macro_rules | `(tactic| walk_at "binaryOp Add float float") => `(tactic| (k_here; (with_reducible show wpAny _ _ (binaryOp _ (Value.float (fl _) _) (Value.float 4602678819172646912 _)) _ _ _); k_dflt ((refine' m_add_fh ?ha ?_); (case ha => (unfold FlOk; omega)); k_whole)))
local macro_rules | `(tactic| walk_at "binaryOp Sub float float") => `(tactic| (k_here; (with_reducible show wpAny _ _ (binaryOp _ (Value.float (fl _) _) (Value.float (fl _) _)) _ _ _); k_dflt ((refine' m_sub_ff ?ha ?hb ?hc ?_); (case ha => omega); (case hb => omega); (case hc => omega); k_whole)))
local macro_rules | `(tactic| walk_at "compareOp NotEq float int") => `(tactic| (k_here; (with_reducible show wpAny _ _ (compareOp _ (Value.float (fl _) _) _) _ _ _); k_dflt ((refine' m_ne_fi ?ha ?_); (case ha => (unfold FlOk; omega)); k_whole)))
local macro_rules | `(tactic| walk_at "compareOp Eq float int") => `(tactic| (k_here; (with_reducible show wpAny _ _ (compareOp _ (Value.float (fl _) _) _) _ _ _); k_dflt ((refine' m_eq_fi ?ha ?_); (case ha => (unfold FlOk; omega)); k_whole)))
local macro_rules | `(tactic| walk_at "binaryOp Mod float int") => `(tactic| (k_here; (with_reducible show wpAny _ _ (binaryOp _ (Value.float (fl (2 * _)) _) (Value.int 10 _)) _ _ _); k_dflt ((refine' m_mod ?hh ?hb ?_); (case hh => rfl); (case hb => (unfold SizeOk; omega)); k_whole)))
local macro_rules | `(tactic| walk_at "binaryOp Mod int int") => `(tactic| (k_here; k_dflt (refine' m_modE ?b ?_; (case b => omega); k_whole)))
local macro_rules | `(tactic| walk_at "binaryOp Mult ref int") => `(tactic| (k_here; k_dflt (refine' m_mulN ?F ?N ?a ?b ?c ?_; (case F => k_asm); (case N => k_asm); (case a => k_mem); (case b => (first | omega | ((simp only [List.length_append, List.length_replicate]); omega) | ((have hl9 := IntsAre.length (by assumption)); (simp only [List.length_append, List.length_replicate, rangeKs_length] at *); omega))); (case c => (first | omega | ((simp only [List.length_append, List.length_replicate]); omega) | ((have hl9 := IntsAre.length (by assumption)); (simp only [List.length_append, List.length_replicate, rangeKs_length] at *); omega))); k_whole); intro D' h' F' N' l1; (try k_lt l1); (try k_sweep)))
local macro_rules | `(tactic| walk_at "binaryOp Mult int ref") => `(tactic| (k_here; k_dflt (refine' m_mulNr ?F ?N ?a ?b ?c ?_; (case F => k_asm); (case N => k_asm); (case a => k_mem); (case b => (first | omega | ((simp only [List.length_append, List.length_replicate]); omega) | ((have hl9 := IntsAre.length (by assumption)); (simp only [List.length_append, List.length_replicate, rangeKs_length] at *); omega))); (case c => (first | omega | ((simp only [List.length_append, List.length_replicate]); omega) | ((have hl9 := IntsAre.length (by assumption)); (simp only [List.length_append, List.length_replicate, rangeKs_length] at *); omega))); k_whole); intro D' h' F' N' l1; (try k_lt l1); (try k_sweep)))
local macro_rules | `(tactic| walk_at "binaryOp Add ref ref") => `(tactic| (k_here; k_dflt (refine' m_addL ?F ?N ?a ?b ?c ?_; (case F => k_asm); (case N => k_asm); (case a => k_mem); (case b => k_mem); (case c => (first | omega | ((simp only [List.length_append, List.length_replicate]); omega) | ((have hl9 := IntsAre.length (by assumption)); (simp only [List.length_append, List.length_replicate, rangeKs_length] at *); omega))); k_whole); intro D' h' F' N' l1; (try k_lt l1); (try k_sweep)))
local macro_rules | `(tactic| walk_at "eval ListComp") => `(tactic| (k_here; k_dflt (refine comp_steps (by k_asm) (by with_unfolding_all rfl) (by decide) (by rfl) (by decide) (by rfl) ?_ (by intro _; rfl))))
local macro_rules | `(tactic| k_all) => `(tactic| exact allNe_of_lt (by assumption) (by omega))
local macro_rules | `(tactic| walk_at "subscriptTail Name Slice ref ref") => `(tactic| (k_here; k_dflt (refine' m_slice ?F ?N ?a ?d ?x ?y ?z ?_ ?s ?t; (case F => k_asm); (case N => k_asm); (case a => first | with_reducible assumption | k_mem); (case d => assumption); (case x => omega); (case y => omega); (case z => assumption); (case s => with_unfolding_all rfl); (case t => (intro _; with_unfolding_all rfl)); k_whole); intro D' ws' h' F' N' l1 hW'; (try k_sweep)))
local macro_rules | `(tactic| walk_at "eval Name") => `(tactic| (k_here; (with_reducible show wpAny _ _ (eval (Expr.Name _ _) (compEnvC _ _ _ _)) _ _ _); k_dflt (first
  | refine LCgL.ld_own (by k_asm) (by first | exact List.Mem.tail _ (List.Mem.head _) | exact List.Mem.tail _ (List.Mem.tail _ (List.Mem.head _))) (by with_reducible assumption) (by with_reducible assumption) ?_
  | refine kcf_cell (by k_asm) (by rfl) (by with_reducible assumption) (by with_reducible assumption) ?_)))
local macro_rules | `(tactic| walk_at "call builtin:len") => `(tactic| (k_here; k_dflt (refine' m_len ?N ?a ?c ?_; (case N => k_asm); (case a => k_mem); (case c => first | omega | ((simp only [List.length_append, List.length_replicate]); omega)); k_whole)))
local macro_rules | `(tactic| k_mem) => `(tactic| ((repeat (refine' List.Mem.tail _ ?_)); assumption))

-- monthcalendar
def mcF (y m : Int) : List Dat := helpF (jwF (jdM y m)) (mlF y m)
abbrev cMc : Con (Int × Int) where
  Rel := R2
  Ok := fun d => 1 ≤ d.1 ∧ d.1 ≤ 9100 ∧ 1 ≤ d.2 ∧ d.2 ≤ 13
  size := 8
  Out := fun _ tl r d => DatIn tl r (Dat.list (mcF d.1 d.2))
local macro_rules | `(tactic| walk_at "call ref") => `(tactic| (k_here; k_dflt ((refine' tellsN_use ?k1 ?k2 ?k3 ?k4 ?k5 ?kK ?kR (tJd _) ?ko ?kd ?ku ?_); (case kR => exact R3m.mk _ _ _ _ _); (case k1 => k_asm); (case k2 => k_asm); (case k3 => k_asm); (case k4 => k_asm); (case k5 => k_asm); (case kK => first | exact rfl | assumption); (case ko => (dsimp only; omega)); (case kd => (dsimp only; ktr_room)); (case ku => (dsimp only; ktr_units)); k_whole; intro r9 tl9 h9 tk9 F9 N9 hl9 ht9 ho9; (try (subst ht9; clear hl9; simp only [List.append_nil] at N9)); (dsimp only at ho9); (obtain ⟨t9, e9, hb9⟩ := ho9; subst e9); (try dsimp only); (try k_fold))))
local macro_rules | `(tactic| walk_at "call ref") => `(tactic| (k_here; k_dflt ((refine' tellsN_use ?k1 ?k2 ?k3 ?k4 ?k5 ?kK ?kR (tJw _) ?ko ?kd ?ku ?_); (case kR => exact Rf.mk _ _); (case k1 => k_asm); (case k2 => k_asm); (case k3 => k_asm); (case k4 => k_asm); (case k5 => k_asm); (case kK => first | exact rfl | assumption); (case ko => (dsimp only; omega)); (case kd => (dsimp only; ktr_room)); (case ku => (dsimp only; ktr_units)); k_whole; intro r9 tl9 h9 tk9 F9 N9 hl9 ht9 ho9; (try (subst ht9; clear hl9; simp only [List.append_nil] at N9)); (dsimp only at ho9); (obtain ⟨t9, e9, hb9⟩ := ho9; subst e9); (try dsimp only); (try k_fold))))
local macro_rules | `(tactic| walk_at "call ref") => `(tactic| (k_here; k_dflt ((refine' tellsN_use ?k1 ?k2 ?k3 ?k4 ?k5 ?kK ?kR (tMd _) ?ko ?kd ?ku ?_); (case kR => exact R2.mk _ _ _ _); (case k1 => k_asm); (case k2 => k_asm); (case k3 => k_asm); (case k4 => k_asm); (case k5 => k_asm); (case kK => first | exact rfl | assumption); (case ko => (dsimp only; omega)); (case kd => (dsimp only; ktr_room)); (case ku => (dsimp only; ktr_units)); k_whole; intro r9 tl9 h9 tk9 F9 N9 hl9 ht9 ho9; (try (subst ht9; clear hl9; simp only [List.append_nil] at N9)); (dsimp only at ho9); (obtain ⟨t9, e9, hb9⟩ := ho9; subst e9); (try dsimp only); (try k_fold))))
local macro_rules | `(tactic| walk_at "call ref") => `(tactic| (k_here; k_dflt ((refine' spec_use ?k1 ?k2 ?k3 ?k4 ?k5 ?kK ?kR (tHelp _) ?ko ?kd ?ku ?_); (case k1 => k_asm); (case k2 => k_asm); (case k3 => k_asm); (case k4 => k_asm); (case k5 => k_asm); (case kR => exact R2.mk _ _ _ _); (case kK => first | exact rfl | assumption); (case ko => first | (dsimp only; omega) | (dsimp only; (simp only [List.length_append, List.length_replicate, List.length_map, rangeKs_length]); omega)); (case kd => (dsimp only; ktr_room)); (case ku => (dsimp only; ktr_units)); k_whole; intro r9 tl9 h9 tk9 F9 N9 ha9 ho9; (dsimp only at ho9); skip; (try dsimp only); (try k_fold))))
set_option maxRecDepth 100000 in
set_option maxHeartbeats 8000000 in
theorem tMc {w : World} {mean : ExcName → Option Value} {mg mb : Str → Option Value} : ∀ d, Spec PySem.Challenge.pw_bd5016_01 w (hd.heap_39 w.params) hd.view_39 (looseW hd.view_39 []) mean mg mb 117 cMc d := by
  intro d
  unfold Spec
  intro dp un gd cn cs a ccd cl outer A₀ base h₀ L m news s vs Q E B F X N T hk hR hok hd hu hret
  cases hR
  rename_i y mo t u
  obtain ⟨ho1, ho2, ho3, ho4⟩ := hok
  dsimp only at ho1 ho2 ho3 ho4 hd hu
  refine wpAny_call ?_
  k_dflt ktr_enter
  k_steps
  refine hret _ _ _ _ (by k_asm) (by k_asm) (by assumption) ?_
  assumption

-- _law_leap
theorem leap_eq (y : Int) : ([0, 3, 6, 8, 11, 14, 17].any fun x => x == y % 19) = leapF y := by
  have h : (y * 7 + 1) % 19 = ((y % 19) * 7 + 1) % 19 := by omega
  unfold leapF
  rw [h]
  have h1 : 0 ≤ y % 19 ∧ y % 19 < 19 := by omega
  generalize y % 19 = z at h1
  have h2 : z = 0 ∨ z = 1 ∨ z = 2 ∨ z = 3 ∨ z = 4 ∨ z = 5 ∨ z = 6 ∨ z = 7 ∨ z = 8 ∨ z = 9 ∨ z = 10 ∨ z = 11 ∨ z = 12 ∨ z = 13 ∨ z = 14 ∨ z = 15 ∨ z = 16 ∨ z = 17 ∨ z = 18 := by omega
  rcases h2 with rfl | rfl | rfl | rfl | rfl | rfl | rfl | rfl | rfl | rfl | rfl | rfl | rfl | rfl | rfl | rfl | rfl | rfl | rfl <;> decide
abbrev cLL : ToldN Int where
  Rel := R1
  Ok := fun y => 0 ≤ y ∧ y ≤ 10000
  size := fun _ => 1
  Tl := fun tl => tl = []
  Out := fun _ r y => ∃ _t : Tok, r = .bool (leapF y) ∧ True
set_option maxRecDepth 100000 in
set_option maxHeartbeats 8000000 in
theorem tLL {w : World} {mean : ExcName → Option Value} {mg mb : Str → Option Value} : ∀ d, TellsN PySem.Challenge.pw_bd5016_01 w (hd.heap_39 w.params) hd.view_39 (looseW hd.view_39 []) mean mg mb 141 cLL d := by
  intro d
  unfold TellsN
  intro dp un gd cn cs a ccd cl outer A₀ base h₀ L m news s vs Q E B F X N T hk hR hok hd hu hret
  cases hR
  obtain ⟨ho1, ho2⟩ := hok
  refine wpAny_call ?_
  k_dflt ktr_enter
  k_steps
  refine hret _ [] _ _ (by k_asm) (ktn_tl0 (cb_drop (by assumption) (fun _ hp => List.Mem.tail _ hp))) ktn_ord0 rfl ⟨0, congrArg Value.bool (leap_eq d), trivial⟩

end Mine
namespace Mine
theorem resetBTi : True ∧ True := by
  w_top off
  (try walk1)
  all_goals first | trivial | exact ⟨trivial, trivial⟩
theorem fillBTi : (fun (_ : PySem.Challenge.rw_bd5016_01 = PySem.Challenge.rw_bd5016_01) => hd.heap_39) = fun _ => hd.heap_39 := by
  w_top off
  k_fill
  rfl
local macro_rules | `(tactic| walk_at "binaryOp Div int int") => `(tactic| (k_here; k_dflt ((refine' m_div ?hh ?hb ?_); (case hh => rfl); (case hb => first | (unfold FqOk; omega) | exact fq_parts (by omega) (by omega)); k_whole)))
local macro_rules | `(tactic| walk_at "call builtin:math.floor") => `(tactic| (k_here; (with_reducible show wpAny _ _ (call _ [Value.float (fq _ _) _]) _ _ _); k_dflt ((refine' m_floor ?hh ?hb ?_); (case hh => rfl); (case hb => first | (unfold FqOk; omega) | exact fq_parts (by omega) (by omega)); k_whole)))
local macro_rules | `(tactic| walk_at "binaryOp Add float int") => `(tactic| (k_here; first
  | ((with_reducible show wpAny _ _ (binaryOp _ (Value.float (fl _) _) _) _ _ _); k_dflt ((refine' m_add_fi ?ha ?hb ?_); (case ha => (unfold FlOk; omega)); (case hb => omega); k_whole))
  | ((with_reducible show wpAny _ _ (binaryOp _ (Value.float 4689722129631936512 _) _) _ _ _); k_dflt ((refine' m_add_ei ?hb ?_); (case hb => omega); k_whole))))
local macro_rules | `(tactic| walk_at "inplaceOp Add float int") => `(tactic| (k_here; (with_reducible show wpAny _ _ (inplaceOp _ (Value.float (fl _) _) _) _ _ _); k_dflt ((refine' m_iadd_fi ?hh ?ha ?hb ?_); (case hh => rfl); (case ha => (unfold FlOk; omega)); (case hb => omega); k_whole)))
local macro_rules | `(tactic| walk_at "call type:int") => `(tactic| (k_here; (with_reducible show wpAny _ _ (call _ [Value.float (fl _) _]) _ _ _); k_dflt ((refine' m_int ?hh ?ha ?_); (case hh => rfl); (case ha => (unfold FlOk; omega)); k_whole)))
local macro_rules | `(tactic| walk_at "call builtin:math.trunc") => `(tactic| (k_here; (with_reducible show wpAny _ _ (call _ [Value.float (fl _) _]) _ _ _); k_dflt ((refine' m_trunc ?hh ?ha ?_); (case hh => rfl); (case ha => (unfold FlOk; omega)); k_whole)))
local macro_rules | `(tactic| walk_at "binaryOp Add int float") => `(tactic| (k_here; (with_reducible show wpAny _ _ (binaryOp _ (Value.int _ _) (Value.float 4602678819172646912 _)) _ _ _); k_dflt ((refine' m_add_ih ?hb ?_); (case hb => omega); k_whole)))
local macro_rules | `(tactic| walk_at "binaryOp Add float float") => `(tactic| (k_here; (with_reducible show wpAny _ _ (binaryOp _ (Value.float (fl _) _) (Value.float 4602678819172646912 _)) _ _ _); k_dflt ((refine' m_add_fh ?ha ?_); (case ha => (unfold FlOk; omega)); k_whole)))
local macro_rules | `(tactic| walk_at "binaryOp Sub float float") => `(tactic| (k_here; (with_reducible show wpAny _ _ (binaryOp _ (Value.float (fl _) _) (Value.float (fl _) _)) _ _ _); k_dflt ((refine' m_sub_ff ?ha ?hb ?hc ?_); (case ha => omega); (case hb => omega); (case hc => omega); k_whole)))
local macro_rules | `(tactic| walk_at "compareOp NotEq float int") => `(tactic| (k_here; (with_reducible show wpAny _ _ (compareOp _ (Value.float (fl _) _) _) _ _ _); k_dflt ((refine' m_ne_fi ?ha ?_); (case ha => (unfold FlOk; omega)); k_whole)))
local macro_rules | `(tactic| walk_at "compareOp Eq float int") => `(tactic| (k_here; (with_reducible show wpAny _ _ (compareOp _ (Value.float (fl _) _) _) _ _ _); k_dflt ((refine' m_eq_fi ?ha ?_); (case ha => (unfold FlOk; omega)); k_whole)))
local macro_rules | `(tactic| walk_at "binaryOp Mod float int") => `(tactic| (k_here; (with_reducible show wpAny _ _ (binaryOp _ (Value.float (fl (2 * _)) _) (Value.int 10 _)) _ _ _); k_dflt ((refine' m_mod ?hh ?hb ?_); (case hh => rfl); (case hb => (unfold SizeOk; omega)); k_whole)))
local macro_rules | `(tactic| walk_at "binaryOp Mod int int") => `(tactic| (k_here; k_dflt (refine' m_modE ?b ?_; (case b => omega); k_whole)))
local macro_rules | `(tactic| walk_at "binaryOp Mult ref int") => `(tactic| (k_here; k_dflt (refine' m_mulN ?F ?N ?a ?b ?c ?_; (case F => k_asm); (case N => k_asm); (case a => k_mem); (case b => (first | omega | ((simp only [List.length_append, List.length_replicate]); omega) | ((have hl9 := IntsAre.length (by assumption)); (simp only [List.length_append, List.length_replicate, rangeKs_length] at *); omega))); (case c => (first | omega | ((simp only [List.length_append, List.length_replicate]); omega) | ((have hl9 := IntsAre.length (by assumption)); (simp only [List.length_append, List.length_replicate, rangeKs_length] at *); omega))); k_whole); intro D' h' F' N' l1; (try k_lt l1); (try k_sweep)))
local macro_rules | `(tactic| walk_at "binaryOp Mult int ref") => `(tactic| (k_here; k_dflt (refine' m_mulNr ?F ?N ?a ?b ?c ?_; (case F => k_asm); (case N => k_asm); (case a => k_mem); (case b => (first | omega | ((simp only [List.length_append, List.length_replicate]); omega) | ((have hl9 := IntsAre.length (by assumption)); (simp only [List.length_append, List.length_replicate, rangeKs_length] at *); omega))); (case c => (first | omega | ((simp only [List.length_append, List.length_replicate]); omega) | ((have hl9 := IntsAre.length (by assumption)); (simp only [List.length_append, List.length_replicate, rangeKs_length] at *); omega))); k_whole); intro D' h' F' N' l1; (try k_lt l1); (try k_sweep)))
local macro_rules | `(tactic| walk_at "binaryOp Add ref ref") => `(tactic| (k_here; k_dflt (refine' m_addL ?F ?N ?a ?b ?c ?_; (case F => k_asm); (case N => k_asm); (case a => k_mem); (case b => k_mem); (case c => (first | omega | ((simp only [List.length_append, List.length_replicate]); omega) | ((have hl9 := IntsAre.length (by assumption)); (simp only [List.length_append, List.length_replicate, rangeKs_length] at *); omega))); k_whole); intro D' h' F' N' l1; (try k_lt l1); (try k_sweep)))
local macro_rules | `(tactic| walk_at "eval ListComp") => `(tactic| (k_here; k_dflt (refine comp_steps (by k_asm) (by with_unfolding_all rfl) (by decide) (by rfl) (by decide) (by rfl) ?_ (by intro _; rfl))))
local macro_rules | `(tactic| k_all) => `(tactic| exact allNe_of_lt (by assumption) (by omega))
local macro_rules | `(tactic| walk_at "subscriptTail Name Slice ref ref") => `(tactic| (k_here; k_dflt (refine' m_slice ?F ?N ?a ?d ?x ?y ?z ?_ ?s ?t; (case F => k_asm); (case N => k_asm); (case a => first | with_reducible assumption | k_mem); (case d => assumption); (case x => omega); (case y => omega); (case z => assumption); (case s => with_unfolding_all rfl); (case t => (intro _; with_unfolding_all rfl)); k_whole); intro D' ws' h' F' N' l1 hW'; (try k_sweep)))
local macro_rules | `(tactic| walk_at "eval Name") => `(tactic| (k_here; (with_reducible show wpAny _ _ (eval (Expr.Name _ _) (compEnvC _ _ _ _)) _ _ _); k_dflt (first
  | refine LCgL.ld_own (by k_asm) (by first | exact List.Mem.tail _ (List.Mem.head _) | exact List.Mem.tail _ (List.Mem.tail _ (List.Mem.head _))) (by with_reducible assumption) (by with_reducible assumption) ?_
  | refine kcf_cell (by k_asm) (by rfl) (by with_reducible assumption) (by with_reducible assumption) ?_)))
local macro_rules | `(tactic| walk_at "call builtin:len") => `(tactic| (k_here; k_dflt (refine' m_len ?N ?a ?c ?_; (case N => k_asm); (case a => k_mem); (case c => first | omega | ((simp only [List.length_append, List.length_replicate]); omega)); k_whole)))
local macro_rules | `(tactic| k_mem) => `(tactic| ((repeat (refine' List.Mem.tail _ ?_)); assumption))

section
variable {prog : Program} {w : World} {A : Around} {E : Value → Shared → Prop} {s : Shared} {a b : Int} {t u : Tok} {Q : Value → Shared → Prop}
theorem m_divmod {h₀ : Heap} {L : Addr} {m : Str → Option Value} {news : List (Addr × Obj)} (F : Fr h₀ L s.heap m) (N : News h₀ L s.heap news) (hb : 0 < b) (ha : 0 ≤ a ∧ a < 1000000000000) (hb2 : b < 1000000)
    (h : ∀ D h', Fr h₀ L h' m → News h₀ L h' ((D, { cls := .type "tuple", data := .seq #[.int (a / b) s.toks, .int (a % b) (s.toks + 1)] }) :: news) → Q (.ref D) { s with toks := s.toks + 1 + 1, heap := h' }) :
    wpAny (model prog w) A (call (.builtin "divmod") [.int a t, .int b u]) Q E s := by
  refine divmod_N F N (by omega) (fun h' F' N' => h _ h' F' ?_) (Or.inl (PyProof.noPylong_small (by omega)))
  rw [Int.fdiv_eq_ediv_of_nonneg _ (by omega), Int.fmod_eq_emod_of_nonneg _ (by omega)] at N'
  exact N'
end
/-- how many of a, a + 1, .. fulfil G -/
def cnt (G : Int → Bool) (a : Int) : Nat → Nat
  | 0 => 0
  | n + 1 => cnt G a n + (if G (a + (n : Int)) = true then 1 else 0)
theorem cnt_le (G : Int → Bool) (a : Int) : ∀ n, cnt G a n ≤ n
  | 0 => Nat.le_refl _
  | n + 1 => by
    have := cnt_le G a n
    unfold cnt
    split <;> omega
section
variable {prog : Program} {w : World} {A : Around} {h₀ : Heap} {L : Addr} {m : Str → Option Value} {env : Env} {ct elt : Expr} {x : Str} {scope : Scope} {cl : List (Str × Addr)} {s : Shared} {Fin : List Value → List (Addr × Obj) → Prop} {news : List (Addr × Obj)}
def TestEnd (h₀ : Heap) (L : Addr) (m : Str → Option Value) (s : Shared) (led : List (Addr × Obj)) (c : Bool) (b : Bool) (s₂ : Shared) : Prop := b = c ∧ ∃ h' tk', s₂ = { s with heap := h', toks := tk' } ∧ Fr h₀ L h' m ∧ News h₀ L h' led
def EltEnd (h₀ : Heap) (L : Addr) (m : Str → Option Value) (s : Shared) (led : List (Addr × Obj)) (_y : Value) (s₂ : Shared) : Prop := ∃ h' tk', s₂ = { s with heap := h', toks := tk' } ∧ Fr h₀ L h' m ∧ News h₀ L h' led
theorem rest_cnt {n : Nat} {a : Int} (G : Int → Bool)
    (turn : ∀ k t I oI C oC D m₂ ys h tk (E' : Value → Shared → Prop), a ≤ k → k < a + (n : Int) → LCg.NsObj oC m₂ → m₂ x = some (.int k t) → Fr h₀ L h m → News h₀ L h ((I, oI) :: (C, oC) :: (D, LCg.lst ys) :: news) →
      wpAny (model prog w) A (isTrue ct (compEnvC scope cl C env) (eval ct (compEnvC scope cl C env))) (TestEnd h₀ L m s ((I, oI) :: (C, oC) :: (D, LCg.lst ys) :: news) (G k)) E' { s with heap := h, toks := tk })
    (turn2 : ∀ k t I oI C oC D m₂ ys h tk (E' : Value → Shared → Prop), a ≤ k → k < a + (n : Int) → LCg.NsObj oC m₂ → m₂ x = some (.int k t) → Fr h₀ L h m → News h₀ L h ((I, oI) :: (C, oC) :: (D, LCg.lst ys) :: news) →
      wpAny (model prog w) A (eval elt (compEnvC scope cl C env)) (EltEnd h₀ L m s ((I, oI) :: (C, oC) :: (D, LCg.lst ys) :: news)) E' { s with heap := h, toks := tk })
    (fin : ∀ ys, ys.length = cnt G a n → Fin ys news) : LCt.CompRestT prog w A h₀ L m env ct elt x scope cl s (fun _ => True) (fun i v => ∃ t, v = .int (a + (i : Int)) t) Fin n 0 [] news := by
  have key : ∀ (j i : Nat) (ys : List Value), i + j = n → ys.length = cnt G a i → LCt.CompRestT prog w A h₀ L m env ct elt x scope cl s (fun _ => True) (fun i v => ∃ t, v = .int (a + (i : Int)) t) Fin j i ys news := by
    intro j
    induction j with
    | zero =>
      intro i ys hi hy
      have e : i = n := by omega
      subst e
      exact LCt.CompRestT.zero (fin ys hy)
    | succ j ih =>
      intro i ys hi hy
      refine LCt.CompRestT.succ ?_
      intro v I oI C oC D m₂ h tk E' hv hC hx F N off ne
      obtain ⟨t, rfl⟩ := hv
      refine wpAny_mono (turn (a + (i : Int)) t I oI C oC D m₂ ys h tk E' (by omega) (by omega) hC hx F N) (fun b s₂ hq => ?_) fun _ _ e => e
      obtain ⟨hb, h', tk', rfl, F', N'⟩ := hq
      cases b with
      | true =>
        simp only [if_true]
        refine wpAny_mono (turn2 (a + (i : Int)) t I oI C oC D m₂ ys h' tk' E' (by omega) (by omega) hC hx F' N') (fun y s₃ hr => ?_) fun _ _ e => e
        obtain ⟨h2, tk2, rfl, F2, N2⟩ := hr
        refine LCg.CompEnd.intro F2 N2 news (fun _ hp => hp) off trivial (ih (i + 1) _ (by omega) ?_)
        unfold cnt
        rw [if_pos hb.symm, List.length_append, hy]
        rfl
      | false =>
        simp only [Bool.false_eq_true, if_false]
        refine LCg.CompEnd.intro F' N' news (fun _ hp => hp) off trivial (ih (i + 1) _ (by omega) ?_)
        unfold cnt
        rw [if_neg (by rw [← hb]; decide), hy]
        rfl
  exact key n 0 [] (by omega) rfl
end
def molL (y : Int) : Int := 235 * ((y - 1) / 19) + 12 * ((y - 1) % 19) + (cnt leapF 1 ((y - 1) % 19).toNat : Nat)
def partL (y : Int) : Int := 31524 + 765433 * molL y
def adjL (y : Int) : Int :=
  if 19440 ≤ partL y % 25920 then partL y / 25920 + 1
  else if partL y / 25920 % 7 = 2 ∧ 9924 ≤ partL y % 25920 ∧ leapF y = false then partL y / 25920 + 1
  else if partL y / 25920 % 7 = 1 ∧ 16789 ≤ partL y % 25920 ∧ leapF (y - 1) = true then partL y / 25920 + 1
  else partL y / 25920
def tishL (y : Int) : Int := if adjL y % 7 = 0 ∨ adjL y % 7 = 3 ∨ adjL y % 7 = 5 then adjL y + 1 else adjL y
section
variable {y P : Int} (hP : P = partL y)
include hP
theorem adj1 (c : 19440 ≤ P % 25920) : P / 25920 + 1 = adjL y := by
  subst hP; unfold adjL; rw [if_pos c]
theorem adj2 (c : ¬ 19440 ≤ P % 25920) (c1 : P / 25920 % 7 = 2) (c2 : 9924 ≤ P % 25920) (c3 : leapF y = false) : P / 25920 + 1 = adjL y := by
  subst hP; unfold adjL; rw [if_neg c, if_pos ⟨c1, c2, c3⟩]
theorem adj3 (c : ¬ 19440 ≤ P % 25920) (c1 : P / 25920 % 7 = 1) (c2 : 16789 ≤ P % 25920) (c3 : leapF (y - 1) = true) : P / 25920 + 1 = adjL y := by
  subst hP; unfold adjL; rw [if_neg c, if_neg (fun x => by omega), if_pos ⟨c1, c2, c3⟩]
theorem adj4 (c : ¬ 19440 ≤ P % 25920) (c1 : ¬ (P / 25920 % 7 = 2 ∧ 9924 ≤ P % 25920 ∧ leapF y = false)) (c2 : ¬ (P / 25920 % 7 = 1 ∧ 16789 ≤ P % 25920 ∧ leapF (y - 1) = true)) : P / 25920 = adjL y := by
  subst hP; unfold adjL; rw [if_neg c, if_neg c1, if_neg c2]
end
theorem tish1 {y a : Int} (h : a = adjL y) (c : ([0, 3, 5].any fun x => x == a % 7) = true) : a + 1 = tishL y := by
  simp only [List.any_cons, List.any_nil, Bool.or_false, Bool.or_eq_true, beq_iff_eq] at c
  subst h; unfold tishL; rw [if_pos (by omega)]
theorem tish2 {y a : Int} (h : a = adjL y) (c : ([0, 3, 5].any fun x => x == a % 7) = false) : a = tishL y := by
  simp only [List.any_cons, List.any_nil, Bool.or_false, Bool.or_eq_false_iff, beq_eq_false_iff_ne] at c
  subst h; unfold tishL; rw [if_neg (by omega)]
theorem no_leap {y : Int} {A B : Prop} (h : leapF y = true) : ¬ (A ∧ B ∧ leapF y = false) := fun x => by rw [h] at x; exact absurd x.2.2 (by decide)
theorem no_leap2 {y : Int} {A B : Prop} (h : leapF y = false) : ¬ (A ∧ B ∧ leapF y = true) := fun x => by rw [h] at x; exact absurd x.2.2 (by decide)
abbrev cTi : ToldN Int where
  Rel := R1
  Ok := fun y => 1 ≤ y ∧ y ≤ 9100
  size := fun _ => 2
  Tl := fun tl => tl = []
  Out := fun _ r y => ∃ t, r = .int (tishL y) t ∧ True
local macro_rules | `(tactic| walk_at "call ref") => `(tactic| (k_here; k_dflt ((refine' tellsN_use ?k1 ?k2 ?k3 ?k4 ?k5 ?kK ?kR (tLL _) ?ko ?kd ?ku ?_); (case kR => exact R1.mk _ _); (case k1 => k_asm); (case k2 => k_asm); (case k3 => k_asm); (case k4 => k_asm); (case k5 => k_asm); (case kK => first | exact rfl | assumption); (case ko => (dsimp only; omega)); (case kd => (dsimp only; ktr_room)); (case ku => (dsimp only; ktr_units)); k_whole; intro r9 tl9 h9 tk9 F9 N9 hl9 ht9 ho9; (try (subst ht9; clear hl9; simp only [List.append_nil] at N9)); (dsimp only at ho9); (obtain ⟨t9, e9, hb9⟩ := ho9; subst e9); (try dsimp only); (try k_fold))))
local macro_rules | `(tactic| walk_at "call builtin:divmod") => `(tactic| (k_here; k_dflt (refine' m_divmod ?F ?N ?b ?c ?d ?_; (case F => k_asm); (case N => k_asm); (case b => omega); (case c => first | omega | ((have hc9 := cnt_le leapF 1 _); (omega))); (case d => omega); k_whole); intro D' h' F' N'; (try k_sweep)))
local macro_rules | `(tactic| walk_at "eval ListComp") => `(tactic| (k_here; k_dflt (refine LCt.ListComp_T (F₀ := by k_asm) (by with_unfolding_all rfl) (by decide) (by rfl) (by decide) (by rfl) ?_)))
local macro_rules | `(tactic| walk_at "CompSrcT") => `(tactic| (k_here; refine Hold.out ?_))
set_option maxRecDepth 100000 in
set_option maxHeartbeats 8000000 in
theorem tTi {w : World} {mean : ExcName → Option Value} {mg mb : Str → Option Value} : ∀ d, TellsN PySem.Challenge.pw_bd5016_01 w (hd.heap_39 w.params) hd.view_39 (looseW hd.view_39 []) mean mg mb 146 cTi d := by
  intro d
  unfold TellsN
  intro dp un gd cn cs a ccd cl outer A₀ base h₀ L m news s vs Q E B F X N T hk hR hok hd hu hret
  cases hR
  obtain ⟨ho1, ho2⟩ := hok
  refine wpAny_call ?_
  k_dflt ktr_enter
  k_steps
  show LCt.CompSrcT _ _ _ _ _ _ _ _ _ _ _ _ _ _ _
  refine LCt.CompSrcT.range (by rfl) (by k_asm) (by k_asm) (by assumption) (small_one (by omega) (by omega) (by omega) (by omega)) (rangeSize_nat _ _) (by rw [sizeLine_eq]; omega) ?_
  intro g9
  refine rest_cnt leapF ?_ ?_ ?_
  · intro k t I oI C oC D m₂ ys h tk E' hk1 hk2 hC hx F N
    (try k_fold)
    k_steps
    exact ⟨rfl, _, _, rfl, by k_asm, by k_asm⟩
  · intro k t I oI C oC D m₂ ys h tk E' hk1 hk2 hC hx F N
    (try k_fold)
    k_steps
    exact ⟨_, _, rfl, by k_asm, by k_asm⟩
  · intro ys hy
    show LCg.FinE _ _ _ _ _ _ _
    unfold LCg.FinE
    intro D h tk F N o1
    have e9 : (d - 1) % 19 + 1 - 1 = (d - 1) % 19 := by omega
    rw [e9] at hy
    have hcl := cnt_le leapF 1 ((d - 1) % 19).toNat
    have hP : 31524 + 765433 * (235 * ((d - 1) / 19) + 12 * ((d - 1) % 19) + (ys.length : Nat)) = partL d := by
      unfold partL molL
      rw [hy]
    (try dsimp only)
    (try k_fold)
    k_steps
    all_goals first
      | (exfalso; omega)
      | (refine hret _ [] _ _ (by k_asm) (ktn_tl0 (cb_drop (by assumption) (fun _ hp => by (repeat (refine List.Mem.tail _ ?_)); exact hp))) ktn_ord0 rfl ⟨_, congrArg (Value.int · _) ?_, trivial⟩
         first | refine tish1 ?_ (by assumption) | refine tish2 ?_ (by assumption)
         first
         | exact adj1 hP (by assumption)
         | exact adj2 hP (by assumption) (by assumption) (by assumption) (by assumption)
         | exact adj3 hP (by assumption) (by assumption) (by assumption) (by assumption)
         | exact adj4 hP (by assumption) (by first | exact no_leap (by assumption) | (intro x; omega)) (by first | exact no_leap2 (by assumption) | (intro x; omega)))
end Mine
namespace Mine
theorem resetBUpd : True ∧ True := by
  w_top off
  (try walk1)
  all_goals first | trivial | exact ⟨trivial, trivial⟩
theorem fillBUpd : (fun (_ : PySem.Challenge.rw_bd5016_01 = PySem.Challenge.rw_bd5016_01) => hd.heap_39) = fun _ => hd.heap_39 := by
  w_top off
  k_fill
  rfl
local macro_rules | `(tactic| walk_at "binaryOp Div int int") => `(tactic| (k_here; k_dflt ((refine' m_div ?hh ?hb ?_); (case hh => rfl); (case hb => first | (unfold FqOk; omega) | exact fq_parts (by omega) (by omega)); k_whole)))
local macro_rules | `(tactic| walk_at "call builtin:math.floor") => `(tactic| (k_here; (with_reducible show wpAny _ _ (call _ [Value.float (fq _ _) _]) _ _ _); k_dflt ((refine' m_floor ?hh ?hb ?_); (case hh => rfl); (case hb => first | (unfold FqOk; omega) | exact fq_parts (by omega) (by omega)); k_whole)))
local macro_rules | `(tactic| walk_at "binaryOp Add float int") => `(tactic| (k_here; first
  | ((with_reducible show wpAny _ _ (binaryOp _ (Value.float (fl _) _) _) _ _ _); k_dflt ((refine' m_add_fi ?ha ?hb ?_); (case ha => (unfold FlOk; omega)); (case hb => omega); k_whole))
  | ((with_reducible show wpAny _ _ (binaryOp _ (Value.float 4689722129631936512 _) _) _ _ _); k_dflt ((refine' m_add_ei ?hb ?_); (case hb => omega); k_whole))))
local macro_rules | `(tactic| walk_at "inplaceOp Add float int") => `(tactic| (k_here; (with_reducible show wpAny _ _ (inplaceOp _ (Value.float (fl _) _) _) _ _ _); k_dflt ((refine' m_iadd_fi ?hh ?ha ?hb ?_); (case hh => rfl); (case ha => (unfold FlOk; omega)); (case hb => omega); k_whole)))
local macro_rules | `(tactic| walk_at "call type:int") => `(tactic| (k_here; (with_reducible show wpAny _ _ (call _ [Value.float (fl _) _]) _ _ _); k_dflt ((refine' m_int ?hh ?ha ?_); (case hh => rfl); (case ha => (unfold FlOk; omega)); k_whole)))
local macro_rules | `(tactic| walk_at "call builtin:math.trunc") => `(tactic| (k_here; (with_reducible show wpAny _ _ (call _ [Value.float (fl _) _]) _ _ _); k_dflt ((refine' m_trunc ?hh ?ha ?_); (case hh => rfl); (case ha => (unfold FlOk; omega)); k_whole)))
local macro_rules | `(tactic| walk_at "binaryOp Add int float") => `(tactic| (k_here; (with_reducible show wpAny _ _ (binaryOp _ (Value.int _ _) (Value.float 4602678819172646912 _)) _ _ _); k_dflt ((refine' m_add_ih ?hb ?_); (case hb => omega); k_whole)))
local macro_rules | `(tactic| walk_at "binaryOp Add float float") => `(tactic| (k_here; (with_reducible show wpAny _ _ (binaryOp _ (Value.float (fl _) _) (Value.float 4602678819172646912 _)) _ _ _); k_dflt ((refine' m_add_fh ?ha ?_); (case ha => (unfold FlOk; omega)); k_whole)))
local macro_rules | `(tactic| walk_at "binaryOp Sub float float") => `(tactic| (k_here; (with_reducible show wpAny _ _ (binaryOp _ (Value.float (fl _) _) (Value.float (fl _) _)) _ _ _); k_dflt ((refine' m_sub_ff ?ha ?hb ?hc ?_); (case ha => omega); (case hb => omega); (case hc => omega); k_whole)))
local macro_rules | `(tactic| walk_at "compareOp NotEq float int") => `(tactic| (k_here; (with_reducible show wpAny _ _ (compareOp _ (Value.float (fl _) _) _) _ _ _); k_dflt ((refine' m_ne_fi ?ha ?_); (case ha => (unfold FlOk; omega)); k_whole)))
local macro_rules | `(tactic| walk_at "compareOp Eq float int") => `(tactic| (k_here; (with_reducible show wpAny _ _ (compareOp _ (Value.float (fl _) _) _) _ _ _); k_dflt ((refine' m_eq_fi ?ha ?_); (case ha => (unfold FlOk; omega)); k_whole)))
local macro_rules | `(tactic| walk_at "binaryOp Mod float int") => `(tactic| (k_here; (with_reducible show wpAny _ _ (binaryOp _ (Value.float (fl (2 * _)) _) (Value.int 10 _)) _ _ _); k_dflt ((refine' m_mod ?hh ?hb ?_); (case hh => rfl); (case hb => (unfold SizeOk; omega)); k_whole)))
section
variable {prog : Program} {w : World} {M : Model} {A : Around} {E : Value → Shared → Prop} {s : Shared} {h₀ h h' : Heap} {L D b : Addr} {m : Str → Option Value} {news news' led : List (Addr × Obj)} {vs ws : List Value} {n k : Nat} {x y : Value} {Q : Value → Shared → Prop}
theorem iadd_seq : seqSlot? (.type "list") (dunderI "add") = pure (some (.builtin "list.__iadd__")) := PySem.seqSlot_of PySem.F.slot_list_iadd.lookup (by decide +kernel)
theorem iadd_nofill : fillsInplaceSlot (.type "list") "add" (Operator.Add == .Add) = pure false := by
  unfold fillsInplaceSlot
  show (typeLookup (.type "list") (dunderI "add") >>= fun fi => pure (fi.isSome && !isSeqSlot fi)) = pure false
  rw [PySem.F.slot_list_iadd.lookup]
  have e : isSeqSlot (some (.builtin "list.__iadd__")) = true := by decide +kernel
  show (pure ((some (Value.builtin "list.__iadd__")).isSome && !isSeqSlot (some (.builtin "list.__iadd__"))) : Sem Bool) = _
  rw [e]
  rfl
theorem iadd_road {a c : Value} (ha : s.TypeIs a "list") (hb : s.TypeIs c "list") (hc : wpAny M A (call (.builtin "list.__iadd__") [a, c]) Q E s) : wpAny M A (inplaceOp .Add a c) Q E s := by
  unfold inplaceOp
  refine wpAny_holding ?_
  refine wpAny_bind (wpAny_typeOf ha (wpAny_bind (wpAny_of_eq iadd_nofill ?_)))
  show wpAny M A (if false = true then _ else _) Q E s
  rw [if_neg Bool.false_ne_true]
  refine wpAny_bind (wpAny_binaryOp1_none (nm := "add") ha hb noFill_list_add ?_)
  refine wpAny_bind (wpAny_of_eq iadd_seq ?_)
  exact wpAny_bind (wpAny_rule hc)
theorem m_iaddL (F : Fr h₀ L s.heap m) (N : News h₀ L s.heap news) (U : Upd D (listOf vs.toArray n) (listOf (vs ++ ws).toArray (n + 1)) news news') (hb : (b, listOf ws.toArray k) ∈ news) (hne : ws.length ≠ 0) (hz : vs.length + ws.length ≤ 100000)
    (hk : ∀ h', Fr h₀ L h' m → News h₀ L h' news' → Q (.ref D) { s with heap := h' }) : wpAny (model prog w) A (inplaceOp .Add (.ref D) (.ref b)) Q E s := by
  obtain ⟨pre, post, rfl, rfl, a, c⟩ := U.split
  have z := N (D, listOf vs.toArray n) (List.mem_append.mpr (.inr (.head _)))
  have z2 := N _ hb
  refine iadd_road ⟨_, z.1, rfl⟩ ⟨_, z2.1, rfl⟩ ?_
  refine call_meets PySem.F.slot_list_iadd ⟨_, z.1, rfl⟩ PySem.F.entry_list_iadd (PySem.F.args_list_iadd_2 _ _)
    (PySem.AutoSeq1.list___iadd___list_list_0 D _ n b _ k ?_ ?_ ?_) ⟨z.1, z2.1, hk _ (F.change (Heap.SameBut.update ..) z.2.1 z.2.2) (kl_turn _ N a c ?_ ?_)⟩
  · have e : Builtin.List.listTooLong (vs.toArray.size + ws.toArray.size) = false := by
      simp only [Builtin.List.listTooLong, decide_eq_false_iff_not, sizeLine_eq, List.size_toArray]
      omega
    rw [e, Bool.and_false]
    decide
  · rw [sizeLine_eq, List.size_toArray]; omega
  · rw [sizeLine_eq, List.size_toArray, List.size_toArray]; omega
  · apply Array.toList_inj.mp
    simp
  · rw [List.size_toArray, List.size_toArray, List.length_append]
    omega
theorem m_append (F : Fr h₀ L s.heap m) (N : News h₀ L s.heap news) (U : Upd D (listOf vs.toArray n) (listOf (vs ++ [x]).toArray (n + 1)) news news') (hz : vs.length ≤ 100000)
    (hk : ∀ h', Fr h₀ L h' m → News h₀ L h' news' → Q .none { s with heap := h' }) : wpAny (model prog w) A (call (.builtin "list.append") [.ref D, x]) Q E s := by
  have e : (vs ++ [x]).toArray = vs.toArray.push x := by simp
  rw [e] at U
  exact append_K F N U hk (by rw [sizeLine_eq, List.size_toArray]; omega)
theorem m_pop (F : Fr h₀ L s.heap m) (N : News h₀ L s.heap news) (U : Upd D (listOf (vs ++ [y]).toArray n) (listOf vs.toArray (n + 1)) news news') (hz : vs.length ≤ 100000)
    (hk : ∀ h', Fr h₀ L h' m → News h₀ L h' news' → Q y { s with heap := h' }) : wpAny (model prog w) A (call (.builtin "list.pop") [.ref D]) Q E s := by
  obtain ⟨pre, post, rfl, rfl, a, b⟩ := U.split
  have z := N (D, listOf (vs ++ [y]).toArray n) (List.mem_append.mpr (.inr (.head _)))
  have hk' : (vs ++ [y]).toArray.size - 1 = vs.length := by rw [List.size_toArray, List.length_append]; rfl
  have hy : (vs ++ [y]).toArray[(vs ++ [y]).toArray.size - 1]? = some y := by rw [hk']; simp
  refine call_meets PySem.F.slot_list_pop ⟨_, z.1, rfl⟩ PySem.F.entry_list_pop (PySem.F.args_list_pop_1 _) (PySem.MeetsSeq.list_pop_last D _ n y hy ?_) ⟨z.1, hk _ (F.change (Heap.SameBut.update ..) z.2.1 z.2.2) (kl_turn _ N a b ?_ ?_)⟩
  · rw [sizeLine_eq, List.size_toArray, List.length_append, List.length_singleton]; omega
  · show (vs ++ [y]).toArray.eraseIdxIfInBounds ((vs ++ [y]).toArray.size - 1) = vs.toArray
    rw [hk']
    have q := kl_erase vs [] y
    rw [List.append_nil] at q
    exact q
  · rw [List.size_toArray, List.size_toArray, List.length_append, List.length_singleton]
    omega
theorem m_pop0 {u : Tok} (F : Fr h₀ L s.heap m) (N : News h₀ L s.heap news) (U : Upd D (listOf (y :: vs).toArray n) (listOf vs.toArray (n + 1)) news news') (hz : vs.length ≤ 100000)
    (hk : ∀ h', Fr h₀ L h' m → News h₀ L h' news' → Q y { s with heap := h' }) : wpAny (model prog w) A (call (.builtin "list.pop") [.ref D, .int 0 u]) Q E s := by
  obtain ⟨pre, post, rfl, rfl, a, b⟩ := U.split
  have z := N (D, listOf (y :: vs).toArray n) (List.mem_append.mpr (.inr (.head _)))
  have hy : (y :: vs).toArray[0]? = some y := by simp
  refine call_meets PySem.F.slot_list_pop ⟨_, z.1, rfl⟩ PySem.F.entry_list_pop (PySem.F.args_list_pop_2 _ _) (PySem.MeetsSeq.list_pop_at D _ n 0 u 0 y rfl ?_ hy ?_) ⟨z.1, hk _ (F.change (Heap.SameBut.update ..) z.2.1 z.2.2) (kl_turn _ N a b ?_ ?_)⟩
  · rw [List.size_toArray, List.length_cons]
    unfold seqIndex?
    simp
  · rw [sizeLine_eq, List.size_toArray, List.length_cons]; omega
  · exact kl_erase [] vs y
  · rw [List.size_toArray, List.size_toArray, List.length_cons]
    omega
theorem m_meth {name : Str} {id : String} {pl : Sem Bool} {Q : Value × List Value → Shared → Prop} (N : News h₀ L s.heap news) (hm : (D, listOf vs.toArray n) ∈ news) (slot : Slot "list" name id) (hty : typeOf (.builtin id) = pure (.type "method_descriptor"))
    (hq : Q (.builtin id, [.ref D]) s) : wpAny (model prog w) A (getMethod (.ref D) name pl) Q E s := kl_method N hm slot hty hq
theorem m_truthyL {Q : Bool → Shared → Prop} (N : News h₀ L s.heap news) (hm : (D, listOf vs.toArray n) ∈ news) (hz : vs.length ≤ 100000) (hq : Q (!vs.isEmpty) { s with toks := s.toks + 1 + 1 }) : wpAny (model prog w) A (truthy (.ref D)) Q E s := by
  refine wpAny_truthy_list (N.isList hm) (by rw [List.size_toArray]; omega) ?_
  have e : vs.toArray.isEmpty = vs.isEmpty := by simp
  rw [e]
  exact hq
theorem m_itemV {value slice : PySem.Expr} {i : Int} {u : Tok} (N : News h₀ L s.heap news) (hm : (D, listOf vs.toArray n) ∈ news) (h0 : 0 ≤ i) (h1 : i < 100000) (hx : vs[i.toNat]? = some x) (hq : Q x s)
    (hs : subscripted slice false (.ref D) (.int i u) = operate [.ref D, .int i u] (getItem (.ref D) (.int i u))) (hg : ∀ r, letTemporaryGo value (.ref D) r = pure ()) :
    wpAny (model prog w) A (subscriptTail value slice (.ref D) (.int i u)) Q E s := item_list (N.isList hm) h0 (by omega) (by simpa using hx) hq hs hg
theorem m_itemNeg {value slice : PySem.Expr} {u : Tok} (N : News h₀ L s.heap news) (hm : (D, listOf (vs ++ [x]).toArray n) ∈ news) (hz : vs.length ≤ 100000) (hq : Q x s)
    (hs : subscripted slice false (.ref D) (.int (-1) u) = operate [.ref D, .int (-1) u] (getItem (.ref D) (.int (-1) u))) (hg : ∀ r, letTemporaryGo value (.ref D) r = pure ()) :
    wpAny (model prog w) A (subscriptTail value slice (.ref D) (.int (-1) u)) Q E s := by
  have hl := N.isList hm
  have hsz : (vs ++ [x]).toArray.size = vs.length + 1 := by simp
  refine subscriptTail_builtin hl.typeIs slot_list_getitem.lookup (wpAny_getItem_list_neg hl (by decide) (by rw [hsz]; omega) (by decide) ?_ hq) hs hg
  rw [hsz, show (-1 + ((vs.length + 1 : Nat) : Int)).toNat = vs.length by omega]
  simp
end
end Mine
namespace Mine
theorem resetBBand : True ∧ True := by
  w_top off
  (try walk1)
  all_goals first | trivial | exact ⟨trivial, trivial⟩
theorem fillBBand : (fun (_ : PySem.Challenge.rw_bd5016_01 = PySem.Challenge.rw_bd5016_01) => hd.heap_39) = fun _ => hd.heap_39 := by
  w_top off
  k_fill
  rfl
local macro_rules | `(tactic| walk_at "binaryOp Div int int") => `(tactic| (k_here; k_dflt ((refine' m_div ?hh ?hb ?_); (case hh => rfl); (case hb => first | (unfold FqOk; omega) | exact fq_parts (by omega) (by omega)); k_whole)))
local macro_rules | `(tactic| walk_at "call builtin:math.floor") => `(tactic| (k_here; (with_reducible show wpAny _ _ (call _ [Value.float (fq _ _) _]) _ _ _); k_dflt ((refine' m_floor ?hh ?hb ?_); (case hh => rfl); (case hb => first | (unfold FqOk; omega) | exact fq_parts (by omega) (by omega)); k_whole)))
local macro_rules | `(tactic| walk_at "binaryOp Add float int") => `(tactic| (k_here; first
  | ((with_reducible show wpAny _ _ (binaryOp _ (Value.float (fl _) _) _) _ _ _); k_dflt ((refine' m_add_fi ?ha ?hb ?_); (case ha => (unfold FlOk; omega)); (case hb => omega); k_whole))
  | ((with_reducible show wpAny _ _ (binaryOp _ (Value.float 4689722129631936512 _) _) _ _ _); k_dflt ((refine' m_add_ei ?hb ?_); (case hb => omega); k_whole))))
local macro_rules | `(tactic| walk_at "inplaceOp Add float int") => `(tactic| (k_here; (with_reducible show wpAny _ _ (inplaceOp _ (Value.float (fl _) _) _) _ _ _); k_dflt ((refine' m_iadd_fi ?hh ?ha ?hb ?_); (case hh => rfl); (case ha => (unfold FlOk; omega)); (case hb => omega); k_whole)))
local macro_rules | `(tactic| walk_at "call type:int") => `(tactic| (k_here; (with_reducible show wpAny _ _ (call _ [Value.float (fl _) _]) _ _ _); k_dflt ((refine' m_int ?hh ?ha ?_); (case hh => rfl); (case ha => (unfold FlOk; omega)); k_whole)))
local macro_rules | `(tactic| walk_at "call builtin:math.trunc") => `(tactic| (k_here; (with_reducible show wpAny _ _ (call _ [Value.float (fl _) _]) _ _ _); k_dflt ((refine' m_trunc ?hh ?ha ?_); (case hh => rfl); (case ha => (unfold FlOk; omega)); k_whole)))
local macro_rules | `(tactic| walk_at "binaryOp Add int float") => `(tactic| (k_here; (with_reducible show wpAny _ _ (binaryOp _ (Value.int _ _) (Value.float 4602678819172646912 _)) _ _ _); k_dflt ((refine' m_add_ih ?hb ?_); (case hb => omega); k_whole)))
local macro_rules | `(tactic| walk_at "binaryOp Add float float") => `(tactic| (k_here; (with_reducible show wpAny _ _ (binaryOp _ (Value.float (fl _) _) (Value.float 4602678819172646912 _)) _ _ _); k_dflt ((refine' m_add_fh ?ha ?_); (case ha => (unfold FlOk; omega)); k_whole)))
local macro_rules | `(tactic| walk_at "binaryOp Sub float float") => `(tactic| (k_here; (with_reducible show wpAny _ _ (binaryOp _ (Value.float (fl _) _) (Value.float (fl _) _)) _ _ _); k_dflt ((refine' m_sub_ff ?ha ?hb ?hc ?_); (case ha => omega); (case hb => omega); (case hc => omega); k_whole)))
local macro_rules | `(tactic| walk_at "compareOp NotEq float int") => `(tactic| (k_here; (with_reducible show wpAny _ _ (compareOp _ (Value.float (fl _) _) _) _ _ _); k_dflt ((refine' m_ne_fi ?ha ?_); (case ha => (unfold FlOk; omega)); k_whole)))
local macro_rules | `(tactic| walk_at "compareOp Eq float int") => `(tactic| (k_here; (with_reducible show wpAny _ _ (compareOp _ (Value.float (fl _) _) _) _ _ _); k_dflt ((refine' m_eq_fi ?ha ?_); (case ha => (unfold FlOk; omega)); k_whole)))
local macro_rules | `(tactic| walk_at "binaryOp Mod float int") => `(tactic| (k_here; (with_reducible show wpAny _ _ (binaryOp _ (Value.float (fl (2 * _)) _) (Value.int 10 _)) _ _ _); k_dflt ((refine' m_mod ?hh ?hb ?_); (case hh => rfl); (case hb => (unfold SizeOk; omega)); k_whole)))
local macro_rules | `(tactic| walk_at "binaryOp Mod int int") => `(tactic| (k_here; k_dflt (refine' m_modE ?b ?_; (case b => omega); k_whole)))
local macro_rules | `(tactic| walk_at "binaryOp Mult ref int") => `(tactic| (k_here; k_dflt (refine' m_mulN ?F ?N ?a ?b ?c ?_; (case F => k_asm); (case N => k_asm); (case a => k_mem); (case b => (first | omega | ((simp only [List.length_append, List.length_replicate]); omega) | ((have hl9 := IntsAre.length (by assumption)); (simp only [List.length_append, List.length_replicate, rangeKs_length] at *); omega))); (case c => (first | omega | ((simp only [List.length_append, List.length_replicate]); omega) | ((have hl9 := IntsAre.length (by assumption)); (simp only [List.length_append, List.length_replicate, rangeKs_length] at *); omega))); k_whole); intro D' h' F' N' l1; (try k_lt l1); (try k_sweep)))
local macro_rules | `(tactic| walk_at "binaryOp Mult int ref") => `(tactic| (k_here; k_dflt (refine' m_mulNr ?F ?N ?a ?b ?c ?_; (case F => k_asm); (case N => k_asm); (case a => k_mem); (case b => (first | omega | ((simp only [List.length_append, List.length_replicate]); omega) | ((have hl9 := IntsAre.length (by assumption)); (simp only [List.length_append, List.length_replicate, rangeKs_length] at *); omega))); (case c => (first | omega | ((simp only [List.length_append, List.length_replicate]); omega) | ((have hl9 := IntsAre.length (by assumption)); (simp only [List.length_append, List.length_replicate, rangeKs_length] at *); omega))); k_whole); intro D' h' F' N' l1; (try k_lt l1); (try k_sweep)))
local macro_rules | `(tactic| walk_at "binaryOp Add ref ref") => `(tactic| (k_here; k_dflt (refine' m_addL ?F ?N ?a ?b ?c ?_; (case F => k_asm); (case N => k_asm); (case a => k_mem); (case b => k_mem); (case c => (first | omega | ((simp only [List.length_append, List.length_replicate]); omega) | ((have hl9 := IntsAre.length (by assumption)); (simp only [List.length_append, List.length_replicate, rangeKs_length] at *); omega))); k_whole); intro D' h' F' N' l1; (try k_lt l1); (try k_sweep)))
local macro_rules | `(tactic| walk_at "eval ListComp") => `(tactic| (k_here; k_dflt (refine comp_steps (by k_asm) (by with_unfolding_all rfl) (by decide) (by rfl) (by decide) (by rfl) ?_ (by intro _; rfl))))
local macro_rules | `(tactic| k_all) => `(tactic| exact allNe_of_lt (by assumption) (by omega))
local macro_rules | `(tactic| walk_at "subscriptTail Name Slice ref ref") => `(tactic| (k_here; k_dflt (refine' m_slice ?F ?N ?a ?d ?x ?y ?z ?_ ?s ?t; (case F => k_asm); (case N => k_asm); (case a => first | with_reducible assumption | k_mem); (case d => assumption); (case x => omega); (case y => omega); (case z => assumption); (case s => with_unfolding_all rfl); (case t => (intro _; with_unfolding_all rfl)); k_whole); intro D' ws' h' F' N' l1 hW'; (try k_sweep)))
local macro_rules | `(tactic| walk_at "eval Name") => `(tactic| (k_here; (with_reducible show wpAny _ _ (eval (Expr.Name _ _) (compEnvC _ _ _ _)) _ _ _); k_dflt (first
  | refine LCgL.ld_own (by k_asm) (by first | exact List.Mem.tail _ (List.Mem.head _) | exact List.Mem.tail _ (List.Mem.tail _ (List.Mem.head _))) (by with_reducible assumption) (by with_reducible assumption) ?_
  | refine kcf_cell (by k_asm) (by rfl) (by with_reducible assumption) (by with_reducible assumption) ?_)))
local macro_rules | `(tactic| walk_at "call builtin:len") => `(tactic| (k_here; k_dflt (refine' m_len ?N ?a ?c ?_; (case N => k_asm); (case a => k_mem); (case c => first | omega | ((simp only [List.length_append, List.length_replicate]); omega)); k_whole)))
local macro_rules | `(tactic| k_mem) => `(tactic| ((repeat (refine' List.Mem.tail _ ?_)); assumption))
abbrev Cell : Type := Option Int
abbrev Rw : Type := List Cell
def cellD : Cell → Dat
  | none => Dat.none
  | some i => Dat.int i
def rowD (r : Rw) : Dat := Dat.list (r.map cellD)
def leafD (l : List Rw) : Dat := Dat.list (l.map rowD)
/-- a row lies at v -/
inductive RowIn (led : List (Addr × Obj)) : Value → Rw → Prop
  | mk (a : Addr) (V : List Value) (k : Nat) (r : Rw) : (a, listOf V.toArray k) ∈ led → DatAll [] V (r.map cellD) → RowIn led (.ref a) r
inductive RowsIn (led : List (Addr × Obj)) : List Value → List Rw → Prop
  | nil : RowsIn led [] []
  | cons {v : Value} {V : List Value} {r : Rw} {rs : List Rw} : RowIn led v r → RowsIn led V rs → RowsIn led (v :: V) (r :: rs)
inductive LeafIn (led : List (Addr × Obj)) : Value → List Rw → Prop
  | mk (a : Addr) (V : List Value) (k : Nat) (rs : List Rw) : (a, listOf V.toArray k) ∈ led → RowsIn led V rs → LeafIn led (.ref a) rs
inductive LeavesIn (led : List (Addr × Obj)) : List Value → List (List Rw) → Prop
  | nil : LeavesIn led [] []
  | cons {v : Value} {V : List Value} {r : List Rw} {rs : List (List Rw)} : LeafIn led v r → LeavesIn led V rs → LeavesIn led (v :: V) (r :: rs)
section
variable {led led' : List (Addr × Obj)} (hs : ∀ p ∈ led, p ∈ led')
include hs
theorem RowIn.mono {v : Value} {r : Rw} (h : RowIn led v r) : RowIn led' v r := by
  cases h with
  | mk a V k r hm hd => exact .mk a V k r (hs _ hm) hd
theorem RowsIn.mono {V : List Value} {rs : List Rw} (h : RowsIn led V rs) : RowsIn led' V rs := by
  induction h with
  | nil => exact .nil
  | cons h _ ih => exact .cons (h.mono hs) ih
theorem LeafIn.mono {v : Value} {r : List Rw} (h : LeafIn led v r) : LeafIn led' v r := by
  cases h with
  | mk a V k r hm hd => exact .mk a V k r (hs _ hm) (hd.mono hs)
theorem LeavesIn.mono {V : List Value} {rs : List (List Rw)} (h : LeavesIn led V rs) : LeavesIn led' V rs := by
  induction h with
  | nil => exact .nil
  | cons h _ ih => exact .cons (h.mono hs) ih
end
theorem RowsIn.append {led : List (Addr × Obj)} {V W : List Value} {rs qs : List Rw} (h : RowsIn led V rs) (k : RowsIn led W qs) : RowsIn led (V ++ W) (rs ++ qs) := by
  induction h with
  | nil => exact k
  | cons h _ ih => exact .cons h ih
theorem RowsIn.length {led : List (Addr × Obj)} {V : List Value} {rs : List Rw} (h : RowsIn led V rs) : V.length = rs.length := by
  induction h with
  | nil => rfl
  | cons _ _ ih => rw [List.length_cons, List.length_cons, ih]
theorem RowsIn.snoc {led : List (Addr × Obj)} : ∀ {V : List Value} {rs : List Rw} {r : Rw}, RowsIn led V (rs ++ [r]) → ∃ W v, V = W ++ [v] ∧ RowsIn led W rs ∧ RowIn led v r
  | _, [], _, .cons h .nil => ⟨[], _, rfl, .nil, h⟩
  | _, _ :: _, _, .cons h k => by
    obtain ⟨W, v, e, h1, h2⟩ := RowsIn.snoc k
    exact ⟨_ :: W, v, by rw [e]; rfl, .cons h h1, h2⟩
theorem cells_flat {led : List (Addr × Obj)} : ∀ {V : List Value} {r : Rw}, DatAll led V (r.map cellD) → DatAll [] V (r.map cellD)
  | _, [], .nil => .nil
  | _, none :: _, .cons h k => by
    cases h with
    | none => exact .cons .none (cells_flat k)
  | _, some i :: _, .cons h k => by
    cases h with
    | int i t => exact .cons (.int i t) (cells_flat k)
theorem rowIn_of {led : List (Addr × Obj)} {v : Value} {r : Rw} (h : DatIn led v (rowD r)) : RowIn led v r := by
  cases h with
  | list hm hd => exact .mk _ _ _ _ hm (cells_flat hd)
theorem rowsIn_of {led : List (Addr × Obj)} : ∀ {V : List Value} {rs : List Rw}, DatAll led V (rs.map rowD) → RowsIn led V rs
  | _, [], .nil => .nil
  | _, _ :: _, .cons h k => .cons (rowIn_of h) (rowsIn_of k)
theorem leafIn_of {led : List (Addr × Obj)} {v : Value} {rs : List Rw} (h : DatIn led v (leafD rs)) : LeafIn led v rs := by
  cases h with
  | list hm hd => exact .mk _ _ _ _ hm (rowsIn_of hd)
theorem datIn_row {led : List (Addr × Obj)} {v : Value} {r : Rw} (h : RowIn led v r) : DatIn led v (rowD r) := by
  cases h with
  | mk a V k r hm hd => exact .list hm (hd.mono fun _ hp => absurd hp List.not_mem_nil)
theorem datAll_rows {led : List (Addr × Obj)} {V : List Value} {rs : List Rw} (h : RowsIn led V rs) : DatAll led V (rs.map rowD) := by
  induction h with
  | nil => exact .nil
  | cons h _ ih => exact .cons (datIn_row h) ih
theorem cell_at {V : List Value} {r : Rw} (h : DatAll [] V (r.map cellD)) {i : Nat} (hi : i < r.length) : ∃ v, V[i]? = some v ∧ DatIn [] v (cellD (r[i]'hi)) := by
  obtain ⟨v, h1, h2⟩ := h.get (k := i) (by rw [List.length_map]; exact hi)
  rw [List.getElem_map] at h2
  exact ⟨v, h1, h2⟩

/-- one leaf joined to a band -/
def mergeF (first last : Rw) : Rw := (List.range 7).map fun k => if (last.getD k none).isNone then first.getD k none else last.getD k none
def openF (band : List Rw) : Bool := match band.getLast? with
  | some r => (r.getD 6 none).isNone
  | none => false
def joinF (band leaf : List Rw) : List Rw :=
  if openF band then match band.getLast?, leaf with
    | some last, first :: rest => band.dropLast ++ [mergeF first last] ++ rest
    | _, _ => band ++ leaf
  else band ++ leaf
def bandF (leaves : List (List Rw)) : List Rw := leaves.foldl joinF []
def RowsOk (rs : List Rw) : Prop := 2 ≤ rs.length ∧ rs.length ≤ 7 ∧ ∀ r ∈ rs, r.length = 7

inductive RB (news : List (Addr × Obj)) : List Value → List (List Rw) → Prop
  | mk (a : Addr) (V : List Value) (k : Nat) (ls : List (List Rw)) : (a, listOf V.toArray k) ∈ news → LeavesIn news V ls → RB news [.ref a] ls
def BandOut (news tl : List (Addr × Obj)) (r : Value) (d : List (List Rw)) : Prop :=
  ∃ b B nb, r = .ref b ∧ (b, listOf (List.toArray B) nb) ∈ tl ∧ RowsIn (news ++ tl) B (bandF d)
abbrev cBand : Con (List (List Rw)) where
  Rel := RB
  Ok := fun d => d.length ≤ 20 ∧ ∀ l ∈ d, RowsOk l
  size := 1
  Out := BandOut

section
variable {prog : Program} {w : World} {A : Around} {E : Value → Shared → Prop} {h₀ : Heap} {L : Addr} {m : Str → Option Value} {env : Env} {elt : Expr} {x : Str} {scope : Scope} {cl : List (Str × Addr)} {s : Shared} {Fin : List Value → List (Addr × Obj) → Prop} {news : List (Addr × Obj)} {S : List (Addr × Obj) → Prop}
def CopyEnd (h₀ : Heap) (L : Addr) (m : Str → Option Value) (s : Shared) (led : List (Addr × Obj)) (v : Value) (y : Value) (s₂ : Shared) : Prop := y = v ∧ ∃ h' tk', s₂ = { s with heap := h', toks := tk' } ∧ Fr h₀ L h' m ∧ News h₀ L h' led
theorem rest_copy {vs : List Value} (hS : S news)
    (turn : ∀ v I oI C oC D m₂ ys h tk (E' : Value → Shared → Prop), LCg.NsObj oC m₂ → m₂ x = some v → Fr h₀ L h m → News h₀ L h ((I, oI) :: (C, oC) :: (D, LCg.lst ys) :: news) →
      wpAny (model prog w) A (eval elt (compEnvC scope cl C env)) (CopyEnd h₀ L m s ((I, oI) :: (C, oC) :: (D, LCg.lst ys) :: news) v) E' { s with heap := h, toks := tk })
    (fin : Fin vs news) : LCg.CompRest prog w A h₀ L m env elt x scope cl s S (fun i v => vs.toArray[i]? = some v) Fin vs.toArray.size 0 [] news := by
  have key : ∀ (j i : Nat) (ys : List Value), i + j = vs.length → ys = vs.take i → LCg.CompRest prog w A h₀ L m env elt x scope cl s S (fun i v => vs.toArray[i]? = some v) Fin j i ys news := by
    intro j
    induction j with
    | zero =>
      intro i ys hi hy
      have e : i = vs.length := by omega
      subst e
      rw [List.take_length] at hy
      subst hy
      exact LCg.CompRest.zero fin
    | succ j ih =>
      intro i ys hi hy
      refine LCg.CompRest.succ ?_
      intro v I oI C oC D m₂ h tk E' hv hC hx F N off ne
      refine wpAny_mono (turn v I oI C oC D m₂ ys h tk E' hC hx F N) (fun y s₂ hq => ?_) fun _ _ e => e
      obtain ⟨rfl, h', tk', rfl, F', N'⟩ := hq
      refine LCg.CompEnd.intro F' N' news (fun _ hp => hp) off hS (ih (i + 1) _ (by omega) ?_)
      have hv' : vs[i]? = some y := by simpa using hv
      rw [hy, List.take_add_one, hv']
      rfl
  rw [List.size_toArray]
  exact key vs.length 0 [] (by omega) rfl
/-- elements that are flat data, over a range from nought -/
def FlatEnd (h₀ : Heap) (L : Addr) (m : Str → Option Value) (s : Shared) (led : List (Addr × Obj)) (d : Dat) (y : Value) (s₂ : Shared) : Prop := DatIn [] y d ∧ ∃ h' tk', s₂ = { s with heap := h', toks := tk' } ∧ Fr h₀ L h' m ∧ News h₀ L h' led
theorem rest_flat {n : Nat} (g : Nat → Dat)
    (turn : ∀ i t I oI C oC D m₂ ys h tk (E' : Value → Shared → Prop), i < n → LCg.NsObj oC m₂ → m₂ x = some (.int (0 + (i : Int)) t) → Fr h₀ L h m → News h₀ L h ((I, oI) :: (C, oC) :: (D, LCg.lst ys) :: news) →
      wpAny (model prog w) A (eval elt (compEnvC scope cl C env)) (FlatEnd h₀ L m s ((I, oI) :: (C, oC) :: (D, LCg.lst ys) :: news) (g i)) E' { s with heap := h, toks := tk })
    (fin : ∀ ys, DatAll [] ys ((List.range n).map g) → Fin ys news) : LCg.CompRest prog w A h₀ L m env elt x scope cl s (fun _ => True) (fun i v => ∃ t, v = .int (0 + (i : Int)) t) Fin n 0 [] news := by
  have key : ∀ (j i : Nat) (ys : List Value), i + j = n → DatAll [] ys ((List.range i).map g) → LCg.CompRest prog w A h₀ L m env elt x scope cl s (fun _ => True) (fun i v => ∃ t, v = .int (0 + (i : Int)) t) Fin j i ys news := by
    intro j
    induction j with
    | zero =>
      intro i ys hi hy
      have e : i = n := by omega
      subst e
      exact LCg.CompRest.zero (fin ys hy)
    | succ j ih =>
      intro i ys hi hy
      refine LCg.CompRest.succ ?_
      intro v I oI C oC D m₂ h tk E' hv hC hx F N off ne
      obtain ⟨t, rfl⟩ := hv
      refine wpAny_mono (turn i t I oI C oC D m₂ ys h tk E' (by omega) hC hx F N) (fun y s₂ hq => ?_) fun _ _ e => e
      obtain ⟨hd, h', tk', rfl, F', N'⟩ := hq
      refine LCg.CompEnd.intro F' N' news (fun _ hp => hp) off trivial (ih (i + 1) _ (by omega) ?_)
      rw [List.range_succ, List.map_append]
      exact DatAll.append hy (DatAll.one hd)
  exact key n 0 [] (by omega) .nil
end
abbrev bandN : Str := Str.ofString "band"
abbrev rowsS : Str := Str.ofString "rows"
abbrev leafS : Str := Str.ofString "leaf"
def IsCell (o : Obj) : Prop := ∃ v, o.data = Data.cell v
def BandEnd (h₀ : Heap) (L b c1 c2 : Addr) (led0 own : List (Addr × Obj)) (m₀ : Str → Option Value) (bs leaf : List Rw) (s₁ : Shared) (f : Flow) (s₂ : Shared) : Prop :=
  f = .next ∧ ∃ h' tk m' B' nb' o1' o2' add, s₂ = { s₁ with heap := h', toks := tk } ∧ Fr h₀ L h' m' ∧ News h₀ L h' ((b, listOf (List.toArray B') nb') :: (c1, o1') :: (c2, o2') :: (add ++ (led0 ++ own))) ∧
    (∀ p ∈ add, @Ne Nat p.1 b ∧ @Ne Nat p.1 c1 ∧ @Ne Nat p.1 c2 ∧ ∀ q ∈ led0 ++ own, @Ne Nat q.1 p.1) ∧ IsCell o1' ∧ IsCell o2' ∧ RowsIn (add ++ led0) B' (joinF bs leaf) ∧ m' bandN = some (.ref b) ∧ ∀ z, z ≠ leafS → z ≠ rowsS → z ≠ bandN → m' z = m₀ z

theorem mergeF_len (a c : Rw) : (mergeF a c).length = 7 := by unfold mergeF; rw [List.length_map, List.length_range]
theorem joinF_len (bs leaf : List Rw) : (joinF bs leaf).length ≤ bs.length + leaf.length := by
  unfold joinF
  split
  · split
    · simp only [List.length_append, List.length_dropLast, List.length_cons, List.length_nil]
      omega
    · rw [List.length_append]; exact Nat.le_refl _
  · rw [List.length_append]; exact Nat.le_refl _
theorem joinF_rows {bs leaf : List Rw} (h1 : ∀ r ∈ bs, r.length = 7) (h2 : ∀ r ∈ leaf, r.length = 7) : ∀ r ∈ joinF bs leaf, r.length = 7 := by
  have h3 : ∀ r ∈ bs ++ leaf, r.length = 7 := fun r hr => (List.mem_append.mp hr).elim (h1 r) (h2 r)
  unfold joinF
  split
  · split
    · rename_i last first rest _
      intro r hr
      rcases List.mem_append.mp hr with hr | hr
      · rcases List.mem_append.mp hr with hr | hr
        · exact h1 r (List.dropLast_subset _ hr)
        · rw [List.mem_singleton.mp hr]
          exact mergeF_len _ _
      · exact h2 r (.tail _ hr)
    · exact h3
  · exact h3
theorem bandF_snoc (ls : List (List Rw)) (l : List Rw) : bandF (ls ++ [l]) = joinF (bandF ls) l := by unfold bandF; rw [List.foldl_append]; rfl
theorem bandF_ok : ∀ (n : Nat) (ls : List (List Rw)), ls.length = n → (∀ l ∈ ls, RowsOk l) → (bandF ls).length ≤ 7 * n ∧ ∀ r ∈ bandF ls, r.length = 7
  | 0, ls, h, _ => by
    rw [List.length_eq_zero_iff.mp h]
    exact ⟨Nat.le_refl _, fun _ h => nomatch h⟩
  | n + 1, ls, h, hk => by
    obtain ⟨qs, l, rfl⟩ : ∃ qs l, ls = qs ++ [l] := by
      refine ⟨ls.dropLast, ls.getLast (fun e => by rw [e] at h; cases h), (List.dropLast_concat_getLast _).symm⟩
    rw [List.length_append, List.length_singleton] at h
    obtain ⟨h1, h2⟩ := bandF_ok n qs (by omega) fun l hl => hk l (List.mem_append.mpr (.inl hl))
    have hl := hk l (List.mem_append.mpr (.inr (.head _)))
    rw [bandF_snoc]
    refine ⟨?_, joinF_rows h2 hl.2.2⟩
    have := joinF_len (bandF qs) l
    have := hl.2.1
    omega
theorem leaf_at {led : List (Addr × Obj)} : ∀ {V : List Value} {ls : List (List Rw)} {i : Nat} {v : Value}, LeavesIn led V ls → V[i]? = some v → ∃ l, ls[i]? = some l ∧ LeafIn led v l
  | _, _, _, _, .nil, h => by simp at h
  | _, _, 0, _, .cons h _, e => by simp at e; subst e; exact ⟨_, rfl, h⟩
  | _, _, i + 1, _, .cons _ k, e => by
    obtain ⟨l, h1, h2⟩ := leaf_at k (i := i) (by simpa using e)
    exact ⟨l, by simpa using h1, h2⟩
theorem LeavesIn.length {led : List (Addr × Obj)} {V : List Value} {rs : List (List Rw)} (h : LeavesIn led V rs) : V.length = rs.length := by
  induction h with
  | nil => rfl
  | cons _ _ ih => rw [List.length_cons, List.length_cons, ih]
section
variable {prog : Program} {w : World} {A : Around} {E : Value → Shared → Prop} {s : Shared} {h₀ : Heap} {env : Env} {body : List Stmt} {Q : Flow → Shared → Prop}
theorem band_loop {al b c1 c2 : Addr} {V : List Value} {k : Nat} {o1 o2 : Obj} {m₀ : Str → Option Value} {news0 : List (Addr × Obj)} {leaves : List (List Rw)}
    (hh : A.handled = none) (hal : (al, listOf V.toArray k) ∈ news0) (hV : LeavesIn news0 V leaves) (hlen : leaves.length ≤ 20) (hok : ∀ l ∈ leaves, RowsOk l)
    (F : Fr h₀ env.locals s.heap m₀) (N : News h₀ env.locals s.heap ((b, listOf ([] : List Value).toArray 0) :: (c1, o1) :: (c2, o2) :: news0)) (hb : ∀ p ∈ news0, @Ne Nat p.1 b) (hc1 : ∀ p ∈ news0, @Ne Nat p.1 c1) (hc2 : ∀ p ∈ news0, @Ne Nat p.1 c2)
    (hm : m₀ bandN = some (.ref b)) (ho1 : IsCell o1) (ho2 : IsCell o2)
    (turn : ∀ (B : List Value) (bs : List Rw) nb o1 o2 led0 own v leaf (u : Str → Option Value) h tk, RowsIn led0 B bs → (∀ r ∈ bs, r.length = 7) → bs.length ≤ 140 → LeafIn led0 v leaf → RowsOk leaf → IsCell o1 → IsCell o2 → (∀ p ∈ led0 ++ own, p.1 ≠ b) → (∀ p ∈ led0 ++ own, p.1 ≠ c1) → (∀ p ∈ led0 ++ own, p.1 ≠ c2) →
      Fr h₀ env.locals h (fun y => if y = leafS then some v else if y = bandN then some (.ref b) else if y = rowsS then u y else m₀ y) → News h₀ env.locals h ((b, listOf B.toArray nb) :: (c1, o1) :: (c2, o2) :: (led0 ++ own)) →
      wpAny (model prog w) A (execs body env) (BandEnd h₀ env.locals b c1 c2 led0 own m₀ bs leaf { s with heap := h, toks := tk }) E { s with heap := h, toks := tk })
    (done : ∀ (B : List Value) nb tl (m₁ : Str → Option Value) h tk, Apart news0 ((b, listOf B.toArray nb) :: tl) → RowsIn (news0 ++ ((b, listOf B.toArray nb) :: tl)) B (bandF leaves) → m₁ bandN = some (.ref b) → (∀ z, z ≠ leafS → z ≠ rowsS → z ≠ bandN → m₁ z = m₀ z) →
      Fr h₀ env.locals h m₁ → News h₀ env.locals h (news0 ++ ((b, listOf B.toArray nb) :: tl)) → Q .next { s with heap := h, toks := tk }) :
    wpAny (model prog w) A (pyIter (.ref al)) (fun it s₂ => LoopAtV prog w A h₀ env leafS body Q E it s₂) E s := by
  have hVl := hV.length
  have sub3 : ∀ {x y z : Addr × Obj} {l l' : List (Addr × Obj)}, (∀ p ∈ l, p ∈ l') → ∀ p ∈ x :: y :: z :: l, p ∈ x :: y :: z :: l' := fun hs p hp => by
    rcases List.mem_cons.mp hp with rfl | hp
    · exact .head _
    · rcases List.mem_cons.mp hp with rfl | hp
      · exact .tail _ (.head _)
      · rcases List.mem_cons.mp hp with rfl | hp
        · exact .tail _ (.tail _ (.head _))
        · exact .tail _ (.tail _ (.tail _ (hs p hp)))
  refine kdl_iter (fun i m₁ nx => ∃ B nb o1 o2 tl, nx = (b, listOf (List.toArray B) nb) :: (c1, o1) :: (c2, o2) :: (tl ++ news0) ∧ IsCell o1 ∧ IsCell o2 ∧ (∀ p ∈ tl, @Ne Nat p.1 b ∧ @Ne Nat p.1 c1 ∧ @Ne Nat p.1 c2) ∧ Apart news0 tl ∧ RowsIn (tl ++ news0) B (bandF (leaves.take i)) ∧ m₁ bandN = some (.ref b) ∧ ∀ z, z ≠ leafS → z ≠ rowsS → z ≠ bandN → m₁ z = m₀ z)
    hh (.tail _ (.tail _ (.tail _ hal))) F N ⟨[], 0, o1, o2, [], rfl, ho1, ho2, (fun _ h => absurd h List.not_mem_nil), Apart.nil, .nil, hm, fun _ _ _ _ => rfl⟩ ?_ ?_
  · rintro i v m₁ nx h tk own hv hoff hmem ⟨B, nb, o1, o2, tl, rfl, k1, k2, k3, k4, k5, k6, k7⟩ F₁ N₁
    obtain ⟨leaf, hl1, hl2⟩ := leaf_at hV hv
    have hi : i < leaves.length := by rw [← hVl]; exact (List.getElem?_eq_some_iff.mp hv).1
    have hmemL : leaf ∈ leaves := List.mem_of_getElem? hl1
    obtain ⟨q1, q2⟩ := bandF_ok i (leaves.take i) (by rw [List.length_take]; omega) fun l hl => hok l (List.mem_of_mem_take hl)
    have offb : ∀ p ∈ (tl ++ news0) ++ own, @Ne Nat p.1 b ∧ @Ne Nat p.1 c1 ∧ @Ne Nat p.1 c2 := by
      intro p hp
      rcases List.mem_append.mp hp with hp | hp
      · rcases List.mem_append.mp hp with hp | hp
        · exact k3 p hp
        · exact ⟨hb p hp, hc1 p hp, hc2 p hp⟩
      · exact ⟨hoff p hp b (.head _), hoff p hp c1 (.tail _ (.head _)), hoff p hp c2 (.tail _ (.tail _ (.head _)))⟩
    have eF : (fun y => if y = leafS then some v else m₁ y) = fun y => if y = leafS then some v else if y = bandN then some (.ref b) else if y = rowsS then m₁ y else m₀ y := by
      funext y
      by_cases e1 : y = leafS
      · rw [if_pos e1, if_pos e1]
      · rw [if_neg e1, if_neg e1]
        by_cases e2 : y = bandN
        · rw [if_pos e2, e2, k6]
        · rw [if_neg e2]
          by_cases e3 : y = rowsS
          · rw [if_pos e3]
          · rw [if_neg e3]
            exact k7 y e1 e3 e2
    have F₂ : Fr h₀ env.locals h (fun y => if y = leafS then some v else if y = bandN then some (.ref b) else if y = rowsS then m₁ y else m₀ y) := eF ▸ F₁
    refine wpAny_mono (turn B (bandF (leaves.take i)) nb o1 o2 (tl ++ news0) own v leaf m₁ h tk k5 q2 (by omega) (hl2.mono fun p hp => List.mem_append.mpr (.inr hp)) (hok _ hmemL) k1 k2
      (fun p hp => (offb p hp).1) (fun p hp => (offb p hp).2.1) (fun p hp => (offb p hp).2.2) F₂ N₁) (fun f s₂ hq => ?_) fun _ _ e => e
    obtain ⟨rfl, h', tk', m', B', nb', o1', o2', add, rfl, F', N', a1, a2, a3, a4, a5, a6⟩ := hq
    refine ⟨h', tk', m', _, (b, listOf B'.toArray nb') :: (c1, o1') :: (c2, o2') :: ((add ++ tl) ++ news0), rfl, F', N', ?_, ?_, ?_, ?_, ?_⟩
    · exact sub3 fun p hp => by
        rw [List.append_assoc] at hp
        rcases List.mem_append.mp hp with hp | hp
        · exact List.mem_append.mpr (.inl hp)
        · exact List.mem_append.mpr (.inr (List.mem_append.mpr (.inl hp)))
    · exact fun p hp => .tail _ (.tail _ (.tail _ (List.mem_append.mpr (.inr (List.mem_append.mpr (.inr hp))))))
    · intro p hp z hz
      obtain ⟨q, hq, rfl⟩ := List.mem_map.mp hz
      have hpo := offb p (List.mem_append.mpr (.inr hp))
      rcases List.mem_cons.mp hq with rfl | hq
      · exact hpo.1
      · rcases List.mem_cons.mp hq with rfl | hq
        · exact hpo.2.1
        · rcases List.mem_cons.mp hq with rfl | hq
          · exact hpo.2.2
          · rw [List.append_assoc] at hq
            rcases List.mem_append.mp hq with hq | hq
            · exact (a1 q hq).2.2.2 p (List.mem_append.mpr (.inr hp))
            · exact hoff p hp q.1 (List.mem_map.mpr ⟨q, .tail _ (.tail _ (.tail _ hq)), rfl⟩)
    · exact .tail _ (.tail _ (.tail _ (List.mem_append.mpr (.inr hal))))
    · refine ⟨B', nb', o1', o2', add ++ tl, rfl, a2, a3, ?_, ?_, ?_, a5, a6⟩
      · intro p hp
        rcases List.mem_append.mp hp with hp | hp
        · exact ⟨(a1 p hp).1, (a1 p hp).2.1, (a1 p hp).2.2.1⟩
        · exact k3 p hp
      · intro q hq p hp
        rcases List.mem_append.mp hp with hp | hp
        · exact (a1 p hp).2.2.2 q (List.mem_append.mpr (.inl (List.mem_append.mpr (.inr hq))))
        · exact k4 q hq p hp
      · rw [List.append_assoc, List.take_add_one, hl1]
        show RowsIn _ _ (bandF (leaves.take i ++ [leaf]))
        rw [bandF_snoc]
        exact a4
  · rintro m₁ nx h tk ⟨B, nb, o1, o2, tl, rfl, k1, k2, k3, k4, k5, k6, k7⟩ F₁ N₁
    rw [hVl, List.take_length] at k5
    refine done B nb tl m₁ h tk ?_ (k5.mono ?_) k6 k7 F₁ (cb_drop N₁ ?_)
    · intro q hq p hp
      rcases List.mem_cons.mp hp with rfl | hp
      · exact hb q hq
      · exact k4 q hq p hp
    · intro p hp
      rcases List.mem_append.mp hp with hp | hp
      · exact List.mem_append.mpr (.inr (.tail _ hp))
      · exact List.mem_append.mpr (.inl hp)
    · intro p hp
      rcases List.mem_append.mp hp with hp | hp
      · exact .tail _ (.tail _ (.tail _ (List.mem_append.mpr (.inr hp))))
      · rcases List.mem_cons.mp hp with rfl | hp
        · exact .head _
        · exact .tail _ (.tail _ (.tail _ (List.mem_append.mpr (.inl hp))))
end

theorem fr_named {h₀ h : Heap} {L : Addr} {m : Str → Option Value} {x : Str} {v : Value} (F : Fr h₀ L h m) (hm : m x = some v) : Fr h₀ L h (fun y => if y = x then some v else m y) := by
  have e : (fun y => if y = x then some v else m y) = m := by
    funext y
    by_cases e : y = x
    · rw [if_pos e, e, hm]
    · rw [if_neg e]
  rw [e]
  exact F
section
variable {prog : Program} {w : World} {A : Around} {E : Value → Shared → Prop} {s : Shared} {h₀ : Heap} {L D : Addr} {news : List (Addr × Obj)} {P : List Value} {y : Value} {n : Nat} {Q : Bool → Shared → Prop}
theorem m_truthy0 (N : News h₀ L s.heap news) (hm : (D, listOf ([] : List Value).toArray n) ∈ news) (hq : Q false { s with toks := s.toks + 1 + 1 }) : wpAny (model prog w) A (truthy (.ref D)) Q E s := m_truthyL N hm (by simp) hq
theorem m_truthy1 (N : News h₀ L s.heap news) (hm : (D, listOf (P ++ [y]).toArray n) ∈ news) (hz : P.length ≤ 1000) (hq : Q true { s with toks := s.toks + 1 + 1 }) : wpAny (model prog w) A (truthy (.ref D)) Q E s := by
  refine m_truthyL N hm (by rw [List.length_append, List.length_singleton]; omega) ?_
  have e : (!(P ++ [y]).isEmpty) = true := by simp
  rw [e]
  exact hq
end
theorem last_split {V : List Value} {r : Rw} (h : DatAll [] V (r.map cellD)) (h7 : r.length = 7) : ∃ W z, V = W ++ [z] ∧ W.length = 6 ∧ DatIn [] z (cellD (r.getD 6 none)) := by
  obtain ⟨v, h1, h2⟩ := cell_at h (i := 6) (by omega)
  have hl : V.length = 7 := by have := h.length; rw [List.length_map] at this; omega
  refine ⟨V.take 6, v, ?_, by rw [List.length_take]; omega, ?_⟩
  · have e := List.take_append_drop 6 V
    have h3 : V.drop 6 = [v] := by
      obtain ⟨hi, e1⟩ := List.getElem?_eq_some_iff.mp h1
      rw [List.drop_eq_getElem_cons hi, e1, List.drop_of_length_le (by omega)]
    rw [h3] at e
    exact e.symm
  · rw [List.getD_eq_getElem?_getD, List.getElem?_eq_getElem (by omega)]
    exact h2
theorem news_pull {h₀ h : Heap} {L : Addr} {x y z a b : Addr × Obj} {r : List (Addr × Obj)} (N : News h₀ L h (x :: y :: z :: a :: b :: r)) : News h₀ L h (z :: a :: b :: ([x] ++ r)) := by
  refine cb_drop N ?_
  intro p hp
  simp only [List.mem_cons, List.mem_append, List.not_mem_nil, or_false] at hp ⊢
  rcases hp with h | h | h | h | h
  · exact .inr (.inr (.inl h))
  · exact .inr (.inr (.inr (.inl h)))
  · exact .inr (.inr (.inr (.inr (.inl h))))
  · exact .inl h
  · exact .inr (.inr (.inr (.inr (.inr h))))
local macro_rules | `(tactic| walk_at "exec Assign cons ListComp") => `(tactic| (k_here; k_dflt (refine LCg.Assign_ListComp_U (F₀ := by k_asm) (by rfl) (by with_unfolding_all rfl) (by with_unfolding_all rfl) (by decide) (by rfl) (by decide) (by rfl) (by rfl) (by rfl) ?_)))
local macro_rules | `(tactic| walk_at "eval ListComp") => `(tactic| (k_here; k_dflt (refine LCg.ListComp_U (F₀ := by k_asm) (by with_unfolding_all rfl) (by decide) (by rfl) (by decide) (by rfl) ?_)))
local macro_rules | `(tactic| walk_at "CompSrc") => `(tactic| (k_here; refine Hold.out ?_))
local macro_rules | `(tactic| walk_at "truthy ref") => `(tactic| (k_here; k_dflt (first
  | (refine' m_truthy0 ?N ?a ?_; (case N => k_asm); (case a => exact List.Mem.tail _ (List.Mem.head _)); k_whole)
  | (refine' m_truthy1 ?N ?a ?c ?_; (case N => k_asm); (case a => exact List.Mem.tail _ (List.Mem.head _)); (case c => omega); k_whole))))
local macro_rules | `(tactic| walk_at "subscriptTail") => `(tactic| (k_here; (with_reducible show wpAny _ _ (subscriptTail _ _ (Value.ref _) (Value.int (-1) _)) _ _ _); k_dflt (refine' m_itemNeg ?N ?a ?c ?_ ?s ?t; (case N => k_asm); (case a => first | exact List.Mem.tail _ (List.Mem.head _) | k_mem); (case c => omega); (case s => with_unfolding_all rfl); (case t => (intro _; with_unfolding_all rfl)); k_whole)))
local macro_rules | `(tactic| k_all) => `(tactic| assumption)
local macro_rules | `(tactic| walk_at "inplaceOp Add ref ref") => `(tactic| (k_here; k_dflt (refine' m_iaddL ?F ?N ?U ?b ?e ?z ?_; (case F => k_asm); (case N => k_asm); (case b => k_mem); (case U => k_upd); (case e => first | omega | (simp; done) | (simp; omega)); (case z => (simp only [List.length_append, List.length_cons, List.length_nil]; omega)); k_whole); intro h' F' N'; (try k_sweep)))
theorem open_some {bs : List Rw} {last leaf : Rw} {ls : List Rw} {i : Int} (h : last.getD 6 none = some i) : joinF (bs ++ [last]) ls = (bs ++ [last]) ++ ls := by
  have e : openF (bs ++ [last]) = false := by
    unfold openF
    rw [List.getLast?_concat]
    show (last.getD 6 none).isNone = false
    rw [h]; rfl
  unfold joinF
  rw [e]
  rfl
theorem open_none {bs rest : List Rw} {last first : Rw} (h : last.getD 6 none = none) : joinF (bs ++ [last]) (first :: rest) = bs ++ [mergeF first last] ++ rest := by
  have e : openF (bs ++ [last]) = true := by
    unfold openF
    rw [List.getLast?_concat]
    show (last.getD 6 none).isNone = true
    rw [h]; rfl
  unfold joinF
  rw [e, if_pos rfl, List.getLast?_concat, List.dropLast_concat]
theorem news_mem5 {h₀ h : Heap} {L : Addr} {a b c d e x : Addr × Obj} {r : List (Addr × Obj)} (_ : News h₀ L h (a :: b :: c :: d :: e :: x :: r)) : x ∈ a :: b :: c :: d :: e :: x :: r := .tail _ (.tail _ (.tail _ (.tail _ (.tail _ (.head _)))))
theorem news_mem6 {h₀ h : Heap} {L : Addr} {a b c d e f x : Addr × Obj} {r : List (Addr × Obj)} (_ : News h₀ L h (a :: b :: c :: d :: e :: f :: x :: r)) : x ∈ a :: b :: c :: d :: e :: f :: x :: r := .tail _ (.tail _ (.tail _ (.tail _ (.tail _ (.tail _ (.head _))))))
local macro_rules | `(tactic| walk_at "subscriptTail Name Name ref int") => `(tactic| (k_here; k_dflt (refine' m_itemV ?N ?a ?h0 ?h1 ?x ?_ ?s ?t; (case N => k_asm); (case a => k_mem); (case h0 => omega); (case h1 => omega); (case x => assumption); (case s => with_unfolding_all rfl); (case t => (intro _; with_unfolding_all rfl)); k_whole)))
local macro_rules | `(tactic| walk_at "getMethod ref") => `(tactic| (k_here; k_dflt (first
  | ((with_reducible show wpAny _ _ (getMethod (Value.ref _) (PySem.Str.ofString "pop") _) _ _ _); (refine' m_meth ?N ?m PySem.F.slot_list_pop PySem.F.type_list_pop ?_; (case N => k_asm); (case m => k_mem)))
  | ((with_reducible show wpAny _ _ (getMethod (Value.ref _) (PySem.Str.ofString "append") _) _ _ _); (refine' m_meth ?N ?m PySem.F.slot_list_append PySem.F.type_list_append ?_; (case N => k_asm); (case m => k_mem))))))
local macro_rules | `(tactic| walk_at "call builtin:list.pop") => `(tactic| (k_here; k_dflt (first
  | ((with_reducible show wpAny _ _ (call (Value.builtin _) [Value.ref _]) _ _ _); refine' m_pop ?F ?N ?U ?z ?_; (case F => k_asm); (case N => k_asm); (case U => k_upd); (case z => omega); k_whole)
  | ((with_reducible show wpAny _ _ (call (Value.builtin _) [Value.ref _, Value.int _ _]) _ _ _); refine' m_pop0 ?F ?N ?U ?z ?_; (case F => k_asm); (case N => k_asm); (case U => k_upd); (case z => omega); k_whole)); intro h' F' N'; (try k_sweep)))
local macro_rules | `(tactic| walk_at "call builtin:list.append") => `(tactic| (k_here; k_dflt (refine' m_append ?F ?N ?U ?z ?_; (case F => k_asm); (case N => k_asm); (case U => k_upd); (case z => omega); k_whole); intro h' F' N'; (try k_sweep)))
local macro_rules | `(tactic| walk_at "exec For Name Name cons nil") => `(tactic| (k_here; (rename Fr _ _ _ _ => lF'); (with_unfolding_all refine' For_invVF lF' ?k1 ?k2 ?_; (case k1 => exact rfl); (case k2 => exact rfl); k_whole)))
local macro_rules | `(tactic| walk_at "pyIter ref") => `(tactic| (k_here; refine Hold.out ?_))
set_option maxRecDepth 100000 in
set_option maxHeartbeats 8000000 in
theorem tBand {w : World} {mean : ExcName → Option Value} {mg mb : Str → Option Value} : ∀ d, Spec PySem.Challenge.pw_bd5016_01 w (hd.heap_39 w.params) hd.view_39 (looseW hd.view_39 []) mean mg mb 134 cBand d := by
  intro d
  unfold Spec
  intro dp un gd cn cs a ccd cl outer A₀ base h₀ L m news s vs Q E B F X N T hk hR hok hd hu hret
  cases hR
  rename_i al V k hal hV
  obtain ⟨ho1, ho2⟩ := hok
  dsimp only at hd hu
  refine wpAny_call ?_
  k_dflt (refine' code_defC ?k1 ?k2 ?k3 ?k4 ?k5 ?kA ?kF ?kK ?k6 ?k7 ?k8 ?k9 ?kB ?kD ?_ ?c2 ?c3 ?c4; (case kA => exact rfl); (case kF => exact rfl); (case kK => assumption); (case k1 => k_asm); (case k2 => k_asm); (case k3 => k_asm); (case k4 => k_asm); (case k5 => k_asm); (case k6 => k_is); (case k7 => k_is); (case k8 => ktr_room); (case k9 => exact BindsTo.of_eq rfl); (case kB => exact rfl); (case kD => decide +kernel); (case c2 => exact rfl); (case c3 => exact rfl); (case c4 => exact rfl); k_whole)
  intro g' L' h' tk' cells' FG' F' N' Y' B' X' T' l1
  (try k_lt l1)
  k_cells Y'
  (try simp only [List.cons_append, List.nil_append] at N')
  (try dsimp only)
  (try k_fold)
  k_steps
  show wpAny _ _ _ _ _ _
  refine band_loop (c1 := L' + 1 + 1) (c2 := L' + 1) rfl hal hV ho1 ho2 (by k_asm) (by k_asm) (by kd_above) (allNe_of_lt (by assumption) (by omega)) (allNe_of_lt (by assumption) (by omega)) rfl ⟨_, by assumption⟩ ⟨_, by assumption⟩ ?_ ?_
  · intro B bs nb o1 o2 led0 own v leaf u h tk hB h7 hbl hv hleaf hc1 hc2 hb1 hb2 hb3 F N
    obtain ⟨hf1, hf2, hf3⟩ := hleaf
    cases hv
    rename_i al' W kl' hml' hW
    cases leaf with
    | nil => exact absurd hf1 (by decide)
    | cons r0 rs =>
    cases hW
    rename_i v0 W' hv0 hW'
    cases hv0
    rename_i a0 V0 k0 hm0 hd0
    have hrs : W'.length = rs.length := hW'.length
    rw [List.length_cons] at hf1 hf2
    have hm1 : (al', listOf ((Value.ref a0) :: W').toArray kl') ∈ led0 ++ own := List.mem_append.mpr (.inl hml')
    have hm2 : (a0, listOf V0.toArray k0) ∈ led0 ++ own := List.mem_append.mpr (.inl hm0)
    obtain ⟨cv1, hcv1⟩ := hc1
    obtain ⟨cv2, hcv2⟩ := hc2
    have hr07 : r0.length = 7 := hf3 r0 (.head _)
    rcases List.eq_nil_or_concat bs with rfl | ⟨bs', last, ebs⟩
    · cases hB
      (try k_fold)
      k_steps
      show LCg.CompSrc _ _ _ _ _ _ _ _ _ _ _ _ _ _
      refine LCg.CompSrc.ledger (by rfl) (by k_asm) (by k_asm) (by k_mem) (by rw [sizeLine_eq, List.size_toArray, List.length_cons]; omega) ?_
      intro g9
      refine rest_copy (.inr ⟨_, by k_mem, rfl, _, rfl⟩) ?_ ?_
      · intro v I oI C oC D m₂ ys h tk E' hC hx F N
        (try k_fold)
        k_steps
        exact ⟨rfl, _, _, rfl, by k_asm, by k_asm⟩
      · show LCg.FinA _ _ _ _ _ _ _ _
        unfold LCg.FinA
        intro D h tk F N o1
        have q0 := off1_mem o1
        have q1 := q0 _ (List.Mem.head _)
        have q2 := q0 _ (List.Mem.tail _ (List.Mem.head _))
        have q3 := q0 _ (List.Mem.tail _ (List.Mem.tail _ (List.Mem.head _)))
        have q4 : ∀ p ∈ led0 ++ own, p.1 ≠ D := fun p hp => q0 p (List.Mem.tail _ (List.Mem.tail _ (List.Mem.tail _ hp)))
        dsimp only at q1 q2 q3
        (try dsimp only)
        (try k_fold)
        k_steps
        exact ⟨rfl, _, _, _, _, _, _, _, [], rfl, by k_asm, cb_drop (by k_asm) (fun _ hp => List.Mem.tail _ hp), fun _ h => absurd h List.not_mem_nil, ⟨_, by assumption⟩, ⟨_, by assumption⟩, RowsIn.cons (RowIn.mk _ _ _ _ hm0 hd0) hW', rfl, fun z z1 z2 z3 => by simp only [if_neg z1, if_neg z2, if_neg z3]⟩
    · rw [List.concat_eq_append] at ebs
      subst ebs
      have hB0 := hB
      obtain ⟨P, yl, rfl, hP, hyl⟩ := RowsIn.snoc hB
      cases hyl
      rename_i al2 Vl kl hml hdl
      have h7l : last.length = 7 := h7 last (List.mem_append.mpr (.inr (.head _)))
      obtain ⟨Wl, z, rfl, hWl, hz⟩ := last_split hdl h7l
      have hm3 : (al2, listOf (Wl ++ [z]).toArray kl) ∈ led0 ++ own := List.mem_append.mpr (.inl hml)
      have hPl : P.length ≤ 140 := by
        have e1 := hP.length
        rw [List.length_append] at hbl
        omega
      generalize hc : last.getD 6 none = c at hz
      cases c with
      | some i6 =>
        cases hz
        (try k_fold)
        k_steps
        show LCg.CompSrc _ _ _ _ _ _ _ _ _ _ _ _ _ _
        refine LCg.CompSrc.ledger (by rfl) (by k_asm) (by k_asm) (by k_mem) (by rw [sizeLine_eq, List.size_toArray, List.length_cons]; omega) ?_
        intro g9
        refine rest_copy (.inr ⟨_, by k_mem, rfl, _, rfl⟩) ?_ ?_
        · intro v I oI C oC D m₂ ys h tk E' hC hx F N
          (try k_fold)
          k_steps
          exact ⟨rfl, _, _, rfl, by k_asm, by k_asm⟩
        · show LCg.FinA _ _ _ _ _ _ _ _
          unfold LCg.FinA
          intro D h tk F N o1
          have q0 := off1_mem o1
          have q1 := q0 _ (List.Mem.head _)
          have q2 := q0 _ (List.Mem.tail _ (List.Mem.head _))
          have q3 := q0 _ (List.Mem.tail _ (List.Mem.tail _ (List.Mem.head _)))
          have q4 : ∀ p ∈ led0 ++ own, p.1 ≠ D := fun p hp => q0 p (List.Mem.tail _ (List.Mem.tail _ (List.Mem.tail _ hp)))
          dsimp only at q1 q2 q3
          (try dsimp only)
          (try k_fold)
          k_steps
          exact ⟨rfl, _, _, _, _, _, _, _, [], rfl, by k_asm, cb_drop (by k_asm) (fun _ hp => List.Mem.tail _ hp), fun _ h => absurd h List.not_mem_nil, ⟨_, by assumption⟩, ⟨_, by assumption⟩, by rw [open_some (leaf := r0) hc]; exact RowsIn.append hB0 (RowsIn.cons (RowIn.mk _ _ _ _ hm0 hd0) hW'), rfl, fun z z1 z2 z3 => by simp only [if_neg z1, if_neg z2, if_neg z3]⟩
      | none =>
        cases hz
        (try k_fold)
        k_steps
        show LCg.CompSrc _ _ _ _ _ _ _ _ _ _ _ _ _ _
        refine LCg.CompSrc.ledger (by rfl) (by k_asm) (by k_asm) (by k_mem) (by rw [sizeLine_eq, List.size_toArray, List.length_cons]; omega) ?_
        intro g9
        refine rest_copy (.inr ⟨_, by k_mem, rfl, _, rfl⟩) ?_ ?_
        · intro v I oI C oC D m₂ ys h tk E' hC hx F N
          (try k_fold)
          k_steps
          exact ⟨rfl, _, _, rfl, by k_asm, by k_asm⟩
        · show LCg.FinA _ _ _ _ _ _ _ _
          unfold LCg.FinA
          intro D h tk F N o1
          have q0 := off1_mem o1
          have q1 := q0 _ (List.Mem.head _)
          have q2 := q0 _ (List.Mem.tail _ (List.Mem.head _))
          have q3 := q0 _ (List.Mem.tail _ (List.Mem.tail _ (List.Mem.head _)))
          have q4 : ∀ p ∈ led0 ++ own, p.1 ≠ D := fun p hp => q0 p (List.Mem.tail _ (List.Mem.tail _ (List.Mem.tail _ hp)))
          dsimp only at q1 q2 q3
          (try dsimp only)
          (try k_fold)
          k_steps
          show LCg.CompSrc _ _ _ _ _ _ _ _ _ _ _ _ _ _
          refine LCg.CompSrc.range (n := 7) (by rfl) (by k_asm) (by k_asm) (by assumption) (by decide) (by rfl) (by rw [sizeLine_eq]; omega) ?_
          intro g8
          refine rest_flat (fun i => cellD (if (last.getD i none).isNone then r0.getD i none else last.getD i none)) ?_ ?_
          · intro i t I oI C oC D2 m₂ ys h tk E' hi hC hx F N
            have hmc1 := news_mem5 N
            have hmc2 := news_mem6 N
            obtain ⟨vl, hvl, hdl2⟩ := cell_at hdl (i := i) (by omega)
            obtain ⟨vf, hvf, hdf2⟩ := cell_at hd0 (i := i) (by omega)
            have e0 : (0 + (i : Int)).toNat = i := by omega
            rw [← e0] at hvl hvf
            have hi0 : 0 ≤ 0 + (i : Int) ∧ 0 + (i : Int) < 7 := by omega
            have g1 : last.getD i none = last[i]'(by omega) := by rw [List.getD_eq_getElem?_getD, List.getElem?_eq_getElem (by omega)]; rfl
            have g2 : r0.getD i none = r0[i]'(by omega) := by rw [List.getD_eq_getElem?_getD, List.getElem?_eq_getElem (by omega)]; rfl
            rw [← g1] at hdl2
            rw [← g2] at hdf2
            rcases hcl : last.getD i none with _ | j9
            · rw [hcl] at hdl2
              cases hdl2
              (try k_fold)
              k_steps
              exact ⟨hdf2, _, _, rfl, by k_asm, by k_asm⟩
            · rw [hcl] at hdl2
              cases hdl2
              (try k_fold)
              k_steps
              exact ⟨DatIn.int _ _, _, _, rfl, by k_asm, by k_asm⟩
          · intro ys hys
            show LCg.FinE _ _ _ _ _ _ _
            unfold LCg.FinE
            intro D2 h tk F N o2
            have p0 := off1_mem o2
            have p1 := p0 _ (List.Mem.head _)
            have p2 := p0 _ (List.Mem.tail _ (List.Mem.head _))
            have p3 := p0 _ (List.Mem.tail _ (List.Mem.tail _ (List.Mem.head _)))
            have p4 := p0 _ (List.Mem.tail _ (List.Mem.tail _ (List.Mem.tail _ (List.Mem.head _))))
            have p5 : ∀ p ∈ led0 ++ own, p.1 ≠ D2 := fun p hp => p0 p (List.Mem.tail _ (List.Mem.tail _ (List.Mem.tail _ (List.Mem.tail _ hp))))
            dsimp only at p1 p2 p3 p4
            (try dsimp only)
            (try k_fold)
            k_steps
            rename News _ _ _ ((D2, _) :: _) => kN9
            refine ⟨rfl, _, _, _, _, _, _, _, [(D2, LCg.lst ys)], rfl, by k_asm, news_pull kN9, ?_, ⟨_, by assumption⟩, ⟨_, by assumption⟩, ?_, rfl, fun z z1 z2 z3 => by simp only [if_neg z1, if_neg z2, if_neg z3]⟩
            · intro p hp
              rw [List.mem_singleton.mp hp]
              exact ⟨by first | assumption | exact Ne.symm (by assumption), by first | assumption | exact Ne.symm (by assumption), by first | assumption | exact Ne.symm (by assumption), fun q hq => p5 q hq⟩
            · rw [open_none hc]
              refine RowsIn.append (RowsIn.append (hP.mono fun _ hp => List.mem_append.mpr (.inr hp)) (.cons (.mk _ ys _ _ (.head _) ?_) .nil)) (hW'.mono fun _ hp => List.mem_append.mpr (.inr hp))
              unfold mergeF
              rw [List.map_map]
              exact hys
  · intro B nb tl m₁ h tk ha hB hm1 hm2 F N
    have F2 := fr_named F hm1
    clear F
    (try dsimp only)
    (try k_fold)
    k_steps
    exact hret _ _ _ _ (by k_asm) (by k_asm) ha ⟨_, B, nb, rfl, .head _, hB⟩
end Mine
namespace Mine
theorem resetBPure : True ∧ True := by
  w_top off
  (try walk1)
  all_goals first | trivial | exact ⟨trivial, trivial⟩
theorem fillBPure : (fun (_ : PySem.Challenge.rw_bd5016_01 = PySem.Challenge.rw_bd5016_01) => hd.heap_39) = fun _ => hd.heap_39 := by
  w_top off
  k_fill
  rfl
local macro_rules | `(tactic| walk_at "binaryOp Div int int") => `(tactic| (k_here; k_dflt ((refine' m_div ?hh ?hb ?_); (case hh => rfl); (case hb => first | (unfold FqOk; omega) | exact fq_parts (by omega) (by omega)); k_whole)))
local macro_rules | `(tactic| walk_at "call builtin:math.floor") => `(tactic| (k_here; (with_reducible show wpAny _ _ (call _ [Value.float (fq _ _) _]) _ _ _); k_dflt ((refine' m_floor ?hh ?hb ?_); (case hh => rfl); (case hb => first | (unfold FqOk; omega) | exact fq_parts (by omega) (by omega)); k_whole)))
local macro_rules | `(tactic| walk_at "binaryOp Add float int") => `(tactic| (k_here; first
  | ((with_reducible show wpAny _ _ (binaryOp _ (Value.float (fl _) _) _) _ _ _); k_dflt ((refine' m_add_fi ?ha ?hb ?_); (case ha => (unfold FlOk; omega)); (case hb => omega); k_whole))
  | ((with_reducible show wpAny _ _ (binaryOp _ (Value.float 4689722129631936512 _) _) _ _ _); k_dflt ((refine' m_add_ei ?hb ?_); (case hb => omega); k_whole))))
local macro_rules | `(tactic| walk_at "inplaceOp Add float int") => `(tactic| (k_here; (with_reducible show wpAny _ _ (inplaceOp _ (Value.float (fl _) _) _) _ _ _); k_dflt ((refine' m_iadd_fi ?hh ?ha ?hb ?_); (case hh => rfl); (case ha => (unfold FlOk; omega)); (case hb => omega); k_whole)))
local macro_rules | `(tactic| walk_at "call type:int") => `(tactic| (k_here; (with_reducible show wpAny _ _ (call _ [Value.float (fl _) _]) _ _ _); k_dflt ((refine' m_int ?hh ?ha ?_); (case hh => rfl); (case ha => (unfold FlOk; omega)); k_whole)))
local macro_rules | `(tactic| walk_at "call builtin:math.trunc") => `(tactic| (k_here; (with_reducible show wpAny _ _ (call _ [Value.float (fl _) _]) _ _ _); k_dflt ((refine' m_trunc ?hh ?ha ?_); (case hh => rfl); (case ha => (unfold FlOk; omega)); k_whole)))
local macro_rules | `(tactic| walk_at "binaryOp Add int float") => `(tactic| (k_here; (with_reducible show wpAny _ _ (binaryOp _ (Value.int _ _) (Value.float 4602678819172646912 _)) _ _ _); k_dflt ((refine' m_add_ih ?hb ?_); (case hb => omega); k_whole)))
local macro_rules | `(tactic| walk_at "binaryOp Add float float") => `(tactic| (k_here; (with_reducible show wpAny _ _ (binaryOp _ (Value.float (fl _) _) (Value.float 4602678819172646912 _)) _ _ _); k_dflt ((refine' m_add_fh ?ha ?_); (case ha => (unfold FlOk; omega)); k_whole)))
local macro_rules | `(tactic| walk_at "binaryOp Sub float float") => `(tactic| (k_here; (with_reducible show wpAny _ _ (binaryOp _ (Value.float (fl _) _) (Value.float (fl _) _)) _ _ _); k_dflt ((refine' m_sub_ff ?ha ?hb ?hc ?_); (case ha => omega); (case hb => omega); (case hc => omega); k_whole)))
local macro_rules | `(tactic| walk_at "compareOp NotEq float int") => `(tactic| (k_here; (with_reducible show wpAny _ _ (compareOp _ (Value.float (fl _) _) _) _ _ _); k_dflt ((refine' m_ne_fi ?ha ?_); (case ha => (unfold FlOk; omega)); k_whole)))
local macro_rules | `(tactic| walk_at "compareOp Eq float int") => `(tactic| (k_here; (with_reducible show wpAny _ _ (compareOp _ (Value.float (fl _) _) _) _ _ _); k_dflt ((refine' m_eq_fi ?ha ?_); (case ha => (unfold FlOk; omega)); k_whole)))
local macro_rules | `(tactic| walk_at "binaryOp Mod float int") => `(tactic| (k_here; (with_reducible show wpAny _ _ (binaryOp _ (Value.float (fl (2 * _)) _) (Value.int 10 _)) _ _ _); k_dflt ((refine' m_mod ?hh ?hb ?_); (case hh => rfl); (case hb => (unfold SizeOk; omega)); k_whole)))
local macro_rules | `(tactic| walk_at "binaryOp Mod int int") => `(tactic| (k_here; k_dflt (refine' m_modE ?b ?_; (case b => omega); k_whole)))
local macro_rules | `(tactic| walk_at "binaryOp Mult ref int") => `(tactic| (k_here; k_dflt (refine' m_mulN ?F ?N ?a ?b ?c ?_; (case F => k_asm); (case N => k_asm); (case a => k_mem); (case b => (first | omega | ((simp only [List.length_append, List.length_replicate]); omega) | ((have hl9 := IntsAre.length (by assumption)); (simp only [List.length_append, List.length_replicate, rangeKs_length] at *); omega))); (case c => (first | omega | ((simp only [List.length_append, List.length_replicate]); omega) | ((have hl9 := IntsAre.length (by assumption)); (simp only [List.length_append, List.length_replicate, rangeKs_length] at *); omega))); k_whole); intro D' h' F' N' l1; (try k_lt l1); (try k_sweep)))
local macro_rules | `(tactic| walk_at "binaryOp Mult int ref") => `(tactic| (k_here; k_dflt (refine' m_mulNr ?F ?N ?a ?b ?c ?_; (case F => k_asm); (case N => k_asm); (case a => k_mem); (case b => (first | omega | ((simp only [List.length_append, List.length_replicate]); omega) | ((have hl9 := IntsAre.length (by assumption)); (simp only [List.length_append, List.length_replicate, rangeKs_length] at *); omega))); (case c => (first | omega | ((simp only [List.length_append, List.length_replicate]); omega) | ((have hl9 := IntsAre.length (by assumption)); (simp only [List.length_append, List.length_replicate, rangeKs_length] at *); omega))); k_whole); intro D' h' F' N' l1; (try k_lt l1); (try k_sweep)))
local macro_rules | `(tactic| walk_at "binaryOp Add ref ref") => `(tactic| (k_here; k_dflt (refine' m_addL ?F ?N ?a ?b ?c ?_; (case F => k_asm); (case N => k_asm); (case a => k_mem); (case b => k_mem); (case c => (first | omega | ((simp only [List.length_append, List.length_replicate]); omega) | ((have hl9 := IntsAre.length (by assumption)); (simp only [List.length_append, List.length_replicate, rangeKs_length] at *); omega))); k_whole); intro D' h' F' N' l1; (try k_lt l1); (try k_sweep)))
local macro_rules | `(tactic| walk_at "eval ListComp") => `(tactic| (k_here; k_dflt (refine comp_steps (by k_asm) (by with_unfolding_all rfl) (by decide) (by rfl) (by decide) (by rfl) ?_ (by intro _; rfl))))
local macro_rules | `(tactic| k_all) => `(tactic| exact allNe_of_lt (by assumption) (by omega))
local macro_rules | `(tactic| walk_at "subscriptTail Name Slice ref ref") => `(tactic| (k_here; k_dflt (refine' m_slice ?F ?N ?a ?d ?x ?y ?z ?_ ?s ?t; (case F => k_asm); (case N => k_asm); (case a => first | with_reducible assumption | k_mem); (case d => assumption); (case x => omega); (case y => omega); (case z => assumption); (case s => with_unfolding_all rfl); (case t => (intro _; with_unfolding_all rfl)); k_whole); intro D' ws' h' F' N' l1 hW'; (try k_sweep)))
local macro_rules | `(tactic| walk_at "eval Name") => `(tactic| (k_here; (with_reducible show wpAny _ _ (eval (Expr.Name _ _) (compEnvC _ _ _ _)) _ _ _); k_dflt (first
  | refine LCgL.ld_own (by k_asm) (by first | exact List.Mem.tail _ (List.Mem.head _) | exact List.Mem.tail _ (List.Mem.tail _ (List.Mem.head _))) (by with_reducible assumption) (by with_reducible assumption) ?_
  | refine kcf_cell (by k_asm) (by rfl) (by with_reducible assumption) (by with_reducible assumption) ?_)))
local macro_rules | `(tactic| walk_at "call builtin:len") => `(tactic| (k_here; k_dflt (refine' m_len ?N ?a ?c ?_; (case N => k_asm); (case a => k_mem); (case c => first | omega | ((simp only [List.length_append, List.length_replicate]); omega)); k_whole)))
local macro_rules | `(tactic| k_mem) => `(tactic| ((repeat (refine' List.Mem.tail _ ?_)); assumption))
def cellsT (p n : Nat) : List Cell := List.replicate p none ++ (rangeKs 1 n).map some
def fullT (cs : List Cell) : List Cell := cs ++ List.replicate (-(cs.length : Int) % 7).toNat none
def rowsT (cs : List Cell) : List Rw := (List.range (((fullT cs).length + 6) / 7)).map fun i => ((fullT cs).drop (7 * i)).take 7
theorem full_D (cs : List Cell) : (fullT cs).map cellD = lawD (cs.map cellD) := by
  unfold fullT lawD
  rw [List.map_append, List.map_replicate, List.length_map]
  rfl
theorem rowsT_D (cs : List Cell) : (rowsT cs).map rowD = lawF (cs.map cellD) := by
  unfold rowsT lawF rowsN
  rw [← full_D, List.length_map, List.map_map]
  refine List.map_congr_left fun i _ => ?_
  show Dat.list _ = Dat.list _
  unfold chunk
  rw [List.map_take, List.map_drop]
theorem help_rows {q ml : Int} (h0 : 0 ≤ q) (h1 : q < 7) (h2 : ml = 29 ∨ ml = 30) : rowsN (helpD q ml) ((q + ml + 6) / 7).toNat = (rowsT (cellsT q.toNat ml.toNat)).map rowD := by
  have h3 : q = 0 ∨ q = 1 ∨ q = 2 ∨ q = 3 ∨ q = 4 ∨ q = 5 ∨ q = 6 := by omega
  rcases h2 with rfl | rfl <;> rcases h3 with rfl | rfl | rfl | rfl | rfl | rfl | rfl <;> kernel_rfl
def monthsL (y : Int) : List Int := if leapF y = true then [7, 8, 9, 10, 11, 12, 13, 1, 2, 3, 4, 5, 6] else [7, 8, 9, 10, 11, 12, 1, 2, 3, 4, 5, 6]
def sizesL (y : Int) : List Int := (monthsL y).map (mlF y)
def sizesZ (y : Int) : List Int := sizesL y ++ [30]
def leavesT : Int → List Int → List (List Rw)
  | _, [] => []
  | p, n :: r => rowsT (cellsT p.toNat n.toNat) :: leavesT ((p + n) % 7) r
def flatT (l : List Int) : List Cell := l.flatMap fun n => (rangeKs 1 n.toNat).map some
def sixT : List (List Int) := [[30, 29, 29, 29, 30, 29, 30, 29, 30, 29, 30, 29, 30], [30, 29, 30, 29, 30, 29, 30, 29, 30, 29, 30, 29, 30], [30, 30, 30, 29, 30, 29, 30, 29, 30, 29, 30, 29, 30],
  [30, 29, 29, 29, 30, 30, 29, 30, 29, 30, 29, 30, 29, 30], [30, 29, 30, 29, 30, 30, 29, 30, 29, 30, 29, 30, 29, 30], [30, 30, 30, 29, 30, 30, 29, 30, 29, 30, 29, 30, 29, 30]]
theorem leavesT_len : ∀ (p : Int) (l : List Int), (leavesT p l).length = l.length
  | _, [] => rfl
  | p, n :: r => by unfold leavesT; rw [List.length_cons, List.length_cons, leavesT_len]
theorem leaf_get : ∀ (l : List Int) (p : Int) (i : Nat) (hi : i < l.length), 0 ≤ p → p < 7 → (leavesT p l)[i]? = some (rowsT (cellsT ((p + (l.take i).sum) % 7).toNat (l[i]'hi).toNat))
  | [], _, _, hi, _, _ => absurd hi (Nat.not_lt_zero _)
  | n :: r, p, 0, hi, h0, h1 => by
    unfold leavesT
    rw [List.take_zero, List.sum_nil, List.getElem?_cons_zero, List.getElem_cons_zero, show (p + 0) % 7 = p by omega]
  | n :: r, p, i + 1, hi, h0, h1 => by
    unfold leavesT
    rw [List.getElem?_cons_succ, leaf_get r ((p + n) % 7) i (by simpa using hi) (by omega) (by omega), List.take_succ_cons, List.sum_cons, List.getElem_cons_succ,
      show ((p + n) % 7 + (r.take i).sum) % 7 = (p + (n + (r.take i).sum)) % 7 by omega]
theorem six_two : (sixT.all fun l => l.all fun n => decide (29 ≤ n) && decide (n ≤ 30)) = true := by decide
theorem getD_rep (n k : Nat) : (List.replicate n (none : Cell)).getD k none = none := by
  simp [List.getD_eq_getElem?_getD, List.getElem?_replicate]; split <;> rfl
theorem fullT_len (cs : List Cell) : (fullT cs).length = 7 * ((cs.length + 6) / 7) := by
  unfold fullT; rw [List.length_append, List.length_replicate]; omega
theorem rowsT_eq (cs : List Cell) : rowsT cs = (List.range ((cs.length + 6) / 7)).map fun i => ((fullT cs).drop (7 * i)).take 7 := by
  unfold rowsT; rw [fullT_len]
  congr 2; omega
theorem fullT_app {A B : List Cell} (h : A.length % 7 = 0) : fullT (A ++ B) = A ++ fullT B := by
  unfold fullT
  rw [List.length_append, List.append_assoc, show (-((A.length + B.length : Nat) : Int) % 7) = (-(B.length : Int) % 7) by omega]
theorem rowsT_app {A B : List Cell} (h : A.length % 7 = 0) : rowsT (A ++ B) = rowsT A ++ rowsT B := by
  have hA : fullT A = A := by
    have := fullT_app (A := A) (B := []) h
    rw [List.append_nil] at this
    rw [this]; unfold fullT; simp
  rw [rowsT_eq, rowsT_eq, rowsT_eq, fullT_app h, hA, List.length_append, show (A.length + B.length + 6) / 7 = (A.length + 6) / 7 + (B.length + 6) / 7 by omega, List.range_add, List.map_append, List.map_map]
  congr 1
  · refine List.map_congr_left fun i hi => ?_
    rw [List.mem_range] at hi
    rw [List.drop_append_of_le_length (by omega), List.take_append_of_le_length (by rw [List.length_drop]; omega)]
  · refine List.map_congr_left fun i hi => ?_
    show List.take 7 (List.drop (7 * ((A.length + 6) / 7 + i)) (A ++ fullT B)) = _
    rw [show 7 * ((A.length + 6) / 7 + i) = A.length + 7 * i by omega, List.drop_append, List.drop_eq_nil_of_le (by omega), List.nil_append]
    congr 2; omega
theorem rowsT_one {t : List Cell} (h0 : 0 < t.length) (h1 : t.length ≤ 7) : rowsT t = [fullT t] := by
  rw [rowsT_eq, show (t.length + 6) / 7 = 1 by omega]
  have := fullT_len t
  show [List.take 7 (List.drop (7 * 0) (fullT t))] = _
  rw [List.drop_zero, List.take_of_length_le (by omega)]
theorem fullT_getD (t : List Cell) (k : Nat) : (fullT t).getD k none = t.getD k none := by
  unfold fullT
  simp only [List.getD_eq_getElem?_getD, List.getElem?_append]
  split
  · rfl
  · rename_i h
    rw [List.getElem?_eq_none (l := t) (by omega), List.getElem?_replicate]
    split <;> rfl
theorem list7 {α : Type} (d : α) {l : List α} (h : l.length = 7) : (List.range 7).map (fun k => l.getD k d) = l := by
  refine List.ext_getElem (by simp [h]) fun i h1 h2 => ?_
  rw [List.getElem_map, List.getElem_range, List.getD_eq_getElem?_getD, List.getElem?_eq_getElem h2]; rfl
theorem merge_app {t D : List Cell} (h1 : t.length + D.length = 7) : mergeF (List.replicate t.length none ++ D) (fullT t) = t ++ D := by
  have h7 : (t ++ D).length = 7 := by rw [List.length_append, h1]
  rw [← list7 none h7]
  unfold mergeF
  refine List.map_congr_left fun k hk => ?_
  rw [fullT_getD]
  simp only [List.getD_eq_getElem?_getD]
  by_cases hkt : k < t.length
  · rw [List.getElem?_append_left (l₁ := t) hkt, List.getElem?_append_left (by rw [List.length_replicate]; exact hkt), List.getElem?_replicate, if_pos hkt]
    cases t[k]?.getD none <;> rfl
  · rw [List.getElem?_eq_none (l := t) (by omega), List.getElem?_append_right (l₁ := t) (by omega), List.getElem?_append_right (by rw [List.length_replicate]; omega), List.length_replicate]
    rfl
theorem split_at {α : Type} (l : List α) (k : Nat) (hk : k ≤ l.length) : ∃ a b, l = a ++ b ∧ a.length = k :=
  ⟨l.take k, l.drop k, (List.take_append_drop k l).symm, by rw [List.length_take]; omega⟩
/-- the band goes on: rows of the cells so far, joined by a leaf of days behind its pad -/
theorem join_rows {cs D : List Cell} {x : Cell} (h : cs.getLast? = some x) (hx : x ≠ none) (hD : 7 ≤ D.length) : joinF (rowsT cs) (rowsT (List.replicate (cs.length % 7) none ++ D)) = rowsT (cs ++ D) := by
  obtain ⟨A, t, rfl, hA⟩ := split_at cs (7 * (cs.length / 7)) (by omega)
  have hlen : (A ++ t).length = A.length + t.length := List.length_append
  have ht : t.length < 7 := by omega
  have hm : (A ++ t).length % 7 = t.length := by omega
  rw [hm]
  by_cases h0 : t = []
  · subst h0
    rw [List.append_nil] at *
    rw [rowsT_app (A := A) (B := D) (by omega)]
    show joinF (rowsT A) (rowsT (List.replicate 0 none ++ D)) = _
    rw [List.replicate_zero, List.nil_append]
    have hne : 0 < A.length := by cases A with | nil => cases h | cons _ _ => simp
    obtain ⟨A', r, rfl, hA'⟩ := split_at A (A.length - 7) (by omega)
    have hr : r.length = 7 := by have e3 : (A' ++ r).length = A'.length + r.length := List.length_append; omega
    have hfr : fullT r = r := by unfold fullT; rw [hr]; exact List.append_nil _
    rw [rowsT_app (A := A') (B := r) (by omega), rowsT_one (t := r) (by omega) (by omega), hfr]
    have hx6 : r.getD 6 none = x := by
      have e1 : r ≠ [] := by intro c; rw [c] at hr; cases hr
      have e2 : (A' ++ r).getLast? = r.getLast? := (by rw [List.getLast?_append]; cases hr2 : r.getLast? with | none => exact absurd (List.getLast?_eq_none_iff.mp hr2) e1 | some y => rfl)
      rw [e2, List.getLast?_eq_getElem?, hr] at h
      rw [List.getD_eq_getElem?_getD, h]; rfl
    cases x with
    | none => exact absurd rfl hx
    | some i => exact open_some (leaf := r) hx6
  · have ht0 : 0 < t.length := by cases t with | nil => exact absurd rfl h0 | cons _ _ => simp
    obtain ⟨D1, D2, rfl, hD1⟩ := split_at D (7 - t.length) (by omega)
    have e7 : t.length + D1.length = 7 := by omega
    have hp : (List.replicate t.length (none : Cell) ++ D1).length = 7 := by rw [List.length_append, List.length_replicate, e7]
    have hq : (t ++ D1).length = 7 := by rw [List.length_append, e7]
    rw [rowsT_app (A := A) (by omega), rowsT_one ht0 (by omega), ← List.append_assoc, rowsT_app (A := List.replicate t.length none ++ D1) (B := D2) (by omega), rowsT_one (t := List.replicate t.length none ++ D1) (by omega) (by omega), show fullT (List.replicate t.length none ++ D1) = List.replicate t.length none ++ D1 by unfold fullT; rw [hp]; exact List.append_nil _]
    rw [List.singleton_append, open_none (by rw [fullT_getD, List.getD_eq_getElem?_getD, List.getElem?_eq_none (by omega)]; rfl), merge_app e7]
    rw [show A ++ t ++ (D1 ++ D2) = A ++ ((t ++ D1) ++ D2) by simp only [List.append_assoc], rowsT_app (A := A) (by omega), rowsT_app (A := t ++ D1) (by omega), rowsT_one (t := t ++ D1) (by omega) (by omega), show fullT (t ++ D1) = t ++ D1 by unfold fullT; rw [hq]; exact List.append_nil _, List.append_assoc]
def daysT (n : Int) : List Cell := (rangeKs 1 n.toNat).map some
theorem daysT_len (n : Int) : (daysT n).length = n.toNat := by unfold daysT; rw [List.length_map, rangeKs_length]
theorem daysT_last {n : Int} (h : 0 < n) (cs : List Cell) : ∃ x : Cell, (cs ++ daysT n).getLast? = some x ∧ x ≠ none := by
  have hl := daysT_len n
  have hne : daysT n ≠ [] := by intro c; rw [c] at hl; simp at hl; omega
  rw [show (cs ++ daysT n).getLast? = (daysT n).getLast? by rw [List.getLast?_append]; cases hr2 : (daysT n).getLast? with | none => exact absurd (List.getLast?_eq_none_iff.mp hr2) hne | some y => rfl]
  unfold daysT at hne ⊢
  rw [List.getLast?_map]
  cases e : (rangeKs 1 n.toNat).getLast? with
  | none => rw [List.getLast?_eq_none_iff] at e; rw [e] at hne; exact absurd rfl hne
  | some y => exact ⟨some y, rfl, by simp⟩
theorem band_go : ∀ (l : List Int) (p : Int) (cs : List Cell), (∀ n ∈ l, 7 ≤ n) → p = (cs.length : Int) % 7 → (∃ x : Cell, cs.getLast? = some x ∧ x ≠ none) → (leavesT p l).foldl joinF (rowsT cs) = rowsT (cs ++ flatT l)
  | [], p, cs, _, _, _ => by
    unfold leavesT flatT
    rw [List.flatMap_nil, List.append_nil]; rfl
  | n :: r, p, cs, hn, hp, ⟨x, h1, h2⟩ => by
    have h7 : 7 ≤ n := hn n (.head _)
    unfold leavesT
    rw [List.foldl_cons, show rowsT (cellsT p.toNat n.toNat) = rowsT (List.replicate (cs.length % 7) none ++ daysT n) by unfold cellsT daysT; rw [show p.toNat = cs.length % 7 by omega], join_rows h1 h2 (by rw [daysT_len]; omega),
      band_go r _ (cs ++ daysT n) (fun k hk => hn k (.tail _ hk)) (by rw [List.length_append, daysT_len]; omega) (daysT_last (by omega) cs)]
    unfold flatT
    rw [List.flatMap_cons, List.append_assoc]; rfl
theorem band_eq {n : Int} {r : List Int} (h : ∀ k ∈ n :: r, 7 ≤ k) {p : Int} (h0 : 0 ≤ p) : bandF (leavesT p (n :: r)) = rowsT (List.replicate p.toNat none ++ flatT (n :: r)) := by
  have h7 : 7 ≤ n := h n (.head _)
  unfold bandF leavesT
  rw [List.foldl_cons, show joinF [] (rowsT (cellsT p.toNat n.toNat)) = rowsT (List.replicate p.toNat none ++ daysT n) from rfl,
    band_go r _ _ (fun k hk => h k (.tail _ hk)) (by rw [List.length_append, List.length_replicate, daysT_len]; omega) (daysT_last (by omega) _)]
  unfold flatT
  rw [List.flatMap_cons, List.append_assoc]; rfl
theorem rowsT_ok {q n : Nat} (hq : q < 7) (h1 : 29 ≤ n) (h2 : n ≤ 30) : RowsOk (rowsT (cellsT q n)) := by
  have hl : (cellsT q n).length = q + n := by unfold cellsT; rw [List.length_append, List.length_replicate, List.length_map, rangeKs_length]
  rw [rowsT_eq, hl]
  refine ⟨by rw [List.length_map, List.length_range]; omega, by rw [List.length_map, List.length_range]; omega, fun r hr => ?_⟩
  obtain ⟨i, hi, rfl⟩ := List.mem_map.mp hr
  rw [List.mem_range] at hi
  have hf := fullT_len (cellsT q n)
  rw [hl] at hf
  rw [List.length_take, List.length_drop]
  omega
theorem leavesT_ok : ∀ (l : List Int) (p : Int), (∀ k ∈ l, 29 ≤ k ∧ k ≤ 30) → 0 ≤ p → p < 7 → ∀ x ∈ leavesT p l, RowsOk x
  | [], _, _, _, _, _, hx => by cases hx
  | n :: r, p, h, h0, h1, x, hx => by
    have hn := h n (.head _)
    unfold leavesT at hx
    rcases List.mem_cons.mp hx with rfl | hx
    · exact rowsT_ok (by omega) (by omega) (by omega)
    · exact leavesT_ok r _ (fun k hk => h k (.tail _ hk)) (by omega) (by omega) x hx
theorem six_band {l : List Int} (h : l ∈ sixT) {p : Int} (h0 : 0 ≤ p) (h1 : p < 7) : bandF (leavesT p l) = rowsT (List.replicate p.toNat none ++ flatT l) ∧ ∀ x ∈ leavesT p l, RowsOk x := by
  have hk : ∀ k ∈ l, 29 ≤ k ∧ k ≤ 30 := by
    have k := List.all_eq_true.mp six_two l h
    simpa using k
  refine ⟨?_, leavesT_ok l p hk h0 h1⟩
  cases l with
  | nil => exact absurd h (by decide)
  | cons n r => exact band_eq (fun k hk' => by have := hk k hk'; omega) h0

-- the arithmetic of the years
theorem cnt_leap : ∀ n : Nat, n < 19 → (cnt leapF 1 n : Int) + 12 * n = (235 * ((n : Int) + 1) - 234) / 19 := by decide
theorem leap_per (a q : Int) : leapF (a + 19 * q) = leapF a := by
  unfold leapF
  rw [show ((a + 19 * q) * 7 + 1) % 19 = (a * 7 + 1) % 19 by omega]
theorem mol_eq (y : Int) : molL y = molF y := by
  unfold molL molF
  have h := cnt_leap ((y - 1) % 19).toNat (by omega)
  omega
theorem tish_char (y : Int) : tishL y = d1F y + d2F y + 1 := by
  have hp : (partL y / 25920 = dayF y ∧ partL y % 25920 = rhoF y + 19440 ∧ rhoF y < 6480) ∨ (partL y / 25920 = dayF y + 1 ∧ partL y % 25920 = rhoF y - 6480 ∧ 6480 ≤ rhoF y) := by
    unfold partL dayF rhoF
    rw [mol_eq]
    omega
  have hc := d2_char y
  have b1 := rho_bd y
  have a1 := adj_cases (dayF y)
  rw [d1_adj]
  unfold tishL adjL
  generalize adjE (dayF y) = e1 at *
  generalize d2F y = d2 at *
  generalize rhoF y = r1 at *
  generalize dayF y = D1 at *
  generalize partL y / 25920 = pd at *
  generalize partL y % 25920 = pr at *
  cases hl : leapF y <;> cases hl0 : leapF (y - 1) <;> rw [hl, hl0] at hc <;> simp only [hl, hl0, Bool.false_eq_true, Bool.true_eq_false, and_false, false_and, and_true, true_and, false_or, or_false, not_false_eq_true, if_false] at hc ⊢ <;> (repeat' split) <;> omega
theorem leap_size {y : Int} (_ : 1 ≤ y) (_ : y ≤ 9100) : (leapF y = false ∧ 353 ≤ sizeF y ∧ sizeF y ≤ 355) ∨ (leapF y = true ∧ 383 ≤ sizeF y ∧ sizeF y ≤ 385) := leap_size0 y
theorem tish_eq {y : Int} (_ : 1 ≤ y) (_ : y ≤ 9100) : tishL y = d1F y + d2F y + 1 := tish_char y
theorem size_tish {y : Int} (h1 : 1 ≤ y) (h2 : y ≤ 9000) : tishL (y + 1) - tishL y = sizeF y := by
  rw [tish_eq h1 (by omega), tish_eq (by omega) (by omega)]
  unfold sizeF
  omega
theorem sizes_six {y : Int} (h1 : 1 ≤ y) (h2 : y ≤ 9000) : sizesZ y ∈ sixT ∧ (sizesL y).sum = sizeF y := by
  have h := leap_size h1 (by omega)
  rcases h with ⟨hl, a, b⟩ | ⟨hl, a, b⟩
  · have hc : sizeF y = 353 ∨ sizeF y = 354 ∨ sizeF y = 355 := by omega
    rcases hc with hc | hc | hc <;> simp [sizesZ, sizesL, monthsL, mlF, hl, hc, sixT]
  · have hc : sizeF y = 383 ∨ sizeF y = 384 ∨ sizeF y = 385 := by omega
    rcases hc with hc | hc | hc <;> simp [sizesZ, sizesL, monthsL, mlF, hl, hc, sixT]
def leavesU : Int → List Int → List (List Rw)
  | _, [] => []
  | p, n :: r => rowsT (cellsT (p % 7).toNat n.toNat) :: leavesU (p + n) r
theorem leavesT_U : ∀ (l : List Int) (p : Int), leavesT (p % 7) l = leavesU p l
  | [], _ => rfl
  | n :: r, p => by
    unfold leavesT leavesU
    rw [show (p % 7 + n) % 7 = (p + n) % 7 by omega, leavesT_U r (p + n)]
theorem cons_row {A B n k : Int} {r r' : List (List Rw)} (h : A = B) (hn : n = k) (hr : r = r') : rowsT (cellsT A.toNat n.toNat) :: r = rowsT (cellsT B.toNat k.toNat) :: r' := by rw [h, hn, hr]
theorem jw_tish {y a K : Int} (h : a = jdF y + 2 * K) : (jwF a + 1) % 7 = (tishL y + K) % 7 := by
  have ht := tish_char y
  unfold jwF
  unfold jdF at h
  omega
theorem jd_7 (y : Int) : jdM y 7 = jdF y + 2 * 0 := by unfold jdM; rw [if_neg (by decide)]; rfl
theorem jd_hi (y : Int) (m : Int) (n : Nat) (h : ¬ m < 7) (e : (m - 7).toNat = n) : jdM y m = jdF y + 2 * sumS (mlF y) 7 n := by unfold jdM; rw [if_neg h, e]
theorem jd_lo (y : Int) (m : Int) (n k : Nat) (h : m < 7) (e : (m - 1).toNat = n) (e2 : (monthsF y + 1 - 7).toNat = k) : jdM y m = jdF y + 2 * (sumS (mlF y) 7 k + sumS (mlF y) 1 n) := by unfold jdM; rw [if_pos h, e, e2]; omega
theorem sum_hi (S : Int → Int) : sumS S 7 0 = 0 ∧ sumS S 7 1 = S 7 ∧ sumS S 7 2 = S 7 + S 8 ∧ sumS S 7 3 = S 7 + S 8 + S 9 ∧ sumS S 7 4 = S 7 + S 8 + S 9 + S 10 ∧ sumS S 7 5 = S 7 + S 8 + S 9 + S 10 + S 11 ∧ sumS S 7 6 = S 7 + S 8 + S 9 + S 10 + S 11 + S 12 ∧ sumS S 7 7 = S 7 + S 8 + S 9 + S 10 + S 11 + S 12 + S 13 := by simp [sumS]
theorem sum_lo (S : Int → Int) : sumS S 1 0 = 0 ∧ sumS S 1 1 = S 1 ∧ sumS S 1 2 = S 1 + S 2 ∧ sumS S 1 3 = S 1 + S 2 + S 3 ∧ sumS S 1 4 = S 1 + S 2 + S 3 + S 4 ∧ sumS S 1 5 = S 1 + S 2 + S 3 + S 4 + S 5 := by simp [sumS]
theorem mod_7 {a b : Int} (h : a = b) : a % 7 = b % 7 := by rw [h]
set_option maxHeartbeats 4000000 in
theorem leaves_eq {y : Int} (h1 : 1 ≤ y) (h2 : y ≤ 9000) :
    ((monthsL y).map fun m => rowsT (cellsT ((jwF (jdM y m) + 1) % 7).toNat (mlF y m).toNat)) ++ [rowsT (cellsT ((jwF (jdM (y + 1) 7) + 1) % 7).toNat (mlF (y + 1) 7).toNat)] = leavesT (tishL y % 7) (sizesZ y) := by
  rw [leavesT_U]
  have hsum := (sizes_six h1 h2).2
  have hst := size_tish h1 h2
  have h7 : mlF (y + 1) 7 = 30 := by simp [mlF]
  have sh := sum_hi (mlF y)
  have sl := sum_lo (mlF y)
  cases hl : leapF y
  · have hk : (monthsF y + 1 - 7).toNat = 6 := by simp [monthsF, hl]
    unfold sizesZ
    unfold sizesL at hsum ⊢
    rw [monthsL, if_neg (by rw [hl]; decide)] at hsum ⊢
    simp only [List.map_cons, List.map_nil, List.sum_cons, List.sum_nil, List.cons_append, List.nil_append, leavesU] at hsum ⊢
    refine (cons_row ((jw_tish (jd_7 y)).trans (mod_7 ?_)) rfl (cons_row ((jw_tish (jd_hi y 8 1 (by decide) rfl)).trans (mod_7 ?_)) rfl (cons_row ((jw_tish (jd_hi y 9 2 (by decide) rfl)).trans (mod_7 ?_)) rfl (cons_row ((jw_tish (jd_hi y 10 3 (by decide) rfl)).trans (mod_7 ?_)) rfl (cons_row ((jw_tish (jd_hi y 11 4 (by decide) rfl)).trans (mod_7 ?_)) rfl (cons_row ((jw_tish (jd_hi y 12 5 (by decide) rfl)).trans (mod_7 ?_)) rfl (cons_row ((jw_tish (jd_lo y 1 0 6 (by decide) rfl hk)).trans (mod_7 ?_)) rfl (cons_row ((jw_tish (jd_lo y 2 1 6 (by decide) rfl hk)).trans (mod_7 ?_)) rfl (cons_row ((jw_tish (jd_lo y 3 2 6 (by decide) rfl hk)).trans (mod_7 ?_)) rfl (cons_row ((jw_tish (jd_lo y 4 3 6 (by decide) rfl hk)).trans (mod_7 ?_)) rfl (cons_row ((jw_tish (jd_lo y 5 4 6 (by decide) rfl hk)).trans (mod_7 ?_)) rfl (cons_row ((jw_tish (jd_lo y 6 5 6 (by decide) rfl hk)).trans (mod_7 ?_)) rfl (cons_row ((jw_tish (jd_7 (y + 1))).trans (mod_7 ?_)) h7 rfl))))))))))))) <;> omega
  · have hk : (monthsF y + 1 - 7).toNat = 7 := by simp [monthsF, hl]
    unfold sizesZ
    unfold sizesL at hsum ⊢
    rw [monthsL, if_pos hl] at hsum ⊢
    simp only [List.map_cons, List.map_nil, List.sum_cons, List.sum_nil, List.cons_append, List.nil_append, leavesU] at hsum ⊢
    refine (cons_row ((jw_tish (jd_7 y)).trans (mod_7 ?_)) rfl (cons_row ((jw_tish (jd_hi y 8 1 (by decide) rfl)).trans (mod_7 ?_)) rfl (cons_row ((jw_tish (jd_hi y 9 2 (by decide) rfl)).trans (mod_7 ?_)) rfl (cons_row ((jw_tish (jd_hi y 10 3 (by decide) rfl)).trans (mod_7 ?_)) rfl (cons_row ((jw_tish (jd_hi y 11 4 (by decide) rfl)).trans (mod_7 ?_)) rfl (cons_row ((jw_tish (jd_hi y 12 5 (by decide) rfl)).trans (mod_7 ?_)) rfl (cons_row ((jw_tish (jd_hi y 13 6 (by decide) rfl)).trans (mod_7 ?_)) rfl (cons_row ((jw_tish (jd_lo y 1 0 7 (by decide) rfl hk)).trans (mod_7 ?_)) rfl (cons_row ((jw_tish (jd_lo y 2 1 7 (by decide) rfl hk)).trans (mod_7 ?_)) rfl (cons_row ((jw_tish (jd_lo y 3 2 7 (by decide) rfl hk)).trans (mod_7 ?_)) rfl (cons_row ((jw_tish (jd_lo y 4 3 7 (by decide) rfl hk)).trans (mod_7 ?_)) rfl (cons_row ((jw_tish (jd_lo y 5 4 7 (by decide) rfl hk)).trans (mod_7 ?_)) rfl (cons_row ((jw_tish (jd_lo y 6 5 7 (by decide) rfl hk)).trans (mod_7 ?_)) rfl (cons_row ((jw_tish (jd_7 (y + 1))).trans (mod_7 ?_)) h7 rfl)))))))))))))) <;> omega

-- what the law's walk asks
theorem cells_D (p n : Nat) : (cellsT p n).map cellD = List.replicate p Dat.none ++ (rangeKs 1 n).map Dat.int := by
  unfold cellsT
  rw [List.map_append, List.map_replicate, List.map_map]
  rfl
theorem leavesIn_of {led : List (Addr × Obj)} : ∀ {V : List Value} {ls : List (List Rw)}, DatAll led V (ls.map leafD) → LeavesIn led V ls
  | _, [], .nil => .nil
  | _, _ :: _, .cons h k => .cons (leafIn_of h) (leavesIn_of k)
theorem mc_rows (y m : Int) : Dat.list (mcF y m) = leafD (rowsT (cellsT ((jwF (jdM y m) + 1) % 7).toNat (mlF y m).toNat)) := by
  unfold mcF helpF leafD
  rw [help_rows (by omega) (by omega) (ml_bound y m)]
theorem range_getD {α β : Type} (l : List α) (d : α) (f : α → β) : ((List.range l.length).map fun i => f (l.getD i d)) = l.map f := by
  apply List.ext_getElem
  · simp
  · intro i h1 h2
    simp at h1 h2 ⊢
    rw [List.getElem?_eq_getElem h1]
    rfl
theorem leaves_in {nw tl : List (Addr × Obj)} {ys : List Value} {r9 : Value} {y : Int} {n : Nat} (hn : n = (monthsL y).length) (h1 : 1 ≤ y) (h2 : y ≤ 9000)
    (hy : DatAll nw ys ((List.range n).map fun i => Dat.list (mcF y ((monthsL y).getD i 0)))) (h9 : DatIn tl r9 (Dat.list (mcF (y + 1) 7))) : LeavesIn (nw ++ tl) (ys ++ [r9]) (leavesT (tishL y % 7) (sizesZ y)) := by
  rw [← leaves_eq h1 h2]
  refine leavesIn_of ?_
  subst hn
  rw [range_getD (monthsL y) 0 (fun m => Dat.list (mcF y m))] at hy
  rw [List.map_append, List.map_map]
  refine DatAll.append ?_ ?_
  · have e : (fun m => Dat.list (mcF y m)) = leafD ∘ fun m => rowsT (cellsT ((jwF (jdM y m) + 1) % 7).toNat (mlF y m).toNat) := by
      funext m
      exact mc_rows y m
    rw [e] at hy
    exact hy.mono fun p hp => List.mem_append.mpr (.inl hp)
  · rw [mc_rows] at h9
    exact DatAll.one (h9.mono fun p hp => List.mem_append.mpr (.inr hp))
def gD (y : Int) (i : Nat) : Int := tishL y + ((sizesZ y).take i).sum
def cK (y : Int) (i : Nat) : List Cell := List.replicate (tishL y % 7).toNat none ++ flatT ((sizesZ y).take i)
theorem gD0 (y : Int) : tishL y = gD y 0 := by
  unfold gD
  rw [List.take_zero, List.sum_nil]
  omega
theorem take_snoc {α : Type} {l : List α} {i : Nat} (hi : i < l.length) : l.take (i + 1) = l.take i ++ [l[i]] := by
  rw [List.take_add_one, List.getElem?_eq_getElem hi]
  rfl
theorem gD_succ {y : Int} {i : Nat} (hi : i < (sizesZ y).length) : gD y i + (sizesZ y)[i] = gD y (i + 1) := by
  unfold gD
  rw [take_snoc hi, List.sum_append, List.sum_cons, List.sum_nil]
  omega
theorem cK0 (y : Int) : DatAll [] (List.replicate (tishL y % 7).toNat Value.none) ((cK y 0).map cellD) := by
  have e : (cK y 0).map cellD = List.replicate (tishL y % 7).toNat Dat.none := by
    unfold cK
    rw [List.take_zero, List.map_append, List.map_replicate]
    show _ ++ [] = _
    rw [List.append_nil]
    rfl
  rw [e]
  exact datNone _ _
theorem cK_succ {y : Int} {i : Nat} (hi : i < (sizesZ y).length) : cK y (i + 1) = cK y i ++ (rangeKs 1 ((sizesZ y)[i]).toNat).map some := by
  unfold cK flatT
  rw [take_snoc hi, List.flatMap_append, ← List.append_assoc]
  congr 1
  simp
theorem cK_all (y : Int) : cK y (sizesZ y).length = List.replicate (tishL y % 7).toNat none ++ flatT (sizesZ y) := by
  unfold cK
  rw [List.take_length]
theorem six_flat : (sixT.all fun l => (List.range 15).all fun i => decide ((flatT (l.take i)).length ≤ 430)) = true := by decide +kernel
theorem six_len : (sixT.all fun l => decide (13 ≤ l.length) && decide (l.length ≤ 14)) = true := by decide
theorem six_len' {l : List Int} (h : l ∈ sixT) : 13 ≤ l.length ∧ l.length ≤ 14 := by
  have k := List.all_eq_true.mp six_len l h
  simpa using k
theorem size_two {y : Int} (h : sizesZ y ∈ sixT) {i : Nat} (hi : i < (sizesZ y).length) : 29 ≤ (sizesZ y)[i] ∧ (sizesZ y)[i] ≤ 30 := by
  have k := List.all_eq_true.mp (List.all_eq_true.mp six_two _ h) _ (List.getElem_mem hi)
  simpa using k
theorem cK_len {y : Int} (h : sizesZ y ∈ sixT) {i : Nat} (hi : i < 15) : (cK y i).length ≤ 440 := by
  have k := List.all_eq_true.mp (List.all_eq_true.mp six_flat _ h) i (List.mem_range.mpr hi)
  rw [decide_eq_true_eq] at k
  unfold cK
  rw [List.length_append, List.length_replicate]
  omega
theorem sizesZ_len (y : Int) : (sizesZ y).length = (monthsL y).length + 1 := by
  unfold sizesZ sizesL
  rw [List.length_append, List.length_map]
  rfl
theorem ints_at {V : List Value} {l : List Int} (h : IntsAre V l) {i : Nat} (hi : i < l.length) : ∃ t, V[((i : Nat) : Int).toNat]? = some (.int l[i] t) := by
  have q := datInts (led := []) h
  obtain ⟨v', h1, h2⟩ := q.get (k := i) (by rw [List.length_map]; exact hi)
  rw [List.getElem_map] at h2
  cases h2
  rw [Int.toNat_natCast]
  exact ⟨_, h1⟩
theorem ints_snoc {V : List Value} {l : List Int} {n : Int} {t : Tok} (h : IntsAre V l) : IntsAre (V ++ [.int n t]) (l ++ [n]) := by
  induction h with
  | nil => exact .cons n t .nil
  | cons m u _ ih => exact .cons m u ih
theorem month_size {y : Int} {i : Nat} (hi : i < (monthsL y).length) (hi2 : i < (sizesZ y).length) : mlF y (monthsL y)[i] = (sizesZ y)[i] := by
  have e : (sizesZ y)[i]? = some (mlF y (monthsL y)[i]) := by
    unfold sizesZ sizesL
    rw [List.getElem?_append_left (by rw [List.length_map]; exact hi), List.getElem?_map, List.getElem?_eq_getElem hi]
    rfl
  exact (Option.some.inj ((List.getElem?_eq_getElem hi2).symm.trans e)).symm
theorem leavesIn_at {led : List (Addr × Obj)} {V : List Value} {p : Int} {l : List Int} (h : LeavesIn led V (leavesT p l)) (h0 : 0 ≤ p) (h1 : p < 7) {i : Nat} (hi : i < l.length) :
    ∃ a W k, V[((i : Nat) : Int).toNat]? = some (.ref a) ∧ (a, listOf (List.toArray W) k) ∈ led ∧ DatAll led W ((rowsT (cellsT ((p + (l.take i).sum) % 7).toNat (l[i]).toNat)).map rowD) := by
  have hl := h.length
  rw [leavesT_len] at hl
  have hv : V[i]? = some (V[i]'(by omega)) := List.getElem?_eq_getElem (by omega)
  obtain ⟨r, e1, e2⟩ := leaf_at h hv
  rw [leaf_get l p i hi h0 h1] at e1
  cases e1
  rw [Int.toNat_natCast, hv]
  generalize V[i]'(by omega) = v at e2
  cases e2 with
  | mk a W k rs hm hW => exact ⟨a, W, k, rfl, hm, datAll_rows hW⟩
theorem row_eq {y S : Int} {i : Nat} (hi : i < (sizesZ y).length) (hS : S = (sizesZ y)[i]) :
    lawF (List.replicate (gD y i % 7).toNat Dat.none ++ (rangeKs 1 (S + 1 - 1).toNat).map Dat.int) = (rowsT (cellsT ((tishL y % 7 + ((sizesZ y).take i).sum) % 7).toNat ((sizesZ y)[i]).toNat)).map rowD := by
  rw [rowsT_D, cells_D, hS]
  unfold gD
  rw [show (tishL y + ((sizesZ y).take i).sum) % 7 = (tishL y % 7 + ((sizesZ y).take i).sum) % 7 by omega, show (sizesZ y)[i] + 1 - 1 = (sizesZ y)[i] by omega]
theorem end_eq {y : Int} (h : sizesZ y ∈ sixT) : (bandF (leavesT (tishL y % 7) (sizesZ y))).map rowD = lawF ((cK y (sizesZ y).length).map cellD) := by
  rw [(six_band h (by omega) (by omega)).1, cK_all, rowsT_D]
theorem row_ok (r : Rw) : kqdOk 8 (rowD r) = true := by
  unfold rowD
  simp only [kqdOk, List.all_eq_true, List.mem_map]
  rintro d ⟨c, _, rfl⟩
  cases c <;> rfl
theorem rows_ok {rs : List Rw} : ∀ d ∈ rs.map rowD, kqdOk 8 d = true := by
  intro d hd
  obtain ⟨r, _, rfl⟩ := List.mem_map.mp hd
  exact row_ok r
section
variable {prog : Program} {w : World} {A : Around} {E : Value → Shared → Prop} {s : Shared} {h₀ : Heap} {L a b : Addr} {news n₁ n₂ : List (Addr × Obj)} {xs ys : List Value} {ka kb : Nat} {rows : List Rw} {es : List Dat} {Q : Value → Shared → Prop}
open Classical in
theorem ne_rows (N : News h₀ L s.heap news) (ma : (a, listOf xs.toArray ka) ∈ news) (Da : DatAll n₁ xs (rows.map rowD)) (sa : ∀ p ∈ n₁, p ∈ news) (mb : (b, listOf ys.toArray kb) ∈ news) (Db : DatAll n₂ ys es) (sb : ∀ p ∈ n₂, p ∈ news)
    (he : es = rows.map rowD) (hu : A.units + 64 < cLine) (h : Q (.bool false) s) : wpAny (model prog w) A (compareOp .NotEq (.ref a) (.ref b)) Q E s := by
  subst he
  refine kqd_ne N ma rfl rfl Da sa mb rfl rfl Db sb rows_ok rows_ok hu ?_
  rw [decide_eq_true rfl]
  exact h
open Classical in
theorem eq_rows (N : News h₀ L s.heap news) (ma : (a, listOf xs.toArray ka) ∈ news) (Da : DatAll n₁ xs (rows.map rowD)) (sa : ∀ p ∈ n₁, p ∈ news) (mb : (b, listOf ys.toArray kb) ∈ news) (Db : DatAll n₂ ys es) (sb : ∀ p ∈ n₂, p ∈ news)
    (he : es = rows.map rowD) (hu : A.units + 64 < cLine) (h : Q (.bool true) s) : wpAny (model prog w) A (compareOp .Eq (.ref a) (.ref b)) Q E s := by
  subst he
  refine kqd_eq N ma rfl rfl Da sa mb rfl rfl Db sb rows_ok rows_ok hu ?_
  rw [decide_eq_true rfl]
  exact h
end
end Mine
namespace Mine
theorem resetBTry : True ∧ True := by
  w_top off
  (try walk1)
  all_goals first | trivial | exact ⟨trivial, trivial⟩
theorem fillBTry : (fun (_ : PySem.Challenge.rw_bd5016_01 = PySem.Challenge.rw_bd5016_01) => hd.heap_39) = fun _ => hd.heap_39 := by
  w_top off
  k_fill
  rfl
local macro_rules | `(tactic| walk_at "binaryOp Div int int") => `(tactic| (k_here; k_dflt ((refine' m_div ?hh ?hb ?_); (case hh => rfl); (case hb => first | (unfold FqOk; omega) | exact fq_parts (by omega) (by omega)); k_whole)))
local macro_rules | `(tactic| walk_at "call builtin:math.floor") => `(tactic| (k_here; (with_reducible show wpAny _ _ (call _ [Value.float (fq _ _) _]) _ _ _); k_dflt ((refine' m_floor ?hh ?hb ?_); (case hh => rfl); (case hb => first | (unfold FqOk; omega) | exact fq_parts (by omega) (by omega)); k_whole)))
local macro_rules | `(tactic| walk_at "binaryOp Add float int") => `(tactic| (k_here; first
  | ((with_reducible show wpAny _ _ (binaryOp _ (Value.float (fl _) _) _) _ _ _); k_dflt ((refine' m_add_fi ?ha ?hb ?_); (case ha => (unfold FlOk; omega)); (case hb => omega); k_whole))
  | ((with_reducible show wpAny _ _ (binaryOp _ (Value.float 4689722129631936512 _) _) _ _ _); k_dflt ((refine' m_add_ei ?hb ?_); (case hb => omega); k_whole))))
local macro_rules | `(tactic| walk_at "inplaceOp Add float int") => `(tactic| (k_here; (with_reducible show wpAny _ _ (inplaceOp _ (Value.float (fl _) _) _) _ _ _); k_dflt ((refine' m_iadd_fi ?hh ?ha ?hb ?_); (case hh => rfl); (case ha => (unfold FlOk; omega)); (case hb => omega); k_whole)))
local macro_rules | `(tactic| walk_at "call type:int") => `(tactic| (k_here; (with_reducible show wpAny _ _ (call _ [Value.float (fl _) _]) _ _ _); k_dflt ((refine' m_int ?hh ?ha ?_); (case hh => rfl); (case ha => (unfold FlOk; omega)); k_whole)))
local macro_rules | `(tactic| walk_at "call builtin:math.trunc") => `(tactic| (k_here; (with_reducible show wpAny _ _ (call _ [Value.float (fl _) _]) _ _ _); k_dflt ((refine' m_trunc ?hh ?ha ?_); (case hh => rfl); (case ha => (unfold FlOk; omega)); k_whole)))
local macro_rules | `(tactic| walk_at "binaryOp Add int float") => `(tactic| (k_here; (with_reducible show wpAny _ _ (binaryOp _ (Value.int _ _) (Value.float 4602678819172646912 _)) _ _ _); k_dflt ((refine' m_add_ih ?hb ?_); (case hb => omega); k_whole)))
local macro_rules | `(tactic| walk_at "binaryOp Add float float") => `(tactic| (k_here; (with_reducible show wpAny _ _ (binaryOp _ (Value.float (fl _) _) (Value.float 4602678819172646912 _)) _ _ _); k_dflt ((refine' m_add_fh ?ha ?_); (case ha => (unfold FlOk; omega)); k_whole)))
local macro_rules | `(tactic| walk_at "binaryOp Sub float float") => `(tactic| (k_here; (with_reducible show wpAny _ _ (binaryOp _ (Value.float (fl _) _) (Value.float (fl _) _)) _ _ _); k_dflt ((refine' m_sub_ff ?ha ?hb ?hc ?_); (case ha => omega); (case hb => omega); (case hc => omega); k_whole)))
local macro_rules | `(tactic| walk_at "compareOp NotEq float int") => `(tactic| (k_here; (with_reducible show wpAny _ _ (compareOp _ (Value.float (fl _) _) _) _ _ _); k_dflt ((refine' m_ne_fi ?ha ?_); (case ha => (unfold FlOk; omega)); k_whole)))
local macro_rules | `(tactic| walk_at "compareOp Eq float int") => `(tactic| (k_here; (with_reducible show wpAny _ _ (compareOp _ (Value.float (fl _) _) _) _ _ _); k_dflt ((refine' m_eq_fi ?ha ?_); (case ha => (unfold FlOk; omega)); k_whole)))
local macro_rules | `(tactic| walk_at "binaryOp Mod float int") => `(tactic| (k_here; (with_reducible show wpAny _ _ (binaryOp _ (Value.float (fl (2 * _)) _) (Value.int 10 _)) _ _ _); k_dflt ((refine' m_mod ?hh ?hb ?_); (case hh => rfl); (case hb => (unfold SizeOk; omega)); k_whole)))
section
variable {prog : Program} {w : World} {A₀ A : Around} {s : Shared} {base h₀ : Heap} {env : Env} {L : Addr} {m : Str → Option Value} {news : List (Addr × Obj)} {K : Frag} {p : Program} {loose : List Str} {mean : ExcName → Option Value} {mg mb : Str → Option Value}
    {R : Result → Shared → Prop} {name qual : Str} {params : Arguments} {body : List Stmt} {scope : Scope} {dV kV doc pm cdv ct oc : Value} {an od : Option Addr} {osl : Array (Option Value)} {f : Addr} {args : Args} {binds : List (Str × Value)}
theorem mem_one (hf : env.frame = some L) {b : Addr} (hm : b ∈ [env].filterMap (·.frame)) : b = L := by
  obtain ⟨e, he, h⟩ := List.mem_filterMap.mp hm
  rw [List.mem_singleton.mp he, hf] at h
  exact (Option.some.inj h).symm
/-- what a call leaves, seen from the caller: its own namespace may have got other slots, all below stays -/
theorem turn_frame {fs : List Addr} {g g' h' : Heap} {L' : Addr} {m' : Str → Option Value} (own : ∀ b ∈ fs, b = L) (Fg : Fr h₀ L g m) (T : KtsTurn fs g g') (F' : Fr g' L' h' m') : Fr h₀ L h' m where
  ns := by
    obtain ⟨o, es, ep, e1, e2⟩ := Fg.ns
    obtain ⟨sl, e3⟩ := T.up e1
    exact ⟨{ o with slots := sl }, es, ep, F'.keep L _ e3, e2⟩
  keep := fun b o e => by
    have out : b ∉ fs := fun hb => by
      have low := Heap.lt_size e
      have up := Fg.above
      rw [own b hb] at low
      exact Nat.lt_irrefl _ (Nat.lt_of_lt_of_le low up)
    exact F'.keep b o (T.other b o (Fg.keep b o e) out)
  above := Fg.above
theorem turn_news {fs : List Addr} {g g' h' : Heap} {L' : Addr} {ns : List (Addr × Obj)} (Fg : Fr h₀ L g m) (T : KtsTurn fs g g') (N' : News g' L' h' ns) : News h₀ L h' ns := by
  have gone : ∀ p ∈ ns, ∀ o, g.get? p.1 ≠ some o := fun p hp o e => by
    obtain ⟨sl, e3⟩ := T.up e
    exact nomatch (N' p hp).2.2.symm.trans e3
  obtain ⟨o, _, _, e1, _⟩ := Fg.ns
  exact fun p hp => ⟨(N' p hp).1, fun q => gone p hp o (q ▸ e1), Option.eq_none_iff_forall_ne_some.mpr fun x e => gone p hp x (Fg.keep _ _ e)⟩
/-- a def with a try in it, called from a frame that may have cells -/
theorem code_tryX (B : Below A₀ base [] h₀) (F : Fr h₀ L s.heap m) (X₀ : K.In h₀) (N : News h₀ L s.heap news) (T : Top p loose mean mg mb h₀) (hA : A.frames = some [env]) (hf : env.frame = some L) (hke : env.scope.kind = .function)
    (ho : K.lookup f = some ⟨oc, od, .func (fnOf name qual params body scope dV kV doc pm an cdv ct), osl⟩) (hcd : codeIn K cdv qual = true) (hroom : A.depth < recursionLimit)
    (hbind : BindsTo s (fnOf name qual params body scope dV kV doc pm an cdv ct) args binds) (hloc : ∀ y ∈ binds, scope.names.lookup y.1 = some .local)
    (h : ∀ g L' h₁, Fr h₀ L g m → Fr g L' h₁ (fun y => binds.reverse.lookup y) → News g L' h₁ news → Below A base [env] g → K.In g → Top p loose mean mg mb g → KtsDicts ([env].filterMap (·.frame)) g →
      wpAny (model prog w) (A.deeper (envOf qual scope L' f cdv)) (execs body (envOf qual scope L' f cdv))
        (fun fl s' => LeaveS0 ([env].filterMap (·.frame)) h₀ L m g R (match fl with | .ret v => v | _ => .none) s')
        (fun e s' => wpAny (model prog w) (A.deeper (envOf qual scope L' f cdv)) (leaving (envOf qual scope L' f cdv) e) (fun _ s'' => R (.error e) s'') (fun e' s'' => R (.error e') s'') s')
        { s with heap := h₁, toks := s.toks + binds.length })
    (hco : scope.isCoroutine = false) (hgen : scope.isGenerator = false) (hk : scope.kind = .function)
    (hcell : ∀ x ∈ scope.names, x.2 ≠ .cell) : codeAny (model prog w) A (.call (.ref f) args) R s := by
  obtain ⟨FG, BG, st, -⟩ := groundX (R := R) B F N hA hf hke
  have own : ∀ b ∈ [env].filterMap (·.frame), b = L := fun b hb => mem_one hf hb
  have dicts : KtsDicts ([env].filterMap (·.frame)) (hideAll s.heap (news.map (·.1))) := fun b hb => by
    obtain ⟨o, es, ep, e1, e2, _⟩ := FG.ns
    exact ⟨o, es, ep, own b hb ▸ e1, e2⟩
  have Xs := X₀.keeps F.keep
  refine codeAny_call_def hroom (Xs _ _ ho) rfl (T.nolimit.keeps F.keep) (codeRec_of Xs hcd) rfl hbind hcell hloc ?_ hco hgen hk
  intro h₁ hns stays
  have FN : Fr (hideAll s.heap (news.map (·.1))) s.heap.objs.size h₁ fun y => binds.reverse.lookup y := { ns := hns, keep := fun b o e => stays b o (of_hideAll _ e), above := Nat.le_of_eq (hideAll_size _ _) }
  have NN : News (hideAll s.heap (news.map (·.1))) s.heap.objs.size h₁ news := fun p hp => by
    have here := (N p hp).1
    exact ⟨stays _ _ here, Nat.ne_of_lt (Heap.lt_size here), hideAll_none _ (List.mem_map_of_mem hp)⟩
  refine wpAny_mono (h _ _ h₁ FG FN NN BG (X₀.keeps st) (T.keeps st) dicts) (fun _ _ left => ?_) fun _ _ e => e
  obtain ⟨_, _, _, _, T', F', N', k⟩ := left
  exact k (turn_frame own FG T' F') (turn_news FG T' N')
end
end Mine
namespace Mine
theorem resetBLoop : True ∧ True := by
  w_top off
  (try walk1)
  all_goals first | trivial | exact ⟨trivial, trivial⟩
theorem fillBLoop : (fun (_ : PySem.Challenge.rw_bd5016_01 = PySem.Challenge.rw_bd5016_01) => hd.heap_39) = fun _ => hd.heap_39 := by
  w_top off
  k_fill
  rfl
local macro_rules | `(tactic| walk_at "binaryOp Div int int") => `(tactic| (k_here; k_dflt ((refine' m_div ?hh ?hb ?_); (case hh => rfl); (case hb => first | (unfold FqOk; omega) | exact fq_parts (by omega) (by omega)); k_whole)))
local macro_rules | `(tactic| walk_at "call builtin:math.floor") => `(tactic| (k_here; (with_reducible show wpAny _ _ (call _ [Value.float (fq _ _) _]) _ _ _); k_dflt ((refine' m_floor ?hh ?hb ?_); (case hh => rfl); (case hb => first | (unfold FqOk; omega) | exact fq_parts (by omega) (by omega)); k_whole)))
local macro_rules | `(tactic| walk_at "binaryOp Add float int") => `(tactic| (k_here; first
  | ((with_reducible show wpAny _ _ (binaryOp _ (Value.float (fl _) _) _) _ _ _); k_dflt ((refine' m_add_fi ?ha ?hb ?_); (case ha => (unfold FlOk; omega)); (case hb => omega); k_whole))
  | ((with_reducible show wpAny _ _ (binaryOp _ (Value.float 4689722129631936512 _) _) _ _ _); k_dflt ((refine' m_add_ei ?hb ?_); (case hb => omega); k_whole))))
local macro_rules | `(tactic| walk_at "inplaceOp Add float int") => `(tactic| (k_here; (with_reducible show wpAny _ _ (inplaceOp _ (Value.float (fl _) _) _) _ _ _); k_dflt ((refine' m_iadd_fi ?hh ?ha ?hb ?_); (case hh => rfl); (case ha => (unfold FlOk; omega)); (case hb => omega); k_whole)))
local macro_rules | `(tactic| walk_at "call type:int") => `(tactic| (k_here; (with_reducible show wpAny _ _ (call _ [Value.float (fl _) _]) _ _ _); k_dflt ((refine' m_int ?hh ?ha ?_); (case hh => rfl); (case ha => (unfold FlOk; omega)); k_whole)))
local macro_rules | `(tactic| walk_at "call builtin:math.trunc") => `(tactic| (k_here; (with_reducible show wpAny _ _ (call _ [Value.float (fl _) _]) _ _ _); k_dflt ((refine' m_trunc ?hh ?ha ?_); (case hh => rfl); (case ha => (unfold FlOk; omega)); k_whole)))
local macro_rules | `(tactic| walk_at "binaryOp Add int float") => `(tactic| (k_here; (with_reducible show wpAny _ _ (binaryOp _ (Value.int _ _) (Value.float 4602678819172646912 _)) _ _ _); k_dflt ((refine' m_add_ih ?hb ?_); (case hb => omega); k_whole)))
local macro_rules | `(tactic| walk_at "binaryOp Add float float") => `(tactic| (k_here; (with_reducible show wpAny _ _ (binaryOp _ (Value.float (fl _) _) (Value.float 4602678819172646912 _)) _ _ _); k_dflt ((refine' m_add_fh ?ha ?_); (case ha => (unfold FlOk; omega)); k_whole)))
local macro_rules | `(tactic| walk_at "binaryOp Sub float float") => `(tactic| (k_here; (with_reducible show wpAny _ _ (binaryOp _ (Value.float (fl _) _) (Value.float (fl _) _)) _ _ _); k_dflt ((refine' m_sub_ff ?ha ?hb ?hc ?_); (case ha => omega); (case hb => omega); (case hc => omega); k_whole)))
local macro_rules | `(tactic| walk_at "compareOp NotEq float int") => `(tactic| (k_here; (with_reducible show wpAny _ _ (compareOp _ (Value.float (fl _) _) _) _ _ _); k_dflt ((refine' m_ne_fi ?ha ?_); (case ha => (unfold FlOk; omega)); k_whole)))
local macro_rules | `(tactic| walk_at "compareOp Eq float int") => `(tactic| (k_here; (with_reducible show wpAny _ _ (compareOp _ (Value.float (fl _) _) _) _ _ _); k_dflt ((refine' m_eq_fi ?ha ?_); (case ha => (unfold FlOk; omega)); k_whole)))
local macro_rules | `(tactic| walk_at "binaryOp Mod float int") => `(tactic| (k_here; (with_reducible show wpAny _ _ (binaryOp _ (Value.float (fl (2 * _)) _) (Value.int 10 _)) _ _ _); k_dflt ((refine' m_mod ?hh ?hb ?_); (case hh => rfl); (case hb => (unfold SizeOk; omega)); k_whole)))
local macro_rules | `(tactic| walk_at "binaryOp Mod int int") => `(tactic| (k_here; k_dflt (refine' m_modE ?b ?_; (case b => omega); k_whole)))
local macro_rules | `(tactic| walk_at "binaryOp Mult ref int") => `(tactic| (k_here; k_dflt (refine' m_mulN ?F ?N ?a ?b ?c ?_; (case F => k_asm); (case N => k_asm); (case a => k_mem); (case b => (first | omega | ((simp only [List.length_append, List.length_replicate]); omega) | ((have hl9 := IntsAre.length (by assumption)); (simp only [List.length_append, List.length_replicate, rangeKs_length] at *); omega))); (case c => (first | omega | ((simp only [List.length_append, List.length_replicate]); omega) | ((have hl9 := IntsAre.length (by assumption)); (simp only [List.length_append, List.length_replicate, rangeKs_length] at *); omega))); k_whole); intro D' h' F' N' l1; (try k_lt l1); (try k_sweep)))
local macro_rules | `(tactic| walk_at "binaryOp Mult int ref") => `(tactic| (k_here; k_dflt (refine' m_mulNr ?F ?N ?a ?b ?c ?_; (case F => k_asm); (case N => k_asm); (case a => k_mem); (case b => (first | omega | ((simp only [List.length_append, List.length_replicate]); omega) | ((have hl9 := IntsAre.length (by assumption)); (simp only [List.length_append, List.length_replicate, rangeKs_length] at *); omega))); (case c => (first | omega | ((simp only [List.length_append, List.length_replicate]); omega) | ((have hl9 := IntsAre.length (by assumption)); (simp only [List.length_append, List.length_replicate, rangeKs_length] at *); omega))); k_whole); intro D' h' F' N' l1; (try k_lt l1); (try k_sweep)))
local macro_rules | `(tactic| walk_at "binaryOp Add ref ref") => `(tactic| (k_here; k_dflt (refine' m_addL ?F ?N ?a ?b ?c ?_; (case F => k_asm); (case N => k_asm); (case a => k_mem); (case b => k_mem); (case c => (first | omega | ((simp only [List.length_append, List.length_replicate]); omega) | ((have hl9 := IntsAre.length (by assumption)); (simp only [List.length_append, List.length_replicate, rangeKs_length] at *); omega))); k_whole); intro D' h' F' N' l1; (try k_lt l1); (try k_sweep)))
local macro_rules | `(tactic| walk_at "eval ListComp") => `(tactic| (k_here; k_dflt (refine comp_steps (by k_asm) (by with_unfolding_all rfl) (by decide) (by rfl) (by decide) (by rfl) ?_ (by intro _; rfl))))
local macro_rules | `(tactic| k_all) => `(tactic| exact allNe_of_lt (by assumption) (by omega))
local macro_rules | `(tactic| walk_at "subscriptTail Name Slice ref ref") => `(tactic| (k_here; k_dflt (refine' m_slice ?F ?N ?a ?d ?x ?y ?z ?_ ?s ?t; (case F => k_asm); (case N => k_asm); (case a => first | with_reducible assumption | k_mem); (case d => assumption); (case x => omega); (case y => omega); (case z => assumption); (case s => with_unfolding_all rfl); (case t => (intro _; with_unfolding_all rfl)); k_whole); intro D' ws' h' F' N' l1 hW'; (try k_sweep)))
local macro_rules | `(tactic| walk_at "eval Name") => `(tactic| (k_here; (with_reducible show wpAny _ _ (eval (Expr.Name _ _) (compEnvC _ _ _ _)) _ _ _); k_dflt (first
  | refine LCgL.ld_own (by k_asm) (by first | exact List.Mem.tail _ (List.Mem.head _) | exact List.Mem.tail _ (List.Mem.tail _ (List.Mem.head _))) (by with_reducible assumption) (by with_reducible assumption) ?_
  | refine kcf_cell (by k_asm) (by rfl) (by with_reducible assumption) (by with_reducible assumption) ?_)))
local macro_rules | `(tactic| walk_at "call builtin:len") => `(tactic| (k_here; k_dflt (refine' m_len ?N ?a ?c ?_; (case N => k_asm); (case a => k_mem); (case c => first | omega | ((simp only [List.length_append, List.length_replicate]); omega)); k_whole)))
local macro_rules | `(tactic| k_mem) => `(tactic| ((repeat (refine' List.Mem.tail _ ?_)); assumption))
theorem off3_app {I C D : Addr} : ∀ {l l' : List (Addr × Obj)}, (∀ p ∈ l, (@Ne Nat p.1 I) ∧ (@Ne Nat p.1 C) ∧ (@Ne Nat p.1 D)) → LCg.Off3 I C D l' → LCg.Off3 I C D (l ++ l')
  | [], _, _, h => h
  | p :: l, _, h1, h => ⟨h1 p (.head _), off3_app (fun q hq => h1 q (.tail _ hq)) h⟩
section
variable {prog : Program} {w : World} {A : Around} {E : Value → Shared → Prop} {h₀ : Heap} {L : Addr} {m : Str → Option Value} {env : Env} {elt : Expr} {x : Str} {scope : Scope} {cl : List (Str × Addr)} {s : Shared} {Fin : List Value → List (Addr × Obj) → Prop} {news : List (Addr × Obj)} {S : List (Addr × Obj) → Prop}
def LeafEnd (h₀ : Heap) (L : Addr) (m : Str → Option Value) (s : Shared) (led : List (Addr × Obj)) (d : Dat) (y : Value) (s₂ : Shared) : Prop := ∃ tl h' tk', s₂ = { s with heap := h', toks := tk' } ∧ Fr h₀ L h' m ∧ News h₀ L h' (led ++ tl) ∧ Apart led tl ∧ DatIn tl y d
theorem rest_leaf {vs : List Value} (g : Nat → Dat) (hS : ∀ nw, S (nw ++ news))
    (turn : ∀ i v I oI C oC D m₂ ys nw h tk (E' : Value → Shared → Prop), vs[i]? = some v → LCg.NsObj oC m₂ → m₂ x = some v → Fr h₀ L h m → News h₀ L h ((I, oI) :: (C, oC) :: (D, LCg.lst ys) :: (nw ++ news)) →
      wpAny (model prog w) A (eval elt (compEnvC scope cl C env)) (LeafEnd h₀ L m s ((I, oI) :: (C, oC) :: (D, LCg.lst ys) :: (nw ++ news)) (g i)) E' { s with heap := h, toks := tk })
    (fin : ∀ ys nw, Apart news nw → DatAll nw ys ((List.range vs.length).map g) → Fin ys (nw ++ news)) : LCg.CompRest prog w A h₀ L m env elt x scope cl s S (fun i v => vs.toArray[i]? = some v) Fin vs.toArray.size 0 [] news := by
  have key : ∀ (j i : Nat) (ys : List Value) (nw : List (Addr × Obj)), i + j = vs.length → Apart news nw → DatAll nw ys ((List.range i).map g) → LCg.CompRest prog w A h₀ L m env elt x scope cl s S (fun i v => vs.toArray[i]? = some v) Fin j i ys (nw ++ news) := by
    intro j
    induction j with
    | zero =>
      intro i ys nw hi ha hy
      have e : i = vs.length := by omega
      subst e
      exact LCg.CompRest.zero (fin ys nw ha hy)
    | succ j ih =>
      intro i ys nw hi ha hy
      refine LCg.CompRest.succ ?_
      intro v I oI C oC D m₂ h tk E' hv hC hx F N off ne
      have hv' : vs[i]? = some v := by simpa using hv
      refine wpAny_mono (turn i v I oI C oC D m₂ ys nw h tk E' hv' hC hx F N) (fun y s₂ hq => ?_) fun _ _ e => e
      obtain ⟨tl, h', tk', rfl, F', N', hap, hV⟩ := hq
      have sub : ∀ p ∈ (I, oI) :: (C, oC) :: (D, LCg.lst ys) :: ((tl ++ nw) ++ news), p ∈ ((I, oI) :: (C, oC) :: (D, LCg.lst ys) :: (nw ++ news)) ++ tl := by
        intro p hp
        simp only [List.cons_append, List.mem_cons, List.mem_append] at hp ⊢
        rcases hp with h | h | h | (h | h) | h
        · exact .inl h
        · exact .inr (.inl h)
        · exact .inr (.inr (.inl h))
        · exact .inr (.inr (.inr (.inr h)))
        · exact .inr (.inr (.inr (.inl (.inl h))))
        · exact .inr (.inr (.inr (.inl (.inr h))))
      refine LCg.CompEnd.intro F' N' ((tl ++ nw) ++ news) sub ?_ (hS _) ?_
      · rw [List.append_assoc]
        exact off3_app (fun p hp => ⟨fun e => hap (I, oI) (.head _) p hp e.symm, fun e => hap (C, oC) (.tail _ (.head _)) p hp e.symm, fun e => hap (D, LCg.lst ys) (.tail _ (.tail _ (.head _))) p hp e.symm⟩) off
      · refine ih (i + 1) (ys ++ [y]) (tl ++ nw) (by omega) ?_ ?_
        · intro q hq p hp
          rcases List.mem_append.mp hp with hp | hp
          · exact hap q (.tail _ (.tail _ (.tail _ (List.mem_append.mpr (.inr hq))))) p hp
          · exact ha q hq p hp
        · rw [List.range_succ, List.map_append]
          exact DatAll.append (hy.mono fun p hp => List.mem_append.mpr (.inr hp)) (DatAll.one (hV.mono fun p hp => List.mem_append.mpr (.inl hp)))
  rw [List.size_toArray]
  exact key vs.length 0 [] [] (by omega) Apart.nil .nil
end
abbrev dayN : Str := Str.ofString "day"
abbrev cellsN : Str := Str.ofString "cells"
abbrev kN : Str := Str.ofString "k"
def LawEnd (h₀ : Heap) (L Dc : Addr) (led : List (Addr × Obj)) (m₀ : Str → Option Value) (d : Int) (cs : List Cell) (s₁ : Shared) (f : Flow) (s₂ : Shared) : Prop :=
  f = .next ∧ ∃ h' tk m' V' k' td, s₂ = { s₁ with heap := h', toks := tk } ∧ Fr h₀ L h' m' ∧ News h₀ L h' ((Dc, listOf (List.toArray V') k') :: led) ∧ DatAll [] V' (cs.map cellD) ∧ m' dayN = some (.int d td) ∧ m' cellsN = some (.ref Dc) ∧ ∀ z, z ≠ kN → z ≠ dayN → z ≠ cellsN → m' z = m₀ z
section
variable {prog : Program} {w : World} {A : Around} {E : Value → Shared → Prop} {s : Shared} {env : Env} {h₀ : Heap} {body : List Stmt} {Q : Flow → Shared → Prop}
theorem law_loop {r Dc : Addr} {V0 : List Value} {k0 n : Nat} {t₀ u₀ v₀ td : Tok} {m₀ : Str → Option Value} {led : List (Addr × Obj)} (g : Nat → Int) (cK : Nat → List Cell)
    (hh : A.handled = none) (hr : IsRange s.heap r 0 (n : Int) 1 t₀ u₀ v₀) (hn : n < 1000) (F : Fr h₀ env.locals s.heap m₀) (N : News h₀ env.locals s.heap ((Dc, listOf V0.toArray k0) :: led)) (hDc : ∀ p ∈ led, @Ne Nat p.1 Dc)
    (hV0 : DatAll [] V0 ((cK 0).map cellD)) (hday : m₀ dayN = some (.int (g 0) td)) (hcells : m₀ cellsN = some (.ref Dc))
    (turn : ∀ (i : Nat) t V k td (u : Str → Option Value) h tk own, i < n → DatAll [] V ((cK i).map cellD) → (∀ p ∈ led ++ own, @Ne Nat p.1 Dc) →
      Fr h₀ env.locals h (fun y => if y = kN then some (.int (i : Int) t) else kstB (fun z => if ([] : List Str).contains z then u z else m₀ z) [(dayN, .int (g i) td), (cellsN, .ref Dc)] y) → News h₀ env.locals h ((Dc, listOf V.toArray k) :: (led ++ own)) →
      wpAny (model prog w) A (execs body env) (LawEnd h₀ env.locals Dc (led ++ own) m₀ (g (i + 1)) (cK (i + 1)) { s with heap := h, toks := tk }) E { s with heap := h, toks := tk })
    (done : ∀ V k td (u : Str → Option Value) h tk, DatAll [] V ((cK n).map cellD) → Fr h₀ env.locals h (fun y => if y = kN then u y else kstB (fun z => if ([] : List Str).contains z then u z else m₀ z) [(dayN, .int (g n) td), (cellsN, .ref Dc)] y) → News h₀ env.locals h ((Dc, listOf (List.toArray V) k) :: led) → Q .next { s with heap := h, toks := tk }) :
    wpAny (model prog w) A (pyIter (.ref r)) (fun it s₂ => LoopAtV prog w A h₀ env kN body Q E it s₂) E s := by
  refine kd_range (σ := List Value × Nat × Int × Tok) (n := n) (fun c => [(Dc, listOf c.1.toArray c.2.1)]) led (fun c => [(dayN, .int c.2.2.1 c.2.2.2), (cellsN, .ref Dc)]) (fun _ _ => True) [] (fun pre c => c.2.2.1 = g pre.length ∧ DatAll [] c.1 ((cK pre.length).map cellD)) (Dc :: led.map (·.1)) (V0, k0, g 0, td)
    hh hr (small_one (by omega) (by omega) (by omega) (by omega)) (by rw [rangeSize_nat]; omega) F N ?_ (fun _ => rfl) trivial ?_ ⟨rfl, hV0⟩ ?_ ?_
  · intro p hp
    rw [List.append_nil] at hp
    exact hp
  · intro p hp
    rcases List.mem_cons.mp hp with rfl | hp
    · exact hday
    · rw [List.mem_singleton.mp hp]
      exact hcells
  · rintro ⟨V, k, d, td⟩ tl pre i t u h tk own hk hn' sep off _ ⟨hp1, hp2⟩ F₁ N₁
    dsimp only at hp1 hp2
    subst hp1
    have e1 : i = (pre.length : Int) := by omega
    subst e1
    have hoff : ∀ p ∈ led ++ (tl ++ own), @Ne Nat p.1 Dc := by
      intro p hp
      rcases List.mem_append.mp hp with hp | hp
      · exact hDc p hp
      · exact off p hp Dc (.head _)
    refine wpAny_mono (turn pre.length t V k td u h tk (tl ++ own) hn' hp2 hoff F₁ N₁) (fun f s₂ hq => ?_) fun _ _ e => e
    obtain ⟨rfl, h', tk', m', V', k', td', rfl, F', N', h1, h2, h3, h4⟩ := hq
    refine kd_end (V', k', g (pre.length + 1), td') [] sep F' N' ?_ ?_ rfl (fun q hq => nomatch hq) (fun q hq => nomatch hq) ?_ ?_ trivial ?_
    · intro p hp
      rw [List.nil_append] at hp
      rcases List.mem_append.mp hp with hp | hp
      · rw [List.mem_singleton.mp hp]
        exact .head _
      · refine .tail _ ?_
        rcases List.mem_append.mp hp with hp | hp
        · exact List.mem_append.mpr (.inl hp)
        · exact List.mem_append.mpr (.inr (List.mem_append.mpr (.inl hp)))
    · intro p hp
      exact .tail _ (List.mem_append.mpr (.inr (List.mem_append.mpr (.inr hp))))
    · intro p hp
      rcases List.mem_cons.mp hp with rfl | hp
      · exact h2
      · rw [List.mem_singleton.mp hp]
        exact h3
    · intro z z1 z2 _
      exact h4 z z1 (z2 _ (.head _)) (z2 _ (.tail _ (.head _)))
    · rw [List.length_append, List.length_singleton]
      exact ⟨rfl, h1⟩
  · rintro ⟨V, k, d, td⟩ tl u h tk off _ ⟨hp1, hp2⟩ F₁ N₁
    dsimp only at hp1 hp2
    rw [rangeKs_length] at hp1 hp2
    subst hp1
    refine done V k td u h tk hp2 F₁ (cb_drop N₁ ?_)
    intro p hp
    rcases List.mem_cons.mp hp with rfl | hp
    · exact .head _
    · exact .tail _ (show p ∈ led ++ tl from List.mem_append.mpr (.inl hp))
end
end Mine
namespace Mine
theorem resetBLaw : True ∧ True := by
  w_top off
  (try walk1)
  all_goals first | trivial | exact ⟨trivial, trivial⟩
theorem fillBLaw : (fun (_ : PySem.Challenge.rw_bd5016_01 = PySem.Challenge.rw_bd5016_01) => hd.heap_39) = fun _ => hd.heap_39 := by
  w_top off
  k_fill
  rfl
local macro_rules | `(tactic| walk_at "binaryOp Div int int") => `(tactic| (k_here; k_dflt ((refine' m_div ?hh ?hb ?_); (case hh => rfl); (case hb => first | (unfold FqOk; omega) | exact fq_parts (by omega) (by omega)); k_whole)))
local macro_rules | `(tactic| walk_at "call builtin:math.floor") => `(tactic| (k_here; (with_reducible show wpAny _ _ (call _ [Value.float (fq _ _) _]) _ _ _); k_dflt ((refine' m_floor ?hh ?hb ?_); (case hh => rfl); (case hb => first | (unfold FqOk; omega) | exact fq_parts (by omega) (by omega)); k_whole)))
local macro_rules | `(tactic| walk_at "binaryOp Add float int") => `(tactic| (k_here; first
  | ((with_reducible show wpAny _ _ (binaryOp _ (Value.float (fl _) _) _) _ _ _); k_dflt ((refine' m_add_fi ?ha ?hb ?_); (case ha => (unfold FlOk; omega)); (case hb => omega); k_whole))
  | ((with_reducible show wpAny _ _ (binaryOp _ (Value.float 4689722129631936512 _) _) _ _ _); k_dflt ((refine' m_add_ei ?hb ?_); (case hb => omega); k_whole))))
local macro_rules | `(tactic| walk_at "inplaceOp Add float int") => `(tactic| (k_here; (with_reducible show wpAny _ _ (inplaceOp _ (Value.float (fl _) _) _) _ _ _); k_dflt ((refine' m_iadd_fi ?hh ?ha ?hb ?_); (case hh => rfl); (case ha => (unfold FlOk; omega)); (case hb => omega); k_whole)))
local macro_rules | `(tactic| walk_at "call type:int") => `(tactic| (k_here; (with_reducible show wpAny _ _ (call _ [Value.float (fl _) _]) _ _ _); k_dflt ((refine' m_int ?hh ?ha ?_); (case hh => rfl); (case ha => (unfold FlOk; omega)); k_whole)))
local macro_rules | `(tactic| walk_at "call builtin:math.trunc") => `(tactic| (k_here; (with_reducible show wpAny _ _ (call _ [Value.float (fl _) _]) _ _ _); k_dflt ((refine' m_trunc ?hh ?ha ?_); (case hh => rfl); (case ha => (unfold FlOk; omega)); k_whole)))
local macro_rules | `(tactic| walk_at "binaryOp Add int float") => `(tactic| (k_here; (with_reducible show wpAny _ _ (binaryOp _ (Value.int _ _) (Value.float 4602678819172646912 _)) _ _ _); k_dflt ((refine' m_add_ih ?hb ?_); (case hb => omega); k_whole)))
local macro_rules | `(tactic| walk_at "binaryOp Add float float") => `(tactic| (k_here; (with_reducible show wpAny _ _ (binaryOp _ (Value.float (fl _) _) (Value.float 4602678819172646912 _)) _ _ _); k_dflt ((refine' m_add_fh ?ha ?_); (case ha => (unfold FlOk; omega)); k_whole)))
local macro_rules | `(tactic| walk_at "binaryOp Sub float float") => `(tactic| (k_here; (with_reducible show wpAny _ _ (binaryOp _ (Value.float (fl _) _) (Value.float (fl _) _)) _ _ _); k_dflt ((refine' m_sub_ff ?ha ?hb ?hc ?_); (case ha => omega); (case hb => omega); (case hc => omega); k_whole)))
local macro_rules | `(tactic| walk_at "compareOp NotEq float int") => `(tactic| (k_here; (with_reducible show wpAny _ _ (compareOp _ (Value.float (fl _) _) _) _ _ _); k_dflt ((refine' m_ne_fi ?ha ?_); (case ha => (unfold FlOk; omega)); k_whole)))
local macro_rules | `(tactic| walk_at "compareOp Eq float int") => `(tactic| (k_here; (with_reducible show wpAny _ _ (compareOp _ (Value.float (fl _) _) _) _ _ _); k_dflt ((refine' m_eq_fi ?ha ?_); (case ha => (unfold FlOk; omega)); k_whole)))
local macro_rules | `(tactic| walk_at "binaryOp Mod float int") => `(tactic| (k_here; (with_reducible show wpAny _ _ (binaryOp _ (Value.float (fl (2 * _)) _) (Value.int 10 _)) _ _ _); k_dflt ((refine' m_mod ?hh ?hb ?_); (case hh => rfl); (case hb => (unfold SizeOk; omega)); k_whole)))
local macro_rules | `(tactic| walk_at "binaryOp Mod int int") => `(tactic| (k_here; k_dflt (refine' m_modE ?b ?_; (case b => omega); k_whole)))
local macro_rules | `(tactic| walk_at "binaryOp Mult ref int") => `(tactic| (k_here; k_dflt (refine' m_mulN ?F ?N ?a ?b ?c ?_; (case F => k_asm); (case N => k_asm); (case a => k_mem); (case b => (first | omega | ((simp only [List.length_append, List.length_replicate]); omega) | ((have hl9 := IntsAre.length (by assumption)); (simp only [List.length_append, List.length_replicate, rangeKs_length] at *); omega))); (case c => (first | omega | ((simp only [List.length_append, List.length_replicate]); omega) | ((have hl9 := IntsAre.length (by assumption)); (simp only [List.length_append, List.length_replicate, rangeKs_length] at *); omega))); k_whole); intro D' h' F' N' l1; (try k_lt l1); (try k_sweep)))
local macro_rules | `(tactic| walk_at "binaryOp Mult int ref") => `(tactic| (k_here; k_dflt (refine' m_mulNr ?F ?N ?a ?b ?c ?_; (case F => k_asm); (case N => k_asm); (case a => k_mem); (case b => (first | omega | ((simp only [List.length_append, List.length_replicate]); omega) | ((have hl9 := IntsAre.length (by assumption)); (simp only [List.length_append, List.length_replicate, rangeKs_length] at *); omega))); (case c => (first | omega | ((simp only [List.length_append, List.length_replicate]); omega) | ((have hl9 := IntsAre.length (by assumption)); (simp only [List.length_append, List.length_replicate, rangeKs_length] at *); omega))); k_whole); intro D' h' F' N' l1; (try k_lt l1); (try k_sweep)))
local macro_rules | `(tactic| walk_at "binaryOp Add ref ref") => `(tactic| (k_here; k_dflt (refine' m_addL ?F ?N ?a ?b ?c ?_; (case F => k_asm); (case N => k_asm); (case a => k_mem); (case b => k_mem); (case c => (first | omega | ((simp only [List.length_append, List.length_replicate]); omega) | ((have hl9 := IntsAre.length (by assumption)); (simp only [List.length_append, List.length_replicate, rangeKs_length] at *); omega))); k_whole); intro D' h' F' N' l1; (try k_lt l1); (try k_sweep)))
local macro_rules | `(tactic| walk_at "eval ListComp") => `(tactic| (k_here; k_dflt (refine comp_steps (by k_asm) (by with_unfolding_all rfl) (by decide) (by rfl) (by decide) (by rfl) ?_ (by intro _; rfl))))
local macro_rules | `(tactic| k_all) => `(tactic| exact allNe_of_lt (by assumption) (by omega))
local macro_rules | `(tactic| walk_at "subscriptTail Name Slice ref ref") => `(tactic| (k_here; k_dflt (refine' m_slice ?F ?N ?a ?d ?x ?y ?z ?_ ?s ?t; (case F => k_asm); (case N => k_asm); (case a => first | with_reducible assumption | k_mem); (case d => assumption); (case x => omega); (case y => omega); (case z => assumption); (case s => with_unfolding_all rfl); (case t => (intro _; with_unfolding_all rfl)); k_whole); intro D' ws' h' F' N' l1 hW'; (try k_sweep)))
local macro_rules | `(tactic| walk_at "eval Name") => `(tactic| (k_here; (with_reducible show wpAny _ _ (eval (Expr.Name _ _) (compEnvC _ _ _ _)) _ _ _); k_dflt (first
  | refine LCgL.ld_own (by k_asm) (by first | exact List.Mem.tail _ (List.Mem.head _) | exact List.Mem.tail _ (List.Mem.tail _ (List.Mem.head _))) (by with_reducible assumption) (by with_reducible assumption) ?_
  | refine kcf_cell (by k_asm) (by rfl) (by with_reducible assumption) (by with_reducible assumption) ?_)))
local macro_rules | `(tactic| walk_at "call builtin:len") => `(tactic| (k_here; k_dflt (refine' m_len ?N ?a ?c ?_; (case N => k_asm); (case a => k_mem); (case c => first | omega | ((simp only [List.length_append, List.length_replicate]); omega)); k_whole)))
local macro_rules | `(tactic| k_mem) => `(tactic| ((repeat (refine' List.Mem.tail _ ?_)); assumption))
def NoHold : Prop := True
def IntEnd (h₀ : Heap) (L : Addr) (m : Str → Option Value) (s : Shared) (led : List (Addr × Obj)) (V : Int) (v : Value) (s₂ : Shared) : Prop := ∃ t h' tk', v = .int V t ∧ s₂ = { s with heap := h', toks := tk' } ∧ Fr h₀ L h' m ∧ News h₀ L h' led
theorem join_int {M : Model} {A : Around} {E : Value → Shared → Prop} {s : Shared} {h₀ : Heap} {L : Addr} {m : Str → Option Value} {led : List (Addr × Obj)} {Q : Value → Shared → Prop} {x : Sem Value} (V : Int) (_F : Fr h₀ L s.heap m) (_N : News h₀ L s.heap led)
    (h : wpAny M A x (IntEnd h₀ L m s led V) E s) (k : ∀ t h' tk', Fr h₀ L h' m → News h₀ L h' led → Q (.int V t) { s with heap := h', toks := tk' }) : wpAny M A x Q E s := by
  refine wpAny_mono h (fun v s₂ hq => ?_) fun _ _ e => e
  obtain ⟨t, h', tk', rfl, rfl, F', N'⟩ := hq
  exact k t h' tk' F' N'
abbrev sizesN : Str := Str.ofString "sizes"
abbrev monthsN : Str := Str.ofString "months"
def IfEnd (h₀ : Heap) (L : Addr) (m : Str → Option Value) (s : Shared) (led : List (Addr × Obj)) (y : Int) (f : Flow) (s₂ : Shared) : Prop :=
  ∃ h' tk' Dm km Vm Ds ks Vs, f = .next ∧ s₂ = { s with heap := h', toks := tk' } ∧ Fr h₀ L h' (fun z => if z = sizesN then some (.ref Ds) else if z = monthsN then some (.ref Dm) else m z) ∧ News h₀ L h' ((Ds, listOf (List.toArray Vs) ks) :: (Dm, listOf (List.toArray Vm) km) :: led) ∧
    IntsAre Vm (monthsL y) ∧ IntsAre Vs (sizesL y) ∧ (∀ p ∈ led, @LT.lt Nat _ p.1 Dm) ∧ (∀ p ∈ (Dm, listOf (List.toArray Vm) km) :: led, @LT.lt Nat _ p.1 Ds)
theorem join_if {M : Model} {A : Around} {E : Value → Shared → Prop} {s : Shared} {h₀ : Heap} {L : Addr} {m : Str → Option Value} {led : List (Addr × Obj)} {Q : Flow → Shared → Prop} {x : Sem Flow} (y : Int) (_F : Fr h₀ L s.heap m) (_N : News h₀ L s.heap led)
    (h : wpAny M A x (IfEnd h₀ L m s led y) E s)
    (k : ∀ h' tk' Dm km Vm Ds ks Vs, Fr h₀ L h' (fun z => if z = sizesN then some (.ref Ds) else if z = monthsN then some (.ref Dm) else m z) → News h₀ L h' ((Ds, listOf (List.toArray Vs) ks) :: (Dm, listOf (List.toArray Vm) km) :: led) →
      IntsAre Vm (monthsL y) → IntsAre Vs (sizesL y) → (∀ p ∈ led, @LT.lt Nat _ p.1 Dm) → (∀ p ∈ (Dm, listOf (List.toArray Vm) km) :: led, @LT.lt Nat _ p.1 Ds) → Q .next { s with heap := h', toks := tk' }) : wpAny M A x Q E s := by
  refine wpAny_mono h (fun v s₂ hq => ?_) fun _ _ e => e
  obtain ⟨h', tk', Dm, km, Vm, Ds, ks, Vs, rfl, rfl, F', N', a, b, c, d⟩ := hq
  exact k h' tk' Dm km Vm Ds ks Vs F' N' a b c d
section
variable {y S : Int} (hS : S = sizeF y)
include hS
theorem e8a (c : S % 10 = 5) : 30 = mlF y 8 := by subst hS; simp [mlF, c]
theorem e8b (c : ¬ S % 10 = 5) : 29 = mlF y 8 := by subst hS; simp [mlF, c]
theorem e9a (c : S % 10 = 3) : 29 = mlF y 9 := by subst hS; simp [mlF, c]
theorem e9b (c : ¬ S % 10 = 3) : 30 = mlF y 9 := by subst hS; simp [mlF, c]
end
theorem months_t {y : Int} (h : leapF y = true) : monthsL y = [7, 8, 9, 10, 11, 12, 13, 1, 2, 3, 4, 5, 6] := by simp [monthsL, h]
theorem months_f {y : Int} (h : leapF y = false) : monthsL y = [7, 8, 9, 10, 11, 12, 1, 2, 3, 4, 5, 6] := by simp [monthsL, h]
theorem sizes_t {y : Int} (h : leapF y = true) : sizesL y = [30, mlF y 8, mlF y 9, 29, 30, 30, 29, 30, 29, 30, 29, 30, 29] := by simp [sizesL, monthsL, h]; simp [mlF, h]
theorem sizes_f {y : Int} (h : leapF y = false) : sizesL y = [30, mlF y 8, mlF y 9, 29, 30, 29, 30, 29, 30, 29, 30, 29] := by simp [sizesL, monthsL, h]; simp [mlF, h]
local macro_rules | `(tactic| walk_at "call ref") => `(tactic| (k_here; k_dflt ((refine' tellsN_use ?k1 ?k2 ?k3 ?k4 ?k5 ?kK ?kR (tTi _) ?ko ?kd ?ku ?_); (case kR => exact R1.mk _ _); (case k1 => k_asm); (case k2 => k_asm); (case k3 => k_asm); (case k4 => k_asm); (case k5 => k_asm); (case kK => first | exact rfl | assumption); (case ko => (dsimp only; omega)); (case kd => (dsimp only; ktr_room)); (case ku => (dsimp only; ktr_units)); k_whole; intro r9 tl9 h9 tk9 F9 N9 hl9 ht9 ho9; (try (subst ht9; clear hl9; simp only [List.append_nil] at N9)); (dsimp only at ho9); (obtain ⟨t9, e9, hb9⟩ := ho9; subst e9); (try dsimp only); (try k_fold))))
local macro_rules | `(tactic| walk_at "call ref") => `(tactic| (k_here; k_dflt ((refine' tellsN_use ?k1 ?k2 ?k3 ?k4 ?k5 ?kK ?kR (tLL _) ?ko ?kd ?ku ?_); (case kR => exact R1.mk _ _); (case k1 => k_asm); (case k2 => k_asm); (case k3 => k_asm); (case k4 => k_asm); (case k5 => k_asm); (case kK => first | exact rfl | assumption); (case ko => (dsimp only; omega)); (case kd => (dsimp only; ktr_room)); (case ku => (dsimp only; ktr_units)); k_whole; intro r9 tl9 h9 tk9 F9 N9 hl9 ht9 ho9; (try (subst ht9; clear hl9; simp only [List.append_nil] at N9)); (dsimp only at ho9); (obtain ⟨t9, e9, hb9⟩ := ho9; subst e9); (try dsimp only); (try k_fold))))
local macro_rules | `(tactic| walk_at "call ref") => `(tactic| (k_here; k_dflt ((refine' tellsN_use ?k1 ?k2 ?k3 ?k4 ?k5 ?kK ?kR (tDays _) ?ko ?kd ?ku ?_); (case kR => exact R1.mk _ _); (case k1 => k_asm); (case k2 => k_asm); (case k3 => k_asm); (case k4 => k_asm); (case k5 => k_asm); (case kK => first | exact rfl | assumption); (case ko => (dsimp only; omega)); (case kd => (dsimp only; ktr_room)); (case ku => (dsimp only; ktr_units)); k_whole; intro r9 tl9 h9 tk9 F9 N9 hl9 ht9 ho9; (try (subst ht9; clear hl9; simp only [List.append_nil] at N9)); (dsimp only at ho9); (obtain ⟨t9, e9, hb9⟩ := ho9; subst e9); (try dsimp only); (try k_fold))))
local macro_rules | `(tactic| walk_at "call ref") => `(tactic| (k_here; k_dflt ((refine' tellsN_use ?k1 ?k2 ?k3 ?k4 ?k5 ?kK ?kR (tMl _) ?ko ?kd ?ku ?_); (case kR => exact R2.mk _ _ _ _); (case k1 => k_asm); (case k2 => k_asm); (case k3 => k_asm); (case k4 => k_asm); (case k5 => k_asm); (case kK => first | exact rfl | assumption); (case ko => (dsimp only; omega)); (case kd => (dsimp only; ktr_room)); (case ku => (dsimp only; ktr_units)); k_whole; intro r9 tl9 h9 tk9 F9 N9 hl9 ht9 ho9; (try (subst ht9; clear hl9; simp only [List.append_nil] at N9)); (dsimp only at ho9); (obtain ⟨t9, e9, hb9⟩ := ho9; subst e9); (try dsimp only); (try k_fold))))
local macro_rules | `(tactic| walk_at "call ref") => `(tactic| (k_here; k_dflt ((refine' spec_use ?k1 ?k2 ?k3 ?k4 ?k5 ?kK ?kR (tMc _) ?ko ?kd ?ku ?_); (case k1 => k_asm); (case k2 => k_asm); (case k3 => k_asm); (case k4 => k_asm); (case k5 => k_asm); (case kR => exact R2.mk _ _ _ _); (case kK => first | exact rfl | assumption); (case ko => first | (dsimp only; omega) | (dsimp only; (simp only [List.length_append, List.length_replicate, List.length_map, rangeKs_length]); omega)); (case kd => (dsimp only; ktr_room)); (case ku => (dsimp only; ktr_units)); k_whole; intro r9 tl9 h9 tk9 F9 N9 ha9 ho9; (dsimp only at ho9); skip; (try dsimp only); (try k_fold))))
local macro_rules | `(tactic| walk_at "call ref") => `(tactic| (k_here; (with_reducible show wpAny _ _ (call (Value.ref 153) _ _) _ _ _); k_dflt (refine wpAny_call ?_; (refine' code_tryX ?k1 ?k2 ?k3 ?k4 ?k5 ?kA ?kF ?kK ?k6 ?k7 ?k8 ?k9 ?kB ?_ ?c2 ?c3 ?c4 ?c5; (case kA => exact rfl); (case kF => exact rfl); (case kK => exact rfl); (case k2 => k_asm); (case k1 => k_asm); (case k3 => k_asm); (case k4 => k_asm); (case k5 => k_asm); (case k6 => k_is); (case k7 => k_is); (case k8 => k_room); (case k9 => exact BindsTo.of_eq rfl); (case kB => exact locs rfl); (case c2 => exact rfl); (case c3 => exact rfl); (case c4 => exact rfl); (case c5 => decide); k_whole; intro g' L' h' FG' F' N' B' X' T' D'; (try dsimp only); (try k_lift B'); (try k_fold)))))
local macro_rules | `(tactic| walk_at "call ref") => `(tactic| (k_here; k_dflt ((refine' spec_use ?k1 ?k2 ?k3 ?k4 ?k5 ?kK ?kR (tRows _) ?ko ?kd ?ku ?_); (case k1 => k_asm); (case k2 => k_asm); (case k3 => k_asm); (case k4 => k_asm); (case k5 => k_asm); (case kR => exact RL.mk _ _ _ _ (by first | k_mem | exact List.Mem.head _) (by first | assumption | exact DatAll.append (datNone _ _) (datInts (by assumption)))); (case kK => first | exact rfl | assumption); (case ko => first | (dsimp only; omega) | (dsimp only; (simp only [List.length_append, List.length_replicate, List.length_map, rangeKs_length]); omega)); (case kd => (dsimp only; ktr_room)); (case ku => (dsimp only; ktr_units)); k_whole; intro r9 tl9 h9 tk9 F9 N9 ha9 ho9; (dsimp only at ho9); (cases ho9); (try dsimp only); (try k_fold))))
local macro_rules | `(tactic| walk_at "call ref") => `(tactic| (k_here; k_dflt ((refine' spec_use ?k1 ?k2 ?k3 ?k4 ?k5 ?kK ?kR (tBand _) ?ko ?kd ?ku ?_); (case k1 => k_asm); (case k2 => k_asm); (case k3 => k_asm); (case k4 => k_asm); (case k5 => k_asm); (case kR => exact RB.mk _ _ _ _ (by k_mem) (LeavesIn.mono (fun _ hp => List.Mem.tail _ hp) (by assumption))); (case kK => first | exact rfl | assumption); (case ko => first | assumption | (dsimp only; assumption)); (case kd => (dsimp only; ktr_room)); (case ku => (dsimp only; ktr_units)); k_whole; intro r9 tl9 h9 tk9 F9 N9 ha9 ho9; (dsimp only at ho9); (obtain ⟨b9, B9, nb9, e9, hb9m, hb9r⟩ := ho9; subst e9); (try dsimp only); (try k_fold))))
local macro_rules | `(tactic| walk_at "compareOp NotEq ref ref") => `(tactic| (k_here; refine Hold.out ?_))
local macro_rules | `(tactic| walk_at "compareOp Eq ref ref") => `(tactic| (k_here; refine Hold.out ?_))
local macro_rules | `(tactic| walk_at "subscriptTail Name Name ref int") => `(tactic| (k_here; k_dflt (refine' m_itemV ?N ?a ?h0 ?h1 ?x ?_ ?s ?t; (case N => k_asm); (case a => k_mem); (case h0 => omega); (case h1 => omega); (case x => assumption); (case s => with_unfolding_all rfl); (case t => (intro _; with_unfolding_all rfl)); k_whole)))
local macro_rules | `(tactic| walk_at "pyIter ref") => `(tactic| (k_here; refine Hold.out ?_))
local macro_rules | `(tactic| walk_at "eval IfExp") => `(tactic| (k_here; (fail_if_success (have : NoHold := by assumption)); (with_reducible show wpAny _ _ (eval (Expr.IfExp (Expr.Compare (Expr.BinOp _ _ _ _) _ _ _) _ _ _) _) _ _ _); refine Hold.out ?_))
local macro_rules | `(tactic| walk_at "exec If") => `(tactic| (k_here; (fail_if_success (have : NoHold := by assumption)); (with_reducible show wpAny _ _ (exec (Stmt.If (Expr.Call _ _ _ _) _ _ _) _) _ _ _); refine Hold.out ?_))
local macro_rules | `(tactic| walk_at "eval ListComp") => `(tactic| (k_here; k_dflt (refine LCg.ListComp_U (F₀ := by k_asm) (by with_unfolding_all rfl) (by decide) (by rfl) (by decide) (by rfl) ?_ (by intro _; rfl))))
local macro_rules | `(tactic| walk_at "CompSrc") => `(tactic| (k_here; refine Hold.out ?_))
theorem months_len (y : Int) : 12 ≤ (monthsL y).length ∧ (monthsL y).length ≤ 13 := by
  unfold monthsL
  split <;> decide
theorem months_bd {y : Int} : ∀ m ∈ monthsL y, 1 ≤ m ∧ m ≤ 13 := by
  unfold monthsL
  split <;> decide
theorem ints_ne {V : List Value} {a : Int} {n : Nat} (h : IntsAre V (rangeKs a n)) (hn : n ≠ 0) : V.length ≠ 0 := by
  rw [h.length, rangeKs_length]
  exact hn
theorem ints_z {V W : List Value} {a : Int} {n : Nat} (h : IntsAre W (rangeKs a n)) (hn : V.length + n ≤ 100000) : V.length + W.length ≤ 100000 := by
  rw [h.length, rangeKs_length]
  exact hn
theorem sizes_len (y : Int) : (sizesL y).length = (monthsL y).length := by unfold sizesL; rw [List.length_map]
theorem tidy9 {h₀ h : Heap} {L D Ds Dm c x : Addr} {ox od os om oc : Obj} {nw tl : List (Addr × Obj)} (N : News h₀ L h ((x, ox) :: (((D, od) :: (Ds, os) :: (Dm, om) :: (c, oc) :: nw) ++ tl))) (l : ∀ p ∈ ((D, od) :: (Ds, os) :: (Dm, om) :: (c, oc) :: nw) ++ tl, @LT.lt Nat _ p.1 x)
    (q0 : ∀ p ∈ nw ++ [(Ds, os), (Dm, om), (c, oc)], @Ne Nat p.1 D) (ha : Apart [(Ds, os), (Dm, om), (c, oc)] nw) (ha9 : Apart ((D, od) :: (Ds, os) :: (Dm, om) :: (c, oc) :: nw) tl) (ls : ∀ p ∈ [(Dm, om), (c, oc)], @LT.lt Nat _ p.1 Ds) :
    News h₀ L h ((x, ox) :: (D, od) :: (Ds, os) :: (Dm, om) :: (c, oc) :: (nw ++ tl)) ∧ (∀ p ∈ (D, od) :: (Ds, os) :: (Dm, om) :: (c, oc) :: (nw ++ tl), @LT.lt Nat _ p.1 x) ∧ (∀ p ∈ nw ++ tl, p.1 ≠ Ds) ∧ (@Ne Nat x Ds) ∧ (@Ne Nat D Ds) ∧ (@Ne Nat Dm Ds) ∧ (@Ne Nat c Ds) := by
  refine ⟨N, l, ?_, ?_, ?_, Nat.ne_of_lt (ls (Dm, om) (.head _)), Nat.ne_of_lt (ls (c, oc) (.tail _ (.head _)))⟩
  · intro p hp
    rcases List.mem_append.mp hp with hp | hp
    · exact fun e => ha (Ds, os) (.head _) p hp e.symm
    · exact fun e => ha9 (Ds, os) (.tail _ (.head _)) p hp e.symm
  · exact (Nat.ne_of_lt (l (Ds, os) (.tail _ (.head _)))).symm
  · exact (q0 (Ds, os) (List.mem_append.mpr (.inr (.head _)))).symm
theorem hide9 {h₀ h : Heap} {L Dc a1 D1 x D Ds Dm c : Addr} {o0 o1 oL ox od oS oM oc : Obj} {nw tl : List (Addr × Obj)} {LV : List Value} {ls : List (List Rw)} (N : News h₀ L h ((Dc, o0) :: (a1, o1) :: (D1, oL) :: (x, ox) :: (D, od) :: (Ds, oS) :: (Dm, oM) :: (c, oc) :: (nw ++ tl)))
    (l : a1 < Dc ∧ D1 < Dc ∧ x < Dc ∧ D < Dc ∧ Ds < Dc ∧ Dm < Dc ∧ c < Dc ∧ AllLt Dc (nw ++ tl)) (hL : LeavesIn (nw ++ tl) LV ls) :
    ∃ led0, News h₀ L h ((Dc, o0) :: led0) ∧ (∀ p ∈ led0, @Ne Nat p.1 Dc) ∧ (D1, oL) ∈ led0 ∧ (Ds, oS) ∈ led0 ∧ (Dm, oM) ∈ led0 ∧ (c, oc) ∈ led0 ∧ LeavesIn led0 LV ls := by
  obtain ⟨l1, l2, l3, l4, l5, l6, l7, l8⟩ := l
  refine ⟨_, N, ?_, .tail _ (.head _), .tail _ (.tail _ (.tail _ (.tail _ (.head _)))), .tail _ (.tail _ (.tail _ (.tail _ (.tail _ (.head _))))), .tail _ (.tail _ (.tail _ (.tail _ (.tail _ (.tail _ (.head _)))))),
    hL.mono fun p hp => .tail _ (.tail _ (.tail _ (.tail _ (.tail _ (.tail _ (.tail _ hp))))))⟩
  refine List.forall_mem_cons.mpr ⟨Nat.ne_of_lt l1, List.forall_mem_cons.mpr ⟨Nat.ne_of_lt l2, List.forall_mem_cons.mpr ⟨Nat.ne_of_lt l3, List.forall_mem_cons.mpr ⟨Nat.ne_of_lt l4, List.forall_mem_cons.mpr ⟨Nat.ne_of_lt l5, List.forall_mem_cons.mpr ⟨Nat.ne_of_lt l6, List.forall_mem_cons.mpr ⟨Nat.ne_of_lt l7, fun p hp => Nat.ne_of_lt (tb_ltOf l8 p hp)⟩⟩⟩⟩⟩⟩⟩
theorem ints_snoc2 {D : Addr} {V : List Value} {l : List Int} {n : Int} {t : Tok} {k : Nat} {led : List (Addr × Obj)} (_ : (D, listOf (V ++ [Value.int n t]).toArray k) ∈ led) (h : IntsAre V l) : IntsAre (V ++ [Value.int n t]) (l ++ [n]) := ints_snoc h
theorem month_facts {y S : Int} {V : List Value} {i : Nat} (h : IntsAre V (monthsL y)) (hi : i < (monthsL y).length) (hi2 : i < (sizesZ y).length) (hS : (sizesZ y)[i] = S) : ∃ M t, V[((i : Nat) : Int).toNat]? = some (.int M t) ∧ 1 ≤ M ∧ M ≤ 13 ∧ mlF y M = S := by
  obtain ⟨t, e⟩ := ints_at h hi
  have hb := months_bd _ (List.getElem_mem hi)
  exact ⟨_, t, e, hb.1, hb.2, (month_size hi hi2).trans hS⟩
theorem cells_next {V Vr : List Value} {y S : Int} {i : Nat} (hV : DatAll [] V ((cK y i).map cellD)) (hcs : cK y (i + 1) = cK y i ++ (rangeKs 1 S.toNat).map some) (hI : IntsAre Vr (rangeKs 1 (S + 1 - 1).toNat)) : DatAll [] (V ++ Vr) ((cK y (i + 1)).map cellD) := by
  rw [show S + 1 - 1 = S by omega] at hI
  rw [hcs, List.map_append, List.map_map]
  exact DatAll.append hV (datInts hI)
theorem month_at {y : Int} {V : List Value} {i : Nat} {v : Value} (h : IntsAre V (monthsL y)) (hv : V[i]? = some v) : ∃ t, v = .int ((monthsL y).getD i 0) t ∧ 1 ≤ (monthsL y).getD i 0 ∧ (monthsL y).getD i 0 ≤ 13 := by
  have hi : i < V.length := (List.getElem?_eq_some_iff.mp hv).1
  have hi2 : i < (monthsL y).length := h.length ▸ hi
  have e : (monthsL y).getD i 0 = (monthsL y)[i] := by rw [List.getD_eq_getElem?_getD, List.getElem?_eq_getElem hi2]; rfl
  have hb := months_bd (y := y) ((monthsL y)[i]) (List.getElem_mem hi2)
  rw [e]
  have q := datInts (led := []) h
  obtain ⟨v', h1, h2⟩ := q.get (k := i) (by rw [List.length_map]; exact hi2)
  rw [hv] at h1
  cases h1
  rw [List.getElem_map] at h2
  cases h2
  exact ⟨_, rfl, hb⟩
theorem news_front3 {h₀ h : Heap} {L : Addr} {a x y z : Addr × Obj} {nw : List (Addr × Obj)} (N : News h₀ L h (a :: (nw ++ [x, y, z]))) : News h₀ L h (a :: x :: y :: z :: nw) := by
  refine cb_drop N ?_
  intro p hp
  simp only [List.mem_cons, List.mem_append, List.not_mem_nil, or_false] at hp ⊢
  rcases hp with h | h | h | h | h
  · exact .inl h
  · exact .inr (.inr (.inl h))
  · exact .inr (.inr (.inr (.inl h)))
  · exact .inr (.inr (.inr (.inr h)))
  · exact .inr (.inl h)
theorem news_m3 {h₀ h : Heap} {L : Addr} {a b c x y z : Addr × Obj} {nw : List (Addr × Obj)} (_ : News h₀ L h (a :: b :: c :: (nw ++ [x, y, z]))) : z ∈ a :: b :: c :: (nw ++ [x, y, z]) :=
  .tail _ (.tail _ (.tail _ (List.mem_append.mpr (.inr (.tail _ (.tail _ (.head _)))))))
local macro_rules | `(tactic| walk_at "binaryOp Add ref ref") => `(tactic| (k_here; k_dflt (refine' m_addL ?F ?N ?a ?b ?c ?_; (case F => k_asm); (case N => k_asm); (case a => k_mem); (case b => k_mem); (case c => (first | omega | ((simp only [List.length_append, List.length_replicate, List.length_cons, List.length_nil]); omega) | ((have hl9 := IntsAre.length (by assumption)); (simp only [List.length_append, List.length_replicate, rangeKs_length] at *); omega))); k_whole); intro D' h' F' N' l1; (try k_lt l1); (try k_sweep)))
local macro_rules | `(tactic| walk_at "binaryOp Add ref ref") => `(tactic| (k_here; (fail_if_success (have : NoHold := by assumption)); refine Hold.out ?_))
local macro_rules | `(tactic| walk_at "getMethod ref") => `(tactic| (k_here; k_dflt ((with_reducible show wpAny _ _ (getMethod (Value.ref _) (PySem.Str.ofString "append") _) _ _ _); (refine' m_meth ?N ?m PySem.F.slot_list_append PySem.F.type_list_append ?_; (case N => k_asm); (case m => k_mem)))))
local macro_rules | `(tactic| k_all) => `(tactic| with_reducible assumption)
local macro_rules | `(tactic| walk_at "inplaceOp Add ref ref") => `(tactic| (k_here; k_dflt (refine' m_iaddL ?F ?N ?U ?b ?e ?z ?_; (case F => k_asm); (case N => k_asm); (case b => k_mem); (case U => k_upd); (case e => (refine ints_ne (by assumption) ?_; omega)); (case z => (refine ints_z (by assumption) ?_; omega)); k_whole); intro h' F' N'; (try k_sweep)))
local macro_rules | `(tactic| walk_at "call builtin:list.append") => `(tactic| (k_here; k_dflt (refine' m_append ?F ?N ?U ?z ?_; (case F => k_asm); (case N => k_asm); (case U => k_upd); (case z => omega); k_whole); intro h' F' N'; (try k_sweep)))
local macro_rules | `(tactic| walk_at "call builtin:len") => `(tactic| (k_here; k_dflt (refine' m_len ?N ?a ?c ?_; (case N => k_asm); (case a => k_mem); (case c => first | omega | ((simp only [List.length_append, List.length_replicate, List.length_cons, List.length_nil]); omega)); k_whole)))
set_option maxRecDepth 100000 in
set_option maxHeartbeats 8000000 in
theorem law_holds : PySem.Challenge.rw_bd5016_01.Holds := hd (by
  k_go0
  (all_goals try k_fold)
  k_steps
  show wpAny _ _ _ _ _ _
  rename List Int => ns
  have hy1 : 1 ≤ 1 + cellAt ns 0 0 % 9000 := by omega
  have hy2 : 1 + cellAt ns 0 0 % 9000 ≤ 9000 := by omega
  have hsz := size_tish hy1 hy2
  have hsix := sizes_six hy1 hy2
  refine join_int (mlF (1 + cellAt ns 0 0 % 9000) 8) (by k_asm) (by k_asm) ?_ ?_
  · have nh : NoHold := trivial
    k_steps
    · exact ⟨_, _, _, congrArg (Value.int · _) (e8a hsz (by assumption)), rfl, by k_asm, by k_asm⟩
    · exact ⟨_, _, _, congrArg (Value.int · _) (e8b hsz (by assumption)), rfl, by k_asm, by k_asm⟩
  intro t8 h8 tk8 F8 N8
  k_steps
  show wpAny _ _ _ _ _ _
  refine join_int (mlF (1 + cellAt ns 0 0 % 9000) 9) (by k_asm) (by k_asm) ?_ ?_
  · have nh : NoHold := trivial
    k_steps
    · exact ⟨_, _, _, congrArg (Value.int · _) (e9a hsz (by assumption)), rfl, by k_asm, by k_asm⟩
    · exact ⟨_, _, _, congrArg (Value.int · _) (e9b hsz (by assumption)), rfl, by k_asm, by k_asm⟩
  intro t9 h9 tk9 F9 N9
  k_steps
  show wpAny _ _ _ _ _ _
  refine join_if (1 + cellAt ns 0 0 % 9000) (by k_asm) (by k_asm) ?_ ?_
  · have nh : NoHold := trivial
    k_steps
    · refine ⟨_, _, _, _, _, _, _, _, rfl, rfl, by k_asm, by k_asm, ?_, ?_, List.forall_mem_cons.mpr ⟨by first | assumption | (rename _ ∧ _ => hh9; first | exact hh9.1 | exact hh9.2), fun _ h => nomatch h⟩, List.forall_mem_cons.mpr ⟨by first | assumption | (rename _ ∧ _ => hh9; first | exact hh9.1 | exact hh9.2), List.forall_mem_cons.mpr ⟨by first | assumption | (rename _ ∧ _ => hh9; first | exact hh9.1 | exact hh9.2), fun _ h => nomatch h⟩⟩⟩
      · rw [months_t (by assumption)]
        repeat (first | exact IntsAre.nil | refine IntsAre.cons _ _ ?_)
      · rw [sizes_t (by assumption)]
        repeat (first | exact IntsAre.nil | refine IntsAre.cons _ _ ?_)
    · refine ⟨_, _, _, _, _, _, _, _, rfl, rfl, by k_asm, by k_asm, ?_, ?_, List.forall_mem_cons.mpr ⟨by first | assumption | (rename _ ∧ _ => hh9; first | exact hh9.1 | exact hh9.2), fun _ h => nomatch h⟩, List.forall_mem_cons.mpr ⟨by first | assumption | (rename _ ∧ _ => hh9; first | exact hh9.1 | exact hh9.2), List.forall_mem_cons.mpr ⟨by first | assumption | (rename _ ∧ _ => hh9; first | exact hh9.1 | exact hh9.2), fun _ h => nomatch h⟩⟩⟩
      · rw [months_f (by assumption)]
        repeat (first | exact IntsAre.nil | refine IntsAre.cons _ _ ?_)
      · rw [sizes_f (by assumption)]
        repeat (first | exact IntsAre.nil | refine IntsAre.cons _ _ ?_)
  intro hh1 tk1 Dm km Vm Ds ks Vs F1 N1 hIm hIs lm ls
  k_steps
  show LCg.CompSrc _ _ _ _ _ _ _ _ _ _ _ _ _ _
  have hIl := hIm.length
  have hml := months_len (1 + cellAt ns 0 0 % 9000)
  refine LCg.CompSrc.ledger (by rfl) (by k_asm) (by k_asm) (by k_mem) (by rw [sizeLine_eq, List.size_toArray]; omega) ?_
  intro g9
  refine rest_leaf (fun i => Dat.list (mcF (1 + cellAt ns 0 0 % 9000) ((monthsL (1 + cellAt ns 0 0 % 9000)).getD i 0))) (fun nw => .inr ⟨_, List.mem_append.mpr (.inr (by k_mem)), rfl, _, rfl⟩) ?_ ?_
  · intro i v I oI C oC D m₂ ys nw h tk E' hv hC hx F N
    obtain ⟨t9, rfl, hm13⟩ := month_at hIm hv
    have hmc := news_m3 N
    (try k_fold)
    k_steps
    exact ⟨_, _, _, rfl, by k_asm, by assumption, by assumption, by assumption⟩
  · intro ys nw ha hy
    show LCg.FinE _ _ _ _ _ _ _
    unfold LCg.FinE
    intro D h tk F N o1
    have q0 := off1_mem o1
    have N2 := news_front3 N
    have hyl := hy.length
    rw [List.length_map, List.length_range] at hyl
    clear N
    (try dsimp only)
    (try k_fold)
    k_steps
    show wpAny _ _ _ _ _ _
    rename Addr => x9
    rename List (Addr × Obj) => tl9
    rename News _ _ _ ((x9, _) :: _) => N3
    rename DatIn tl9 _ _ => ho9
    obtain ⟨N4, l4, nS, hxS, hDS, hMS, hCS⟩ := tidy9 N3 (by assumption) q0 ha (by assumption) ls
    clear N3
    have hSl := hIs.length
    have hsl := sizes_len (1 + cellAt ns 0 0 % 9000)
    have nh : NoHold := trivial
    k_steps
    show wpAny _ _ _ _ _ _
    rename News _ _ _ ((_, listOf (List.replicate _ _).toArray _) :: _) => N5
    obtain ⟨led0, N6, hDc, mL, mS, mM, mC, hLv⟩ := hide9 N5 (by assumption) (leaves_in (hIl.trans rfl) hy1 hy2 hy ho9)
    clear N5
    have hSZ : IntsAre _ (sizesZ (1 + cellAt ns 0 0 % 9000)) := ints_snoc2 mS hIs
    have hzl := six_len' hsix.1
    have hzm := sizesZ_len (1 + cellAt ns 0 0 % 9000)
    have hp7 : 0 ≤ tishL (1 + cellAt ns 0 0 % 9000) % 7 ∧ tishL (1 + cellAt ns 0 0 % 9000) % 7 < 7 := by omega
    refine law_loop (gD (1 + cellAt ns 0 0 % 9000)) (cK (1 + cellAt ns 0 0 % 9000)) rfl (by assumption) (by rw [List.length_append, List.length_singleton]; omega) (by k_asm) N6 hDc (cK0 _) (congrArg (fun z => some (Value.int z _)) (gD0 _)) rfl ?_ ?_
    · intro i t V kc td u h tk own hi hV hoff F N
      rw [List.length_append, List.length_singleton] at hi
      have hi2 : i < (sizesZ (1 + cellAt ns 0 0 % 9000)).length := by omega
      obtain ⟨la, W, lk, hlv, mla, hW⟩ := leavesIn_at hLv hp7.1 hp7.2 hi2
      obtain ⟨tS, hsv⟩ := ints_at hSZ hi2
      have hS2 := size_two hsix.1 hi2
      have hrow := fun S hS => row_eq (S := S) hi2 hS
      have hgs := gD_succ hi2
      have hcs := cK_succ hi2
      have hVl := hV.length
      have hcl := cK_len hsix.1 (i := i) (by omega)
      rw [List.length_map] at hVl
      have hoff' : ∀ p ∈ led0 ++ own, p.1 ≠ _ := hoff
      have nL := List.mem_append.mpr (.inl mL (b := _ ∈ own))
      have nSz := List.mem_append.mpr (.inl mS (b := _ ∈ own))
      have nM := List.mem_append.mpr (.inl mM (b := _ ∈ own))
      have nC := List.mem_append.mpr (.inl mC (b := _ ∈ own))
      have nla := List.mem_append.mpr (.inl mla (b := _ ∈ own))
      generalize hSe : (sizesZ (1 + cellAt ns 0 0 % 9000))[i] = S at *
      (try k_fold)
      k_steps
      show wpAny _ _ _ _ _ _
      rename News _ _ _ (_ ++ _) => N9
      refine ne_rows N9 (List.mem_append.mpr (.inl (by k_mem))) hW (fun p hp => List.mem_append.mpr (.inl (by (repeat (refine List.Mem.tail _ ?_)); exact List.mem_append.mpr (.inl hp)))) (List.mem_append.mpr (.inr (by assumption))) (by assumption) (fun _ hp => List.mem_append.mpr (.inr hp)) (hrow _ rfl) (Nat.le_of_ble_eq_true rfl) ?_
      have N7 := cb_drop N9 (fun p hp => List.mem_append.mpr (.inl (.tail _ (.tail _ (.tail _ (.tail _ hp))))))
      clear N9
      rcases Nat.lt_or_ge i Vm.length with hlt | hge
      · obtain ⟨M, tM, hmv, hM1, hM2, hMS⟩ := month_facts hIm (hIl ▸ hlt) hi2 hSe
        (try k_fold)
        k_steps
        all_goals first
          | (exfalso; omega)
          | (rename News _ _ _ ((_, _) :: (_, _) :: (led0 ++ own)) => N8
             exact ⟨rfl, _, _, _, _, _, _, rfl, by k_asm, cb_drop N8 (fun _ hp => List.Mem.tail _ hp), cells_next hV hcs (by assumption), congrArg (fun z => some (Value.int z _)) hgs, rfl, fun z z1 z2 z3 => by simp only [if_neg z1, if_neg z2, if_neg z3, kstB]; rfl⟩)
      · (try k_fold)
        k_steps
        all_goals first
          | (exfalso; omega)
          | (rename News _ _ _ ((_, _) :: (_, _) :: (led0 ++ own)) => N8
             exact ⟨rfl, _, _, _, _, _, _, rfl, by k_asm, cb_drop N8 (fun _ hp => List.Mem.tail _ hp), cells_next hV hcs (by assumption), congrArg (fun z => some (Value.int z _)) hgs, rfl, fun z z1 z2 z3 => by simp only [if_neg z1, if_neg z2, if_neg z3, kstB]; rfl⟩)
    · intro V kc td u h tk hV F N
      rw [List.length_append, List.length_singleton, show Vs.length + 1 = (sizesZ (1 + cellAt ns 0 0 % 9000)).length by omega] at hV
      have hbok : (leavesT (tishL (1 + cellAt ns 0 0 % 9000) % 7) (sizesZ (1 + cellAt ns 0 0 % 9000))).length ≤ 20 ∧ ∀ l ∈ leavesT (tishL (1 + cellAt ns 0 0 % 9000) % 7) (sizesZ (1 + cellAt ns 0 0 % 9000)), RowsOk l := ⟨by rw [leavesT_len]; omega, (six_band hsix.1 hp7.1 hp7.2).2⟩
      have hcl := cK_len hsix.1 (i := (sizesZ (1 + cellAt ns 0 0 % 9000)).length) (by omega)
      have hcl2 : ((cK (1 + cellAt ns 0 0 % 9000) (sizesZ (1 + cellAt ns 0 0 % 9000)).length).map cellD).length ≤ 440 := by rw [List.length_map]; exact hcl
      (try k_fold)
      k_steps
      show wpAny _ _ _ _ _ _
      rename News _ _ _ ((_ ++ _) ++ _) => N9
      refine eq_rows N9 (List.mem_append.mpr (.inl (List.mem_append.mpr (.inr (by assumption))))) (datAll_rows (by assumption)) (fun p hp => List.mem_append.mpr (.inl hp)) (List.mem_append.mpr (.inr (by assumption))) (by assumption) (fun _ hp => List.mem_append.mpr (.inr hp)) (end_eq hsix.1).symm (Nat.le_of_ble_eq_true rfl) ?_
      (try k_fold)
      k_steps)
end Mine
theorem PySem.Challenge.cw_bd5016_01_holds : PySem.Challenge.rw_bd5016_01.Holds :=
  Mine.law_holds
