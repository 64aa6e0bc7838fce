import PyProof.Rows.All
import Wide.All
import OpenK.AllK
import Wide.FinOn
import Lean
import PySem.Challenge.RW_yi0076_01
open PySem PySem.W PySem.Calls PyProof.Rows PySem.NumText
set_option maxRecDepth 100000
set_option linter.all false
set_option Elab.async true

/-! M1 -/
namespace Mine
@[irreducible] def lawAt (ns : List Int) (i : Int) : Int := if i < (ns.length : Int) then ns.getD i.toNat 0 else Int.fdiv (53 * i * i + 29 * i) 7
theorem lawAt_lt {ns : List Int} {i : Int} (h : i < (ns.length : Int)) : ns.getD i.toNat 0 = lawAt ns i := by unfold lawAt; exact (if_pos h).symm
theorem lawAt_ge {ns : List Int} {i : Int} (h : ¬ i < (ns.length : Int)) : Int.fdiv (53 * i * i + 29 * i) 7 = lawAt ns i := by unfold lawAt; exact (if_neg h).symm

theorem pow_split {d : Int} (h1 : 1 ≤ d) (h2 : d ≤ 11) : d = 1 ∨ d = 2 ∨ d = 3 ∨ d = 4 ∨ d = 5 ∨ d = 6 ∨ d = 7 ∨ d = 8 ∨ d = 9 ∨ d = 10 ∨ d = 11 := by omega
theorem pow_bounds {d : Int} (h1 : 1 ≤ d) (h2 : d ≤ 11) : (2 : Int) ≤ 2 ^ d.toNat ∧ (2 : Int) ^ d.toNat ≤ 2048 := by
  rcases pow_split h1 h2 with rfl | rfl | rfl | rfl | rfl | rfl | rfl | rfl | rfl | rfl | rfl <;> decide
theorem pow_next {e : Int} (h : 0 ≤ e) : (2 : Int) ^ (e + 1).toNat = 2 * 2 ^ e.toNat := by
  have : (e + 1).toNat = e.toNat + 1 := by omega
  rw [this, Int.pow_succ]; omega

/-- _law_kept before the wrap -/
@[irreducible] def keptY (tw : Int) : Int := (tw + 3328) / 6658
@[irreducible] def lawKept (x d : Int) : Int :=
  if keptY (2 ^ (d + 1).toNat * x.fmod 3329) = 2 ^ d.toNat then 0 else keptY (2 ^ (d + 1).toNat * x.fmod 3329)
@[irreducible] def KP (tw d : Int) (n : Nat) (y : Int) : Prop :=
  1 ≤ d ∧ d ≤ 11 ∧ (n : Int) ≤ d + 1 ∧ y ≤ keptY tw ∧ keptY tw < y + 2 ^ (d + 1 - (n : Int)).toNat
theorem kept_start {x d : Int} (h1 : 1 ≤ d) (h2 : d ≤ 11) : KP (2 ^ (d + 1).toNat * x.fmod 3329) d ([] : List Int).length 0 := by
  have hp := pow_bounds h1 h2
  have hn := pow_next (e := d) (by omega)
  have l := fmod_lo x (n := 3329) (by decide)
  have u := fmod_hi x (n := 3329) (by decide)
  have e : d + 1 - ((([] : List Int).length : Nat) : Int) = d + 1 := by simp
  unfold KP
  refine ⟨h1, h2, ?_, ?_, ?_⟩
  · simp only [List.length_nil]; omega
  · unfold keptY
    have := Int.mul_nonneg (show (0 : Int) ≤ 2 ^ (d + 1).toNat by omega) l
    omega
  · rw [e]
    unfold keptY
    have := Int.mul_le_mul_of_nonneg_left (show x.fmod 3329 ≤ 3328 by omega) (show (0 : Int) ≤ 2 ^ (d + 1).toNat by omega)
    omega
theorem kept_pow {d : Int} {n : Nat} {k : Int} (hk : k = (n : Int)) (hl : (n : Int) < d + 1) : (2 : Int) ^ (d + 1 - (n : Int)).toNat = 2 * 2 ^ (d - k).toNat ∧ (2 : Int) ^ (d + 1 - ((n + 1 : Nat) : Int)).toNat = 2 ^ (d - k).toNat := by
  constructor
  · rw [show d + 1 - (n : Int) = (d - k) + 1 by omega]
    exact pow_next (by omega)
  · rw [show d + 1 - ((n + 1 : Nat) : Int) = d - k by omega]
theorem kept_yes {tw d y k : Int} {pre : List Int} (h : KP tw d pre.length y) (hk : k = (pre.length : Int)) (hl : (pre.length : Int) < d + 1)
    (hc : 3329 * (2 * (y + 2 ^ (d - k).toNat) - 1) < tw) : KP tw d (pre ++ [k]).length (y + 2 ^ (d - k).toNat) := by
  unfold KP at h
  obtain ⟨h1, h2, h3, h4, h5⟩ := h
  obtain ⟨e1, e2⟩ := kept_pow hk hl
  rw [e1] at h5
  rw [show (pre ++ [k]).length = pre.length + 1 by simp]
  unfold KP
  refine ⟨h1, h2, by omega, ?_, ?_⟩
  · unfold keptY at *; omega
  · rw [e2]; unfold keptY at *; omega
theorem kept_no {tw d y k : Int} {pre : List Int} (h : KP tw d pre.length y) (hk : k = (pre.length : Int)) (hl : (pre.length : Int) < d + 1)
    (hc : ¬ 3329 * (2 * (y + 2 ^ (d - k).toNat) - 1) < tw) : KP tw d (pre ++ [k]).length y := by
  unfold KP at h
  obtain ⟨h1, h2, h3, h4, h5⟩ := h
  obtain ⟨e1, e2⟩ := kept_pow hk hl
  rw [e1] at h5
  rw [show (pre ++ [k]).length = pre.length + 1 by simp]
  unfold KP
  refine ⟨h1, h2, by omega, ?_, ?_⟩
  · unfold keptY at *; omega
  · rw [e2]; unfold keptY at *; omega
theorem kept_done {tw d y : Int} {n : Nat} (h : KP tw d n y) (hn : (n : Int) = d + 1) : y = keptY tw := by
  unfold KP at h
  obtain ⟨h1, h2, h3, h4, h5⟩ := h
  rw [show (d + 1 - (n : Int)).toNat = 0 by omega] at h5
  have : (2 : Int) ^ 0 = 1 := rfl
  omega
theorem kept_ret0 {x d y : Int} {n : Nat} (h : KP (2 ^ (d + 1).toNat * x.fmod 3329) d n y) (hn : (n : Int) = d + 1) (hy : y = 2 ^ d.toNat) : 0 = lawKept x d := by
  have := kept_done h hn
  unfold lawKept
  rw [if_pos (this.symm.trans hy)]
theorem kept_ret {x d y : Int} {n : Nat} (h : KP (2 ^ (d + 1).toNat * x.fmod 3329) d n y) (hn : (n : Int) = d + 1) (hy : ¬ y = 2 ^ d.toNat) : y = lawKept x d := by
  have := kept_done h hn
  unfold lawKept
  rw [if_neg (fun e => hy (this.trans e))]
  exact this
theorem keptY_bounds {x d : Int} (h1 : 1 ≤ d) (h2 : d ≤ 11) : 0 ≤ keptY (2 ^ (d + 1).toNat * x.fmod 3329) ∧ keptY (2 ^ (d + 1).toNat * x.fmod 3329) ≤ 2 ^ d.toNat := by
  have hp := pow_bounds h1 h2
  have hn := pow_next (e := d) (by omega)
  have l := fmod_lo x (n := 3329) (by decide)
  have u := fmod_hi x (n := 3329) (by decide)
  have a := Int.mul_nonneg (show (0 : Int) ≤ 2 ^ (d + 1).toNat by omega) l
  have b := Int.mul_le_mul_of_nonneg_left (show x.fmod 3329 ≤ 3328 by omega) (show (0 : Int) ≤ 2 ^ (d + 1).toNat by omega)
  unfold keptY
  omega
theorem lawKept_bounds (x d : Int) (h1 : 1 ≤ d) (h2 : d ≤ 11) : 0 ≤ lawKept x d ∧ lawKept x d < 2 ^ d.toNat := by
  have hp := pow_bounds h1 h2
  have := keptY_bounds (x := x) h1 h2
  unfold lawKept
  split <;> omega

/-- _law_back -/
@[irreducible] def lawBack (y d : Int) : Int := (6658 * y + 2 ^ d.toNat) / (2 * 2 ^ d.toNat)
@[irreducible] def BP (y d : Int) (n : Nat) (z : Int) : Prop :=
  1 ≤ d ∧ d ≤ 11 ∧ 0 ≤ y ∧ y < 2 ^ d.toNat ∧ n ≤ 12 ∧ z ≤ lawBack y d ∧ lawBack y d < z + 2 ^ (12 - n)
theorem lawBack_bounds {y d : Int} (h1 : 1 ≤ d) (h2 : d ≤ 11) (h3 : 0 ≤ y) (h4 : y < 2 ^ d.toNat) : 0 ≤ lawBack y d ∧ lawBack y d ≤ 3329 := by
  have hp := pow_bounds h1 h2
  unfold lawBack
  generalize (2 : Int) ^ d.toNat = t at *
  constructor
  · exact Int.ediv_nonneg (by omega) (by omega)
  · refine Int.lt_add_one_iff.mp (Int.ediv_lt_of_lt_mul (by omega) ?_)
    omega
theorem back_start {y d : Int} (h1 : 1 ≤ d) (h2 : d ≤ 11) (h3 : 0 ≤ y) (h4 : y < 2 ^ d.toNat) : BP y d ([] : List Int).length 0 := by
  have := lawBack_bounds h1 h2 h3 h4
  unfold BP
  refine ⟨h1, h2, h3, h4, by simp, by omega, ?_⟩
  have e : (2 : Int) ^ (12 - ([] : List Int).length) = 4096 := by decide
  omega
theorem back_le {y d z : Int} (h1 : 1 ≤ d) (h2 : d ≤ 11) : 2 ^ d.toNat * (2 * z - 1) ≤ 6658 * y ↔ z ≤ lawBack y d := by
  have hp := pow_bounds h1 h2
  unfold lawBack
  generalize (2 : Int) ^ d.toNat = t at *
  rw [Int.le_ediv_iff_mul_le (by omega)]
  have e1 : t * (2 * z - 1) = 2 * (t * z) - t := by rw [Int.mul_sub, Int.mul_one, Int.mul_left_comm]
  have e2 : z * (2 * t) = 2 * (t * z) := by rw [Int.mul_left_comm, Int.mul_comm z t]
  rw [e1, e2]
  omega
theorem back_pow {n : Nat} {k : Int} (hk : k = (n : Int)) (hl : n < 12) : (2 : Int) ^ (12 - n) = 2 * 2 ^ (11 - k).toNat ∧ (2 : Int) ^ (12 - (n + 1)) = 2 ^ (11 - k).toNat := by
  have a : 12 - n = (11 - k).toNat + 1 := by omega
  have b : 12 - (n + 1) = (11 - k).toNat := by omega
  rw [a, b, Int.pow_succ]
  exact ⟨Int.mul_comm _ _, rfl⟩
theorem back_yes {y d z k : Int} {pre : List Int} (h : BP y d pre.length z) (hk : k = (pre.length : Int)) (hl : pre.length < 12)
    (hc : 2 ^ d.toNat * (2 * (z + 2 ^ (11 - k).toNat) - 1) ≤ 6658 * y) : BP y d (pre ++ [k]).length (z + 2 ^ (11 - k).toNat) := by
  unfold BP at h
  obtain ⟨h1, h2, h3, h4, h5, h6, h7⟩ := h
  obtain ⟨e1, e2⟩ := back_pow hk hl
  rw [e1] at h7
  have := (back_le h1 h2).mp hc
  rw [show (pre ++ [k]).length = pre.length + 1 by simp]
  unfold BP
  refine ⟨h1, h2, h3, h4, by omega, this, ?_⟩
  rw [e2]; omega
theorem back_no {y d z k : Int} {pre : List Int} (h : BP y d pre.length z) (hk : k = (pre.length : Int)) (hl : pre.length < 12)
    (hc : ¬ 2 ^ d.toNat * (2 * (z + 2 ^ (11 - k).toNat) - 1) ≤ 6658 * y) : BP y d (pre ++ [k]).length z := by
  unfold BP at h
  obtain ⟨h1, h2, h3, h4, h5, h6, h7⟩ := h
  obtain ⟨e1, e2⟩ := back_pow hk hl
  rw [e1] at h7
  have := (not_congr (back_le h1 h2)).mp hc
  rw [show (pre ++ [k]).length = pre.length + 1 by simp]
  unfold BP
  refine ⟨h1, h2, h3, h4, by omega, h6, ?_⟩
  rw [e2]; omega
theorem back_z {y d z : Int} {n : Nat} (h : BP y d n z) : z ≤ 3329 := by
  unfold BP at h
  obtain ⟨h1, h2, h3, h4, h5, h6, h7⟩ := h
  have := lawBack_bounds h1 h2 h3 h4
  omega
theorem back_ret {y d z : Int} {n : Nat} (h : BP y d n z) (hn : n = 12) : z = lawBack y d := by
  unfold BP at h
  obtain ⟨h1, h2, h3, h4, h5, h6, h7⟩ := h
  subst hn
  have : (2 : Int) ^ (12 - 12) = 1 := rfl
  omega
end Mine
namespace Mine
theorem back_startP {y d : Int} (h1 : 1 ≤ d) (h2 : d ≤ 11) (h3 : 0 ≤ y) (h4 : y < 2 ^ d.toNat) : (0 : Int) ≤ 0 ∧ (0 : Int) ≤ 4096 ∧ BP y d ([] : List Int).length 0 :=
  ⟨by decide, by decide, back_start h1 h2 h3 h4⟩
theorem back_yesP {y d z k : Int} {pre : List Int} (h : BP y d pre.length z) (hz : 0 ≤ z) (hk : k = (pre.length : Int)) (hl : pre.length < 12)
    (hc : 2 ^ d.toNat * (2 * (z + 2 ^ (11 - k).toNat) - 1) ≤ 6658 * y) : 0 ≤ z + 2 ^ (11 - k).toNat ∧ z + 2 ^ (11 - k).toNat ≤ 4096 ∧ BP y d (pre ++ [k]).length (z + 2 ^ (11 - k).toNat) := by
  have b := back_yes h hk hl hc
  have u := back_z b
  have p : (0 : Int) < 2 ^ (11 - k).toNat := Int.pow_pos (by decide)
  exact ⟨by omega, by omega, b⟩
theorem back_noP {y d z k : Int} {pre : List Int} (h : BP y d pre.length z) (hz : 0 ≤ z) (hk : k = (pre.length : Int)) (hl : pre.length < 12)
    (hc : ¬ 2 ^ d.toNat * (2 * (z + 2 ^ (11 - k).toNat) - 1) ≤ 6658 * y) : 0 ≤ z ∧ z ≤ 4096 ∧ BP y d (pre ++ [k]).length z := by
  have b := back_no h hk hl hc
  have u := back_z b
  exact ⟨by omega, by omega, b⟩
theorem lawKept_fact (x d : Int) : 0 ≤ lawKept x d ∧ lawKept x d < 2 ^ d.toNat := by
  have l := fmod_lo x (n := 3329) (by decide)
  have u := fmod_hi x (n := 3329) (by decide)
  have hp : (0 : Int) < 2 ^ d.toNat := Int.pow_pos (by decide)
  by_cases hd : 0 ≤ d
  · have hn := pow_next (e := d) hd
    have a := Int.mul_nonneg (show (0 : Int) ≤ 2 ^ (d + 1).toNat by omega) l
    have b := Int.mul_le_mul_of_nonneg_left (show x.fmod 3329 ≤ 3328 by omega) (show (0 : Int) ≤ 2 ^ (d + 1).toNat by omega)
    unfold lawKept keptY
    split <;> omega
  · have e : (d + 1).toNat = 0 := by omega
    have e2 : (2 : Int) ^ d.toNat = 1 := by rw [show d.toNat = 0 by omega]; rfl
    unfold lawKept keptY
    rw [e, e2]
    have e3 : (2 : Int) ^ 0 = 1 := rfl
    rw [e3]
    split <;> omega
end Mine

/-! M2 -/
namespace Mine
/-- _compress_ele and _decompress_ele, T the power -/
@[irreducible] def comp (T x : Int) : Int := Int.fmod (Int.fdiv (T * x + 1664) 3329) T
@[irreducible] def deco (T y : Int) : Int := Int.fdiv (3329 * y + T / 2) T
theorem comp_e {T : Int} (h : 0 ≤ T) (x : Int) : comp T x = (T * x + 1664) / 3329 % T := by
  unfold comp
  rw [Int.fmod_eq_emod_of_nonneg _ h, Int.fdiv_eq_ediv_of_nonneg _ (by decide)]
theorem deco_e {T : Int} (h : 0 ≤ T) (y : Int) : deco T y = (3329 * y + T / 2) / T := by
  unfold deco
  rw [Int.fdiv_eq_ediv_of_nonneg _ h]
/-- what holds of one number X of the row -/
@[irreducible] def Pt (d X rest y z low : Int) : Prop :=
  rest + 1664 = (2 ^ d.toNat * X + 1664) % 3329 ∧ y = comp (2 ^ d.toNat) X ∧ z = deco (2 ^ d.toNat) y ∧ low = 3329 * y - 2 ^ d.toNat * z
theorem kept_e {d x : Int} (h1 : 1 ≤ d) (h2 : d ≤ 11) : ∃ Y : Int, Y = (2 ^ d.toNat * (x % 3329) + 1664) / 3329 ∧ 0 ≤ Y ∧ Y ≤ 2 ^ d.toNat ∧ lawKept x d = (if Y = 2 ^ d.toNat then 0 else Y) ∧
    (2 ^ d.toNat * x + 1664) / 3329 = Y + 2 ^ d.toNat * (x / 3329) ∧ (2 ^ d.toNat * x + 1664) % 3329 = 2 ^ d.toNat * (x % 3329) + 1664 - 3329 * Y := by
  have hp := pow_bounds h1 h2
  have hb := keptY_bounds (x := x) h1 h2
  unfold lawKept keptY at *
  rw [Int.fmod_eq_emod_of_nonneg _ (by decide), pow_next (e := d) (by omega)] at *
  generalize (2 : Int) ^ d.toNat = t at *
  have e1 : (2 * t * (x % 3329) + 3328) / 6658 = (t * (x % 3329) + 1664) / 3329 := by rw [Int.mul_assoc]; omega
  rw [e1]
  refine ⟨_, rfl, by omega, by omega, rfl, ?_, ?_⟩
  · have e : t * x = t * (x % 3329) + 3329 * (t * (x / 3329)) := by
      rw [Int.mul_left_comm, ← Int.mul_add, Int.emod_add_mul_ediv]
    rw [e]; omega
  · have e : t * x = t * (x % 3329) + 3329 * (t * (x / 3329)) := by
      rw [Int.mul_left_comm, ← Int.mul_add, Int.emod_add_mul_ediv]
    rw [e]; omega
theorem kept_comp {d x : Int} (h1 : 1 ≤ d) (h2 : d ≤ 11) : lawKept x d = comp (2 ^ d.toNat) x := by
  obtain ⟨Y, e, l, u, k, q, r⟩ := kept_e (x := x) h1 h2
  have hp := pow_bounds h1 h2
  rw [comp_e (by omega), q, Int.add_mul_emod_self_left, k]
  split
  · rename_i h; rw [h, Int.emod_self]
  · rw [Int.emod_eq_of_lt l (by omega)]
theorem back_deco {d y : Int} (h1 : 1 ≤ d) (h2 : d ≤ 11) : lawBack y d = deco (2 ^ d.toNat) y := by
  rw [deco_e (by have := pow_bounds h1 h2; omega)]
  unfold lawBack
  rcases pow_split h1 h2 with rfl | rfl | rfl | rfl | rfl | rfl | rfl | rfl | rfl | rfl | rfl <;>
    simp only [Int.reduceToNat, Int.reducePow, Int.reduceMul, Int.reduceDiv] <;> omega
theorem pt_start {d start r : Int} (h1 : 1 ≤ d) (h2 : d ≤ 11)
    (hr : (1664 < 2 ^ d.toNat * start.fmod 3329 - 3329 * lawKept start d ∧ r = 2 ^ d.toNat * start.fmod 3329 - 3329 * lawKept start d - 3329 * 2 ^ d.toNat) ∨
      (¬ 1664 < 2 ^ d.toNat * start.fmod 3329 - 3329 * lawKept start d ∧ r = 2 ^ d.toNat * start.fmod 3329 - 3329 * lawKept start d)) :
    Pt d start r (lawKept start d) (lawBack (lawKept start d) d) (3329 * lawKept start d - 2 ^ d.toNat * lawBack (lawKept start d) d) := by
  have hp := pow_bounds h1 h2
  unfold Pt
  refine ⟨?_, kept_comp h1 h2, back_deco h1 h2, rfl⟩
  obtain ⟨Y, e, l, u, k, q, m⟩ := kept_e (x := start) h1 h2
  rw [Int.fmod_eq_emod_of_nonneg _ (by decide)] at hr
  rw [k] at hr
  rw [m]
  split at hr <;> omega
theorem div_next {N T : Int} (h0 : 0 ≤ T) (h1 : T < 3329) :
    (N % 3329 + T < 3329 → (N + T) / 3329 = N / 3329 ∧ (N + T) % 3329 = N % 3329 + T) ∧
    (¬ N % 3329 + T < 3329 → (N + T) / 3329 = N / 3329 + 1 ∧ (N + T) % 3329 = N % 3329 + T - 3329) := by omega
theorem mod_next {d Q : Int} (h1 : 1 ≤ d) (h2 : d ≤ 11) :
    (Q % 2 ^ d.toNat + 1 = 2 ^ d.toNat → (Q + 1) % 2 ^ d.toNat = 0) ∧ (¬ Q % 2 ^ d.toNat + 1 = 2 ^ d.toNat → (Q + 1) % 2 ^ d.toNat = Q % 2 ^ d.toNat + 1) := by
  rcases pow_split h1 h2 with rfl | rfl | rfl | rfl | rfl | rfl | rfl | rfl | rfl | rfl | rfl <;>
    simp only [Int.reduceToNat, Int.reducePow] <;> omega
theorem num_next (T X : Int) : T * (X + 1) + 1664 = (T * X + 1664) + T := by rw [Int.mul_add, Int.mul_one]; omega
theorem pt_same {d X rest y z low : Int} (h1 : 1 ≤ d) (h2 : d ≤ 11) (h : Pt d X rest y z low) (hc : ¬ 1664 < rest + 2 ^ d.toNat) : Pt d (X + 1) (rest + 2 ^ d.toNat) y z low := by
  have hp := pow_bounds h1 h2
  unfold Pt at *
  rw [comp_e (by omega)] at *
  rw [num_next]
  obtain ⟨a, b, c, e⟩ := h
  have hn := (div_next (N := 2 ^ d.toNat * X + 1664) (T := 2 ^ d.toNat) (by omega) (by omega)).1 (by omega)
  rw [hn.1, hn.2]
  exact ⟨by omega, b, c, e⟩
theorem deco_u {d y z low : Int} (h1 : 1 ≤ d) (h2 : d ≤ 11) (e : low = 3329 * y - 2 ^ d.toNat * z) (l : -(2 ^ d.toNat) ≤ 2 * low) (u : ¬ 2 ^ d.toNat ≤ 2 * low) : z = deco (2 ^ d.toNat) y := by
  rw [deco_e (by have := pow_bounds h1 h2; omega)]
  rcases pow_split h1 h2 with rfl | rfl | rfl | rfl | rfl | rfl | rfl | rfl | rfl | rfl | rfl <;>
    simp only [Int.reduceToNat, Int.reducePow, Int.reduceDiv] at * <;> omega
theorem pt_step {d X rest y z low low1 z1 : Int} (h1 : 1 ≤ d) (h2 : d ≤ 11) (h : Pt d X rest y z low) (hc : 1664 < rest + 2 ^ d.toNat)
    (e : low1 = 3329 * (y + 1) - 2 ^ d.toNat * z1) (l : -(2 ^ d.toNat) ≤ 2 * low1) (u : ¬ 2 ^ d.toNat ≤ 2 * low1) (hy : ¬ y + 1 = 2 ^ d.toNat) : Pt d (X + 1) (rest + 2 ^ d.toNat - 3329) (y + 1) z1 low1 := by
  have hp := pow_bounds h1 h2
  have hz := deco_u h1 h2 e l u
  unfold Pt at *
  rw [comp_e (by omega)] at *
  rw [num_next]
  obtain ⟨a, b, c, e'⟩ := h
  have hn := (div_next (N := 2 ^ d.toNat * X + 1664) (T := 2 ^ d.toNat) (by omega) (by omega)).2 (by omega)
  rw [hn.1, hn.2]
  have hm := (mod_next (Q := (2 ^ d.toNat * X + 1664) / 3329) h1 h2).2 (by omega)
  exact ⟨by omega, by omega, hz, e⟩
theorem deco_top {d z low : Int} (h1 : 1 ≤ d) (h2 : d ≤ 11) (e : low = 3329 * 2 ^ d.toNat - 2 ^ d.toNat * z) (l : -(2 ^ d.toNat) ≤ 2 * low) (u : ¬ 2 ^ d.toNat ≤ 2 * low) : low = 0 := by
  rcases pow_split h1 h2 with rfl | rfl | rfl | rfl | rfl | rfl | rfl | rfl | rfl | rfl | rfl <;>
    simp only [Int.reduceToNat, Int.reducePow, Int.reduceMul] at * <;> omega
theorem deco_0 {d : Int} (h1 : 1 ≤ d) (h2 : d ≤ 11) : (0 : Int) = deco (2 ^ d.toNat) 0 := by
  rcases pow_split h1 h2 with rfl | rfl | rfl | rfl | rfl | rfl | rfl | rfl | rfl | rfl | rfl <;> (unfold deco; decide)
theorem pt_wrap {d X rest y z low low1 z1 : Int} (h1 : 1 ≤ d) (h2 : d ≤ 11) (h : Pt d X rest y z low) (hc : 1664 < rest + 2 ^ d.toNat)
    (e : low1 = 3329 * (y + 1) - 2 ^ d.toNat * z1) (l : -(2 ^ d.toNat) ≤ 2 * low1) (u : ¬ 2 ^ d.toNat ≤ 2 * low1) (hy : y + 1 = 2 ^ d.toNat) : Pt d (X + 1) (rest + 2 ^ d.toNat - 3329) 0 0 low1 := by
  have hp := pow_bounds h1 h2
  have hl := deco_top h1 h2 (by rw [hy] at e; exact e) l u
  unfold Pt at *
  rw [comp_e (by omega)] at *
  rw [num_next]
  obtain ⟨a, b, c, e'⟩ := h
  have hn := (div_next (N := 2 ^ d.toNat * X + 1664) (T := 2 ^ d.toNat) (by omega) (by omega)).2 (by omega)
  rw [hn.1, hn.2]
  have hm := (mod_next (Q := (2 ^ d.toNat * X + 1664) / 3329) h1 h2).1 (by omega)
  exact ⟨by omega, hm.symm, deco_0 h1 h2, by omega⟩
theorem pt_low {d X rest y z low : Int} (h1 : 1 ≤ d) (h2 : d ≤ 11) (h : Pt d X rest y z low) : -(2 ^ d.toNat) ≤ 2 * low ∧ 2 * low < 2 ^ d.toNat ∧ 0 ≤ y ∧ y < 2 ^ d.toNat ∧ -1664 ≤ rest ∧ rest ≤ 1664 := by
  unfold Pt at *
  rw [comp_e (by have := pow_bounds h1 h2; omega), deco_e (by have := pow_bounds h1 h2; omega)] at *
  rcases pow_split h1 h2 with rfl | rfl | rfl | rfl | rfl | rfl | rfl | rfl | rfl | rfl | rfl <;>
    simp only [Int.reduceToNat, Int.reducePow, Int.reduceMul, Int.reduceDiv] at * <;> (refine ⟨?_, ?_, ?_, ?_, ?_, ?_⟩ <;> omega)
end Mine
namespace Mine
@[irreducible] def xsOf (start : Int) (n : Nat) : List Int := (List.range n).map fun i : Nat => start + (i : Int)
@[irreducible] def ysOf (d start : Int) (n : Nat) : List Int := (List.range n).map fun i : Nat => comp (2 ^ d.toNat) (start + (i : Int))
@[irreducible] def zsOf (d start : Int) (n : Nat) : List Int := (List.range n).map fun i : Nat => deco (2 ^ d.toNat) (comp (2 ^ d.toNat) (start + (i : Int)))
theorem xsOf_succ (start : Int) (n : Nat) : xsOf start (n + 1) = xsOf start n ++ [start + (n : Int)] := by unfold xsOf; simp [List.range_succ]
theorem ysOf_succ (d start : Int) (n : Nat) : ysOf d start (n + 1) = ysOf d start n ++ [comp (2 ^ d.toNat) (start + (n : Int))] := by unfold ysOf; simp [List.range_succ]
theorem zsOf_succ (d start : Int) (n : Nat) : zsOf d start (n + 1) = zsOf d start n ++ [deco (2 ^ d.toNat) (comp (2 ^ d.toNat) (start + (n : Int)))] := by unfold zsOf; simp [List.range_succ]
@[irreducible] def ML (d start : Int) (n : Nat) (rest y z low : Int) (xs ys zs : List Int) : Prop :=
  1 ≤ d ∧ d ≤ 11 ∧ xs = xsOf start n ∧ ys = ysOf d start n ∧ zs = zsOf d start n ∧ Pt d (start + (n : Int)) rest y z low
/-- the inner while -/
@[irreducible] def WP (T y low z : Int) : Prop := low = 3329 * y - T * z
theorem xsOf_length (start : Int) (n : Nat) : (xsOf start n).length = n := by unfold xsOf; simp
theorem ysOf_length (d start : Int) (n : Nat) : (ysOf d start n).length = n := by unfold ysOf; simp
theorem zsOf_length (d start : Int) (n : Nat) : (zsOf d start n).length = n := by unfold zsOf; simp
theorem ml_start {d start r : Int} (h1 : 1 ≤ d) (h2 : d ≤ 11)
    (hr : (1664 < 2 ^ d.toNat * start.fmod 3329 - 3329 * lawKept start d ∧ r = 2 ^ d.toNat * start.fmod 3329 - 3329 * lawKept start d - 3329 * 2 ^ d.toNat) ∨
      (¬ 1664 < 2 ^ d.toNat * start.fmod 3329 - 3329 * lawKept start d ∧ r = 2 ^ d.toNat * start.fmod 3329 - 3329 * lawKept start d)) :
    ([] : List Int).length = ([] : List Int).length ∧ ([] : List Int).length = ([] : List Int).length ∧ ([] : List Int).length = ([] : List Int).length ∧
    ML d start ([] : List Int).length r (lawKept start d) (lawBack (lawKept start d) d) (3329 * lawKept start d - 2 ^ d.toNat * lawBack (lawKept start d) d) [] [] [] := by
  refine ⟨rfl, rfl, rfl, ?_⟩
  unfold ML
  refine ⟨h1, h2, by unfold xsOf; rfl, by unfold ysOf; rfl, by unfold zsOf; rfl, ?_⟩
  have e : start + ((([] : List Int).length : Nat) : Int) = start := by simp
  rw [e]
  exact pt_start h1 h2 hr
theorem ml_next {d start rest y z low rest1 y1 z1 low1 k : Int} {pre xs ys zs : List Int} (h : ML d start pre.length rest y z low xs ys zs) (hk : k = 0 + (pre.length : Int))
    (hp : Pt d (start + (pre.length : Int) + 1) rest1 y1 z1 low1) :
    (xs ++ [start + k]).length = (pre ++ [k]).length ∧ (ys ++ [y]).length = (pre ++ [k]).length ∧ (zs ++ [z]).length = (pre ++ [k]).length ∧
    ML d start (pre ++ [k]).length rest1 y1 z1 low1 (xs ++ [start + k]) (ys ++ [y]) (zs ++ [z]) := by
  unfold ML at h
  obtain ⟨h1, h2, ex, ey, ez, p⟩ := h
  have p' := p
  unfold Pt at p
  have e : (pre ++ [k]).length = pre.length + 1 := by simp
  have e1 : xs ++ [start + k] = xsOf start (pre.length + 1) := by rw [xsOf_succ, ex, hk, Int.zero_add]
  have e2 : ys ++ [y] = ysOf d start (pre.length + 1) := by rw [ysOf_succ, ey, p.2.1]
  have e3 : zs ++ [z] = zsOf d start (pre.length + 1) := by rw [zsOf_succ, ez, p.2.2.1, p.2.1]
  rw [e, e1, e2, e3]
  refine ⟨xsOf_length _ _, ysOf_length _ _ _, zsOf_length _ _ _, ?_⟩
  unfold ML
  refine ⟨h1, h2, rfl, rfl, rfl, ?_⟩
  have e2 : start + ((pre.length + 1 : Nat) : Int) = start + (pre.length : Int) + 1 := by omega
  rw [e2]; exact hp
theorem ml_same {d start rest y z low k : Int} {pre xs ys zs : List Int} (h : ML d start pre.length rest y z low xs ys zs) (hk : k = 0 + (pre.length : Int)) (hc : ¬ 1664 < rest + 2 ^ d.toNat) :
    (xs ++ [start + k]).length = (pre ++ [k]).length ∧ (ys ++ [y]).length = (pre ++ [k]).length ∧ (zs ++ [z]).length = (pre ++ [k]).length ∧
    ML d start (pre ++ [k]).length (rest + 2 ^ d.toNat) y z low (xs ++ [start + k]) (ys ++ [y]) (zs ++ [z]) :=
  ml_next h hk (by unfold ML at h; exact pt_same h.1 h.2.1 h.2.2.2.2.2 hc)
theorem ml_step {d start rest y z low low1 z1 k : Int} {pre xs ys zs : List Int} (h : ML d start pre.length rest y z low xs ys zs) (hk : k = 0 + (pre.length : Int)) (hc : 1664 < rest + 2 ^ d.toNat)
    (e : WP (2 ^ d.toNat) (y + 1) low1 z1) (l : -(2 ^ d.toNat) ≤ 2 * low1) (u : ¬ 2 ^ d.toNat ≤ 2 * low1) (hy : ¬ y + 1 = 2 ^ d.toNat) :
    (xs ++ [start + k]).length = (pre ++ [k]).length ∧ (ys ++ [y]).length = (pre ++ [k]).length ∧ (zs ++ [z]).length = (pre ++ [k]).length ∧
    ML d start (pre ++ [k]).length (rest + 2 ^ d.toNat - 3329) (y + 1) z1 low1 (xs ++ [start + k]) (ys ++ [y]) (zs ++ [z]) :=
  ml_next h hk (by unfold ML at h; unfold WP at e; exact pt_step h.1 h.2.1 h.2.2.2.2.2 hc e l u hy)
theorem ml_wrap {d start rest y z low low1 z1 k : Int} {pre xs ys zs : List Int} (h : ML d start pre.length rest y z low xs ys zs) (hk : k = 0 + (pre.length : Int)) (hc : 1664 < rest + 2 ^ d.toNat)
    (e : WP (2 ^ d.toNat) (y + 1) low1 z1) (l : -(2 ^ d.toNat) ≤ 2 * low1) (u : ¬ 2 ^ d.toNat ≤ 2 * low1) (hy : y + 1 = 2 ^ d.toNat) :
    (xs ++ [start + k]).length = (pre ++ [k]).length ∧ (ys ++ [y]).length = (pre ++ [k]).length ∧ (zs ++ [z]).length = (pre ++ [k]).length ∧
    ML d start (pre ++ [k]).length (rest + 2 ^ d.toNat - 3329) 0 0 low1 (xs ++ [start + k]) (ys ++ [y]) (zs ++ [z]) :=
  ml_next h hk (by unfold ML at h; unfold WP at e; exact pt_wrap h.1 h.2.1 h.2.2.2.2.2 hc e l u hy)
theorem wp_start {d start rest y z low : Int} {n : Nat} {xs ys zs : List Int} (h' : ML d start n rest y z low xs ys zs) : WP (2 ^ d.toNat) (y + 1) (low + 3329) z ∧ -(2 ^ d.toNat) ≤ 2 * (low + 3329) := by
  unfold ML at h'
  obtain ⟨h1, h2, _, _, _, h⟩ := h'
  have l := pt_low h1 h2 h
  unfold Pt at h
  obtain ⟨a, b, c, e⟩ := h
  exact ⟨by unfold WP; omega, by omega⟩
theorem wp_turn {T y low z : Int} (h : WP T y low z) (l : -T ≤ 2 * low) (ht : 2 ≤ T) (hc : T ≤ 2 * low) : WP T y (low - T) (z + 1) ∧ -T ≤ 2 * (low - T) := by
  unfold WP at *
  rw [Int.mul_add, Int.mul_one]
  exact ⟨by omega, by omega⟩
end Mine
namespace Mine
theorem ml_done {d start rest y z low : Int} {xs ys zs : List Int} (h : ML d start (rangeKs 0 ((256 : Int) - 0).toNat).length rest y z low xs ys zs) : xs = xsOf start 256 ∧ ys = ysOf d start 256 ∧ zs = zsOf d start 256 := by
  have e : (rangeKs 0 ((256 : Int) - 0).toNat).length = 256 := by rw [rangeKs_length]; rfl
  rw [e] at h
  unfold ML at h
  exact ⟨h.2.2.1, h.2.2.2.1, h.2.2.2.2.1⟩
theorem lt128 {k : Int} (h : k < 0 + (((128 : Int) - 0).toNat : Int)) : k < 128 := by simpa using h
end Mine

/-! M3 -/
namespace Mine
/-- the walker's own words for the two element functions -/
theorem pow_half {d : Int} (h1 : 1 ≤ d) (h2 : d ≤ 11) : (1 : Int) * 2 ^ (d - 1).toNat = 2 ^ d.toNat / 2 := by
  rcases pow_split h1 h2 with rfl | rfl | rfl | rfl | rfl | rfl | rfl | rfl | rfl | rfl | rfl <;> decide
theorem cfun_eq (d : Int) : (fun k' : Int => ((1 * 2 ^ d.toNat * k' + 1664).fdiv 3329).fmod (1 * 2 ^ d.toNat)) = comp (2 ^ d.toNat) := by
  funext k; unfold comp; rw [Int.one_mul]
theorem dfun_eq {d : Int} (h1 : 1 ≤ d) (h2 : d ≤ 11) : (fun k' : Int => (3329 * k' + 1 * 2 ^ (d - 1).toNat).fdiv (2 ^ d.toNat)) = deco (2 ^ d.toNat) := by
  funext k; unfold deco; rw [pow_half h1 h2]
theorem cmp1 (d start : Int) : List.map (fun k' : Int => ((1 * 2 ^ d.toNat * k' + 1664).fdiv 3329).fmod (1 * 2 ^ d.toNat)) (xsOf start 256) = ysOf d start 256 := by
  rw [cfun_eq]; unfold xsOf ysOf; rw [List.map_map]; rfl
theorem cmp2 {d : Int} (start : Int) (h1 : 1 ≤ d) (h2 : d ≤ 11) : List.map (fun k' : Int => (3329 * k' + 1 * 2 ^ (d - 1).toNat).fdiv (2 ^ d.toNat)) (ysOf d start 256) = zsOf d start 256 := by
  rw [dfun_eq h1 h2]; unfold ysOf zsOf; rw [List.map_map]; rfl
theorem comp_range {d : Int} (x : Int) (h1 : 1 ≤ d) (h2 : d ≤ 11) : 0 ≤ comp (2 ^ d.toNat) x ∧ comp (2 ^ d.toNat) x < 2 ^ d.toNat := by
  have hp := pow_bounds h1 h2
  rw [comp_e (by omega)]
  exact ⟨Int.emod_nonneg _ (by omega), Int.emod_lt_of_pos _ (by omega)⟩
theorem deco_near {d y : Int} (h1 : 1 ≤ d) (h2 : d ≤ 11) : 3329 * y - 1024 ≤ 2 ^ d.toNat * deco (2 ^ d.toNat) y ∧ 2 ^ d.toNat * deco (2 ^ d.toNat) y ≤ 3329 * y + 1024 := by
  rw [deco_e (by have := pow_bounds h1 h2; omega)]
  rcases pow_split h1 h2 with rfl | rfl | rfl | rfl | rfl | rfl | rfl | rfl | rfl | rfl | rfl <;>
    simp only [Int.reduceToNat, Int.reducePow, Int.reduceDiv] at * <;> omega
theorem comp_deco {d y : Int} (h1 : 1 ≤ d) (h2 : d ≤ 11) (l : 0 ≤ y) (u : y < 2 ^ d.toNat) : comp (2 ^ d.toNat) (deco (2 ^ d.toNat) y) = y := by
  have n := deco_near (y := y) h1 h2
  rw [comp_e (by have := pow_bounds h1 h2; omega)]
  have e : (2 ^ d.toNat * deco (2 ^ d.toNat) y + 1664) / 3329 = y := by omega
  rw [e, Int.emod_eq_of_lt l u]
theorem cmp3 {d : Int} (start : Int) (h1 : 1 ≤ d) (h2 : d ≤ 11) : List.map (fun k' : Int => ((1 * 2 ^ d.toNat * k' + 1664).fdiv 3329).fmod (1 * 2 ^ d.toNat)) (zsOf d start 256) = ysOf d start 256 := by
  rw [cfun_eq]; unfold zsOf ysOf; rw [List.map_map]
  refine List.map_congr_left fun i _ => ?_
  have r := comp_range (start + (i : Int)) h1 h2
  exact comp_deco h1 h2 r.1 r.2
theorem xs_at (start : Int) {i : Int} (h0 : 0 ≤ i) (h1 : i < 256) : (xsOf start 256).getD i.toNat 0 = start + i := by
  have hi : i.toNat < 256 := by omega
  unfold xsOf
  simp only [List.getD_eq_getElem?_getD, List.getElem?_map, List.getElem?_range hi, Option.map_some, Option.getD_some]
  omega
theorem zs_at (d start : Int) {i : Int} (h0 : 0 ≤ i) (h1 : i < 256) : (zsOf d start 256).getD i.toNat 0 = deco (2 ^ d.toNat) (comp (2 ^ d.toNat) (start + i)) := by
  have hi : i.toNat < 256 := by omega
  have e : ((i.toNat : Nat) : Int) = i := Int.toNat_of_nonneg h0
  unfold zsOf
  simp only [List.getD_eq_getElem?_getD, List.getElem?_map, List.getElem?_range hi, Option.map_some, Option.getD_some, e]
theorem near_mod {z x' qq B : Int} (hB : 0 ≤ B) (hB1 : B < 1664) (h : (-B ≤ z - x' ∧ z - x' ≤ B) ∨ (-B ≤ z + 3329 - x' ∧ z + 3329 - x' ≤ B)) :
    ¬ (B < (z - (3329 * qq + x')) % 3329 ∧ B < 3329 - (z - (3329 * qq + x')) % 3329) := by
  have e : (z - (3329 * qq + x')) % 3329 = (z - x') % 3329 := by omega
  rw [e]
  omega
theorem away_ok {d : Int} (x : Int) (h1 : 1 ≤ d) (h2 : d ≤ 11) :
    ¬ (Int.fdiv (3329 + 2 ^ d.toNat) (2 * 2 ^ d.toNat) < (deco (2 ^ d.toNat) (comp (2 ^ d.toNat) x) - x).fmod 3329 ∧
       Int.fdiv (3329 + 2 ^ d.toNat) (2 * 2 ^ d.toNat) < 3329 - (deco (2 ^ d.toNat) (comp (2 ^ d.toNat) x) - x).fmod 3329) := by
  obtain ⟨Y, e, l, u, k, q, r⟩ := kept_e (x := x) h1 h2
  rw [← kept_comp h1 h2, k, deco_e (by have := pow_bounds h1 h2; omega), Int.fmod_eq_emod_of_nonneg _ (by decide), Int.fdiv_eq_ediv_of_nonneg _ (by have := pow_bounds h1 h2; omega)]
  have hR : 0 ≤ 2 ^ d.toNat * (x % 3329) + 1664 - 3329 * Y ∧ 2 ^ d.toNat * (x % 3329) + 1664 - 3329 * Y < 3329 := by omega
  clear e q r k
  have hx : x = 3329 * (x / 3329) + x % 3329 := by omega
  have hx0 : 0 ≤ x % 3329 ∧ x % 3329 < 3329 := by omega
  generalize x % 3329 = x' at *
  generalize x / 3329 = qq at *
  subst hx
  rcases pow_split h1 h2 with rfl | rfl | rfl | rfl | rfl | rfl | rfl | rfl | rfl | rfl | rfl <;>
    simp only [Int.reduceToNat, Int.reducePow, Int.reduceDiv, Int.reduceAdd, Int.reduceMul] at * <;> refine near_mod (by decide) (by decide) ?_ <;> split <;> omega
end Mine
namespace Mine
theorem cmp12 {d : Int} (start : Int) (h1 : 1 ≤ d) (h2 : d ≤ 11) : List.map (fun k' : Int => (3329 * k' + 1 * 2 ^ (d - 1).toNat).fdiv (2 ^ d.toNat)) (List.map (fun k' : Int => ((1 * 2 ^ d.toNat * k' + 1664).fdiv 3329).fmod (1 * 2 ^ d.toNat)) (xsOf start 256)) = zsOf d start 256 := by
  rw [cmp1, cmp2 start h1 h2]
end Mine
namespace Mine
theorem away_loop {d start kN : Int} {pre fs : List Int} (h1 : 1 ≤ d) (h2 : d ≤ 11)
    (a : Int.fdiv (3329 + 2 ^ d.toNat) (2 * 2 ^ d.toNat) < Int.fmod ((zsOf d start 256).getD kN.toNat 0 - fs.getD kN.toNat 0) 3329)
    (b : Int.fdiv (3329 + 2 ^ d.toNat) (2 * 2 ^ d.toNat) < 3329 - Int.fmod ((zsOf d start 256).getD kN.toNat 0 - fs.getD kN.toNat 0) 3329)
    (hf : fs = xsOf start 256) (hk : kN = 0 + (pre.length : Int)) (hl : pre.length < ((256 : Int) - 0).toNat) : False := by
  have h0 : 0 ≤ kN := by omega
  have h3 : kN < 256 := by omega
  rw [hf, zs_at d start h0 h3, xs_at start h0 h3] at a b
  exact away_ok (start + kN) h1 h2 ⟨a, b⟩
end Mine
namespace Mine
theorem comp_zero {d : Int} (h1 : 1 ≤ d) (h2 : d ≤ 11) : comp (2 ^ d.toNat) 0 = 0 := by
  rcases pow_split h1 h2 with rfl | rfl | rfl | rfl | rfl | rfl | rfl | rfl | rfl | rfl | rfl <;> (unfold comp; decide)
theorem comp_of {d x q : Int} (h1 : 1 ≤ d) (h2 : d ≤ 11) (l : 3329 * q ≤ 2 ^ d.toNat * x + 1664) (u : 2 ^ d.toNat * x + 1664 < 3329 * q + 3329) : comp (2 ^ d.toNat) x = Int.fmod q (2 ^ d.toNat) := by
  have hp := pow_bounds h1 h2
  rw [comp_e (by omega), Int.fmod_eq_emod_of_nonneg _ (by omega)]
  have e : (2 ^ d.toNat * x + 1664) / 3329 = q := by omega
  rw [e]
theorem div_facts {T a : Int} (h : 0 < T) : T * Int.fdiv a T ≤ a ∧ a < T * Int.fdiv a T + T := by
  rw [Int.fdiv_eq_ediv_of_nonneg _ (by omega)]
  have e := Int.mul_ediv_add_emod a T
  have l := Int.emod_nonneg a (show T ≠ 0 by omega)
  have u := Int.emod_lt_of_pos a h
  omega
theorem last_ok {d v : Int} (h1 : 1 ≤ d) (h2 : d ≤ 11) (l : 0 ≤ v) (u : v < 2 ^ d.toNat) :
    List.map (fun k' : Int => ((1 * 2 ^ d.toNat * k' + 1664).fdiv 3329).fmod (1 * 2 ^ d.toNat))
      ([0 - Int.fdiv (1664 - 3329 * v) (2 ^ d.toNat) - 1, 0 - Int.fdiv (1664 - 3329 * v) (2 ^ d.toNat), Int.fdiv (3329 * v + 1664) (2 ^ d.toNat), Int.fdiv (3329 * v + 1664) (2 ^ d.toNat) + 1] ++ List.map (fun _ => (0 : Int)) (rangeKs 0 ((256 : Int) - 4 - 0).toNat)) =
    [Int.fmod (v - 1) (2 ^ d.toNat), v, v, Int.fmod (v + 1) (2 ^ d.toNat)] ++ List.replicate 252 0 := by
  have hp := pow_bounds h1 h2
  have a := div_facts (T := 2 ^ d.toNat) (a := 1664 - 3329 * v) (by omega)
  have b := div_facts (T := 2 ^ d.toNat) (a := 3329 * v + 1664) (by omega)
  have ev : Int.fmod v (2 ^ d.toNat) = v := by rw [Int.fmod_eq_emod_of_nonneg _ (by omega)]; exact Int.emod_eq_of_lt l u
  rw [cfun_eq]
  have z : List.map (fun _ => (0 : Int)) (rangeKs 0 ((256 : Int) - 4 - 0).toNat) = List.replicate 252 0 := by decide +kernel
  rw [z, List.map_append, List.map_replicate, comp_zero h1 h2]
  simp only [List.map_cons, List.map_nil]
  have m : ∀ x : Int, 2 ^ d.toNat * (0 - x) = -(2 ^ d.toNat * x) := fun x => by rw [Int.zero_sub, Int.mul_neg]
  have m1 : ∀ x : Int, 2 ^ d.toNat * (x - 1) = 2 ^ d.toNat * x - 2 ^ d.toNat := fun x => by rw [Int.mul_sub, Int.mul_one]
  have m2 : ∀ x : Int, 2 ^ d.toNat * (x + 1) = 2 ^ d.toNat * x + 2 ^ d.toNat := fun x => by rw [Int.mul_add, Int.mul_one]
  rw [comp_of (q := v - 1) h1 h2 (by rw [m1, m]; omega) (by rw [m1, m]; omega), comp_of (q := v) h1 h2 (by rw [m]; omega) (by rw [m]; omega),
    comp_of (q := v) h1 h2 (by omega) (by omega), comp_of (q := v + 1) h1 h2 (by rw [m2]; omega) (by rw [m2]; omega), ev]
end Mine

/-! R2 -/
namespace Mine
theorem pow_kind : builtinKind "pow" = none := by decide +kernel
theorem pow_plain : plainId "pow" = true := by decide +kernel
theorem pow_entry : entryFor table "pow" = some Builtin.«pow» := entryFor_of_fast (by kernel_rfl)
theorem pow_args3 (a b c : Value) : argsOk "pow" ⟨[a, b, c], []⟩ := by unfold argsOk; kernel_rfl
theorem int_pow_args3 (a b c : Value) : argsOk "int.__pow__" ⟨[a, b, c], []⟩ := by unfold argsOk; kernel_rfl
def pow17 (e : Int) : Int :=
  if (decide ((3329 : Int) < 0) && ((Builtin.powMod (17 % ((Int.natAbs 3329 : Nat) : Int)).toNat e.natAbs (Int.natAbs 3329) : Nat) : Int) != 0) = true then
    ((Builtin.powMod (17 % ((Int.natAbs 3329 : Nat) : Int)).toNat e.natAbs (Int.natAbs 3329) : Nat) : Int) - ((Int.natAbs 3329 : Nat) : Int)
  else ((Builtin.powMod (17 % ((Int.natAbs 3329 : Nat) : Int)).toNat e.natAbs (Int.natAbs 3329) : Nat) : Int)
set_option maxHeartbeats 1000000 in
theorem gives_pow17 (e : Int) (t u v : Tok) (h0 : 0 ≤ e) : Gives (Builtin.«int.__pow__» ⟨[.int 17 t, .int e u, .int 3329 v], []⟩) (.int (pow17 e)) :=
  .of_wp fun M A E s Q h => by
    obtain ⟨hp, g, d, tk, os⟩ := s
    have hn : decide (e < 0) = false := decide_eq_false (by omega)
    repeat (any_goals (first | assumption | (with_reducible refine wpAny_ite_false hn ?_) | wp_step))
    all_goals exact ⟨_, rfl, h⟩
theorem int_pow_name : typeLookup (.type "int") "__pow__" = pure (some (.builtin "int.__pow__")) := by rw [typeLookup_type, builtinLookup_eq_fast]; kernel_rfl
def powInvN : Nat := Builtin.powMod ((0 - ((Int.natAbs 3329 : Nat) : Int) / (((128 % ((Int.natAbs 3329 : Nat) : Int)).toNat : Nat) : Int) * 1) % ((Int.natAbs 3329 : Nat) : Int)).toNat (-1 : Int).natAbs (Int.natAbs 3329)
def powInv : Int := if (decide ((3329 : Int) < 0) && ((powInvN : Nat) : Int) != 0) = true then ((powInvN : Nat) : Int) - ((Int.natAbs 3329 : Nat) : Int) else ((powInvN : Nat) : Int)
set_option maxHeartbeats 1000000 in
theorem gives_pow_inv (t u v : Tok) : Gives (Builtin.«int.__pow__» ⟨[.int 128 t, .int (-1) u, .int 3329 v], []⟩) (.int powInv) :=
  .of_wp fun M A E s Q h => by
    obtain ⟨hp, g, d, tk, os⟩ := s
    repeat (any_goals (first | assumption | wp_step))
    all_goals exact ⟨_, rfl, h⟩
section
variable {prog : Program} {w : World} {A : Around} {E : Value → Shared → Prop} {s : Shared} {Q : Value → Shared → Prop} {t u v : Tok}
set_option maxHeartbeats 1000000 in
theorem call_pow17 {e : Int} (h0 : 0 ≤ e) (h : ∀ (t' : Tok) (n : Nat), Q (.int (pow17 e) t') { s with toks := n }) : wpAny (model prog w) A (call (.builtin "pow") [.int 17 t, .int e u, .int 3329 v]) Q E s := by
  refine call_function_entry pow_kind pow_plain pow_entry (pow_args3 _ _ _) ?_
  obtain ⟨hp, g, d, tk, os⟩ := s
  have hT : (⟨hp, g, d, tk, os⟩ : Shared).TypeIs (.int 17 t) "int" := rfl
  have f3 := F.slot_int_pow.lookup
  have f4 := F.slot_int_pow.bind (.int 17 t)
  have f5 := int_pow_name
  have h' := h tk (tk + 1)
  clear h
  repeat (any_goals (first | assumption | ((with_reducible show wpAny _ _ (call (Value.builtin "int.__pow__") _ _) _ _ _); refine call_gives F.slot_int_pow hT F.entry_int_pow (int_pow_args3 _ _ _) (gives_pow17 e t u v h0) ?_; dsimp only [Made.post]) | wp_step))
  all_goals first | exact ⟨_, rfl, h'⟩ | exact h' | skip
set_option maxHeartbeats 1000000 in
theorem call_pow_inv (h : ∀ (t' : Tok) (n : Nat), Q (.int powInv t') { s with toks := n }) : wpAny (model prog w) A (call (.builtin "pow") [.int 128 t, .int (-1) u, .int 3329 v]) Q E s := by
  refine call_function_entry pow_kind pow_plain pow_entry (pow_args3 _ _ _) ?_
  obtain ⟨hp, g, d, tk, os⟩ := s
  have hT : (⟨hp, g, d, tk, os⟩ : Shared).TypeIs (.int 128 t) "int" := rfl
  have f3 := F.slot_int_pow.lookup
  have f4 := F.slot_int_pow.bind (.int 128 t)
  have f5 := int_pow_name
  have h' := h tk (tk + 1)
  clear h
  repeat (any_goals (first | assumption | ((with_reducible show wpAny _ _ (call (Value.builtin "int.__pow__") _ _) _ _ _); refine call_gives F.slot_int_pow hT F.entry_int_pow (int_pow_args3 _ _ _) (gives_pow_inv t u v) ?_; dsimp only [Made.post]) | wp_step))
  all_goals first | exact ⟨_, rfl, h'⟩ | exact h' | skip
end
end Mine

/-! R3 -/
namespace Mine
/-- the text of _br before and behind its turning -/
def brA (k : Int) : Str := baseText "0b" 2 k
def brB (k : Int) : Str := Txt.slice (brA k) (some 2) none
def brC (k : Int) : Str := Txt.zfill (brB k) 7
def brD (k : Int) (u : Tok) : Str := Txt.sliceBy (brC k) none none (-1, u)
def okB (t : List Nat) : Bool := (sign (t.dropWhile blank)) == (false, t) && based 2 t == (2, false, t) && ((t.reverse.dropWhile blank).reverse == t) && (digits? 2 t).isSome && t.all (fun c => 48 ≤ c && c ≤ 57) && t.length == 7
theorem read2 {t : List Nat} (h : okB t = true) : ∃ n : Nat, (int_private% "readNumeral") 0 2 t = (int_private% "Numeral.value") (n : Int) := by
  unfold okB at h
  simp only [Bool.and_eq_true, beq_iff_eq] at h
  obtain ⟨⟨⟨⟨⟨h1, h2⟩, h3⟩, h4⟩, h5⟩, h6⟩ := h
  rw [readNumeral_eq, h1]
  dsimp only
  rw [h2]
  dsimp only
  rw [h3]
  obtain ⟨ds, hds⟩ := Option.isSome_iff_exists.mp h4
  rw [hds]
  refine ⟨ds.foldl (fun acc d => acc * 2 + d) 0, ?_⟩
  unfold judge
  rfl
theorem br_tok (k : Int) (u : Tok) : brD k u = brD k 0 := rfl
theorem br_all : ∀ k : Fin 128, (okB (brD (k.val : Int) 0).cps.toList && decide ((brA (k.val : Int)).length ≤ 16) && decide ((brC (k.val : Int)).length = 7)) = true := by decide +kernel
end Mine
namespace Mine
theorem br_at {k : Int} (h0 : 0 ≤ k) (h1 : k < 128) : okB (brD k 0).cps.toList = true ∧ (brA k).length ≤ 16 ∧ (brC k).length = 7 := by
  have h := br_all ⟨k.toNat, by omega⟩
  have e : ((k.toNat : Nat) : Int) = k := Int.toNat_of_nonneg h0
  simp only [e, Bool.and_eq_true, decide_eq_true_eq] at h
  exact ⟨h.1.1, h.1.2, h.2⟩
theorem brA_line {k : Int} (h0 : 0 ≤ k) (h1 : k < 128) : (brA k).length ≤ sizeLine := Nat.le_trans (br_at h0 h1).2.1 (by decide)
theorem brC_line {k : Int} (h0 : 0 ≤ k) (h1 : k < 128) : (brC k).length ≤ sizeLine := Nat.le_trans (Nat.le_of_eq (br_at h0 h1).2.2) (by decide)

theorem typeCall_int_2 (a b : Value) : checkTypeCall "int" ⟨[a, b], []⟩ = pure () := by kernel_rfl
theorem newCall_int_2 (a b : Value) : checkBuiltinCall "int.__new__" ⟨[.type "int", a, b], []⟩ = pure () := by kernel_rfl
theorem init_args_3 (o a b : Value) : argsOk "object.__init__" ⟨[o, a, b], []⟩ := by unfold argsOk; kernel_rfl
theorem wp_text2 {M : Model} {A : Around} {E : Value → Shared → Prop} {s : Shared} {Q : Value → Shared → Prop} {v : Value} {text : List Nat} {n : Int}
    (hs : (text.takeWhile (· != 0)).length ≤ 640) (hr : (int_private% "readNumeral") 0 2 (text.takeWhile (· != 0)) = (int_private% "Numeral.value") n)
    (ha : ((text.takeWhile (· != 0)).length == text.length) = true) (h : Q (.int n s.toks) { s with toks := s.toks + 1 }) :
    wpAny M A ((int_private% "intFromText") v text 2) Q E s := by
  obtain ⟨hp, g, d, tk, os⟩ := s
  repeat (any_goals (first
    | assumption
    | (with_reducible refine wpAny_ite_true (decide_eq_true hs) ?_)
    | (with_reducible refine wpAny_ite_true (decide_eq_true ha) ?_)
    | wp_step))
  all_goals (try rw [hr])
  all_goals (try dsimp only)
  repeat (any_goals (first
    | assumption
    | (with_reducible refine wpAny_ite_true (decide_eq_true hs) ?_)
    | (with_reducible refine wpAny_ite_true (decide_eq_true ha) ?_)
    | wp_step))
set_option maxHeartbeats 4000000 in
theorem gives_text2 {x : Str} {u v : Tok} {n : Int} (hl : (numSeenOf x).length ≤ 640) (hr : (int_private% "readNumeral") 0 2 (numSeenOf x) = (int_private% "Numeral.value") n) (ha : ((numSeenOf x).length == (numTextOf x).length) = true) :
    Gives (Builtin.«int.__new__» ⟨[.type "int", .str x u, .int 2 v], []⟩) (.int n) :=
  .of_wp fun M A E s Q h => by
    obtain ⟨hp, g, d, tk, os⟩ := s
    have f1 := F.conv_sub_int
    have f2 := F.madeHere_int
    have f6 : typeOf (.str x u) = pure (.type "str") := rfl
    repeat (any_goals (first
      | assumption
      | ((with_reducible show wpAny _ _ ((int_private% "intFromText") _ _ _) _ _ _); refine wp_text2 hl hr ha ?_)
      | wp_step))
    all_goals first | exact ⟨_, rfl, h⟩ | skip
open Classical in
noncomputable def brN (k : Int) : Nat :=
  if h : ∃ n : Nat, (int_private% "readNumeral") 0 2 (brD k 0).cps.toList = (int_private% "Numeral.value") (n : Int) then Classical.choose h else 0
theorem brN_reads {k : Int} (h : okB (brD k 0).cps.toList = true) : (int_private% "readNumeral") 0 2 (brD k 0).cps.toList = (int_private% "Numeral.value") ((brN k : Nat) : Int) := by
  have hx := read2 h
  unfold brN
  rw [dif_pos hx]
  exact Classical.choose_spec hx
section
variable {prog : Program} {w : World} {A : Around} {E : Value → Shared → Prop} {s : Shared} {Q : Value → Shared → Prop} {t u v : Tok}
theorem call_br {k : Int} (h0 : 0 ≤ k) (h1 : k < 128) (h : ∀ (t' : Tok) (m : Nat), Q (.int ((brN k : Nat) : Int) t') { s with toks := m }) :
    wpAny (model prog w) A (call (.type "int") [.str (brD k u) t, .int 2 v]) Q E s := by
  rw [br_tok]
  have hk := (br_at h0 h1).1
  have hn := brN_reads hk
  unfold okB at hk
  simp only [Bool.and_eq_true, beq_iff_eq, List.all_eq_true, decide_eq_true_eq] at hk
  obtain ⟨e1, e2⟩ := numText_signs (x := brD k 0) fun c hc => Or.inr (hk.1.2 c hc)
  have e1' : numTextOf (brD k 0) = (brD k 0).cps.toList := e1
  have e2' : numSeenOf (brD k 0) = (brD k 0).cps.toList := e2
  refine callType_new F.called_int F.newNe_int (typeCall_int_2 _ _) (newCall_int_2 _ _) (fun o => init_args_3 o _ _) F.entry_int_new
    (gives_text2 (n := ((brN k : Nat) : Int)) (by rw [e2', hk.2]; decide) (by rw [e2']; exact hn) (by rw [e2', e1']; simp)).meets (show (Made.int ((brN k : Nat) : Int)).post _ s from ⟨rfl, h _ _⟩)
theorem mask7 {k : Int} (h0 : 0 ≤ k) (h1 : k < 128) : Builtin.bitAnd k (2 ^ Int.toNat 7 - 1) = k := by
  have := kbt_mask k 7
  rw [show Int.toNat 7 = 7 from rfl, this]
  exact Int.emod_eq_of_lt h0 (by simpa using h1)
/-- bin of a number below 128 -/
theorem bin_br {k : Int} (h0 : 0 ≤ k) (h1 : k < 128) (h : ∀ (t' : Tok) (n : Nat), Q (.str (brA k) t') { s with toks := n }) :
    wpAny (model prog w) A (call (.builtin "bin") [.int (Builtin.bitAnd k (2 ^ Int.toNat 7 - 1)) t]) Q E s := by
  rw [mask7 h0 h1]
  exact P.bin_of_int (h _ _) (brA_line h0 h1)
theorem zfill_br {k : Int} (h : ∀ (t' : Tok) (n : Nat), Q (.str (brC k) t') { s with toks := n }) :
    wpAny (model prog w) A (call (.builtin "str.zfill") [.str (brB k) t, .int 7 u]) Q E s := SC.zfill (by decide) fun t' n => h t' n
theorem slice_br {h₀ : Heap} {L : Addr} {m : Str → Option Value} {news : List (Addr × Obj)} {k : Int} {value slice : Expr} (hF : Fr h₀ L s.heap m) (hN : News h₀ L s.heap news) (h0 : 0 ≤ k) (h1 : k < 128)
    (h : ∀ h' t' c, Fr h₀ L h' m → News h₀ L h' news → Q (.str (brB k) t') { s with heap := h', toks := c })
    (hs : subscripted slice false (.str (brA k) t) (.ref s.heap.objs.size) = operate [.ref s.heap.objs.size, .str (brA k) t] (getItem (.str (brA k) t) (.ref s.heap.objs.size)) := by with_unfolding_all rfl)
    (ht : ∀ r, letTemporaryGo value (.str (brA k) t) r = pure () := by intro _; with_unfolding_all rfl) :
    wpAny (model prog w) A (subscriptTail value slice (.str (brA k) t) (.ref s.heap.objs.size)) Q E { s with heap := s.heap.push { cls := .type "slice", data := .fields #[.int 2 u, .none, .none] } } :=
  slice_strN_sn hF hN h hs ht (brA_line h0 h1)
theorem turn_br {h₀ : Heap} {L : Addr} {m : Str → Option Value} {news : List (Addr × Obj)} {k : Int} {value slice : Expr} (hF : Fr h₀ L s.heap m) (hN : News h₀ L s.heap news) (h0 : 0 ≤ k) (h1 : k < 128)
    (h : ∀ h' t' c, Fr h₀ L h' m → News h₀ L h' news → Q (.str (brD k u) t') { s with heap := h', toks := c })
    (hs : subscripted slice false (.str (brC k) t) (.ref s.heap.objs.size) = operate [.ref s.heap.objs.size, .str (brC k) t] (getItem (.str (brC k) t) (.ref s.heap.objs.size)) := by with_unfolding_all rfl)
    (ht : ∀ r, letTemporaryGo value (.str (brC k) t) r = pure () := by intro _; with_unfolding_all rfl) :
    wpAny (model prog w) A (subscriptTail value slice (.str (brC k) t) (.ref s.heap.objs.size)) Q E { s with heap := s.heap.push { cls := .type "slice", data := .fields #[.none, .none, .int (-1) u] } } :=
  slice_strK_nn hF hN (by decide) h hs ht (brC_line h0 h1)
end
end Mine

/-! R4 -/
namespace Mine
/-- a ledger's chosen entries -/
def sel {α : Type} : List Bool → List α → List α
  | true :: bs, a :: l => a :: sel bs l
  | false :: bs, _ :: l => sel bs l
  | _, l => l
theorem sel_mem {α : Type} : ∀ (bs : List Bool) (l : List α) (p : α), p ∈ sel bs l → p ∈ l
  | [], _, _, h => h
  | true :: bs, [], _, h => h
  | false :: bs, [], _, h => h
  | true :: bs, a :: l, p, h => by
    simp only [sel, List.mem_cons] at h ⊢
    exact h.imp id (sel_mem bs l p)
  | false :: bs, a :: l, p, h => List.mem_cons_of_mem _ (sel_mem bs l p h)
theorem newsSel (bs : List Bool) {h₀ h : Heap} {L : Addr} {l : List (Addr × Obj)} (N : News h₀ L h l) : News h₀ L h (sel bs l) := fun p hp => N p (sel_mem bs l p hp)
theorem zeros_of {ys : List Value} (h : CarriedAll ys (List.map (fun _ => PyData.int 0) (List.filter (fun _ => true) (rangeInts 0 1 ((252 : Int) - 0).toNat)))) : IntsAre ys (List.replicate 252 0) := by
  have e := CarriedAll.intsOf (f := fun _ : Int => (0 : Int)) h
  have q : List.map (fun _ : Int => (0 : Int)) (List.filter (fun _ => true) (rangeInts 0 1 ((252 : Int) - 0).toNat)) = List.replicate 252 0 := by decide +kernel
  rw [q] at e
  exact e
theorem zsum {a b c d : Int} : [a, b, c, d].length + (List.replicate 252 (0 : Int)).length ≤ sizeLine := by
  simp only [List.length_cons, List.length_nil, List.length_replicate]; decide
end Mine

/-! Mac -/
namespace Mine
/-- the walk halts here: the rest is done by hand -/
def Halt (P : Prop) : Prop := P
theorem Halt.mk {P : Prop} (h : P) : Halt P := h
theorem Halt.out {P : Prop} (h : Halt P) : P := h
end Mine

/-! Cut0 -/
structure Mine.Box (p : Prop) : Prop where
  out : p
theorem Mine.cut {G H : Prop} (k : Mine.Box G → H) (g : G) : H := k ⟨g⟩
local macro_rules | `(tactic| walk_at "eval Call Name cons nil") => `(tactic| (k_here; (with_reducible show wpAny _ _ (eval (Expr.Call (Expr.Name (Str.ofString "_law_at") _) _ _ _) _) _ _ _); refine Call_ ?_))
local macro_rules | `(tactic| walk_at "execs cons Assign cons") => `(tactic| (k_here; k_gentoks))
local macro_rules | `(tactic| walk_at "execs cons") => `(tactic| (k_here; dsimp only))
local macro_rules | `(tactic| walk_at "execs nil") => `(tactic| (k_here; dsimp only))
local macro_rules | `(tactic| walk_at "ite") => `(tactic| (k_here; dsimp only))
local macro_rules | `(tactic| walk_at "execs cons Assign cons") => `(tactic| (k_here; (with_reducible show wpAny _ _ (execs (Stmt.Assign [Expr.Name (Str.ofString "y") _] (Expr.Call _ _ _ _) _ :: _) _) _ _ _); (try k_gentoks); refine Mine.Halt.out ?_))
local macro_rules | `(tactic| walk_at "exec If") => `(tactic| (k_here; (with_reducible show wpAny _ _ (exec (Stmt.If _ [Stmt.Assign [Expr.Name (Str.ofString "rest") _] _ _] [] _) _) _ _ _); kj_step))
local macro_rules | `(tactic| walk_at "execs cons For") => `(tactic| (k_here; (with_reducible show wpAny _ _ (execs (Stmt.For (Expr.Name (Str.ofString "i") _) _ _ _ _ :: _) _) _ _ _); (try k_gentoks); refine Mine.Halt.out ?_))
local macro_rules | `(tactic| walk_at "execs cons Assign cons") => `(tactic| (k_here; (with_reducible show wpAny _ _ (execs (Stmt.Assign [Expr.Name (Str.ofString "ring") _] _ _ :: _) _) _ _ _); (try k_gentoks); refine Mine.Halt.out ?_))
local macro_rules | `(tactic| walk_at "call builtin:bin cons nil") => `(tactic| (k_here; (with_reducible show wpAny _ _ (call (Value.builtin "bin") [Value.int (Builtin.bitAnd _ _) _]) _ _ _); refine Mine.bin_br (by with_reducible assumption) (Mine.lt128 (by with_reducible assumption)) ?_; intro t' n'))
local macro_rules | `(tactic| walk_at "call builtin:str.zfill cons nil") => `(tactic| (k_here; (with_reducible show wpAny _ _ (call (Value.builtin "str.zfill") [Value.str (Mine.brB _) _, Value.int _ _]) _ _ _); refine Mine.zfill_br ?_; intro t' n'))
local macro_rules | `(tactic| walk_at "call type:int cons nil") => `(tactic| (k_here; (with_reducible show wpAny _ _ (call (Value.type "int") [Value.str (Mine.brD _ _) _, _]) _ _ _); refine Mine.call_br (by with_reducible assumption) (Mine.lt128 (by with_reducible assumption)) ?_; intro t' n'))
local macro_rules | `(tactic| walk_at "call builtin:pow cons nil") => `(tactic| (k_here; first | (refine Mine.call_pow17 (by omega) ?_; intro t' n') | (refine Mine.call_pow_inv ?_; intro t' n')))
local macro_rules | `(tactic| walk_at "subscriptTail Call Name cons nil Slice str ref") => `(tactic| (k_here; (with_reducible show wpAny _ _ (subscriptTail _ (Expr.Slice (some _) none none _) (Value.str (Mine.brA _) _) (Value.ref _)) _ _ _); (refine Mine.slice_br (s := ⟨_, _, _, _, _⟩) (by assumption) (by assumption) (by with_reducible assumption) (Mine.lt128 (by with_reducible assumption)) ?_); intro h' t' n' F' N'))
local macro_rules | `(tactic| walk_at "subscriptTail Name Slice str ref") => `(tactic| (k_here; (with_reducible show wpAny _ _ (subscriptTail _ (Expr.Slice none none (some _) _) (Value.str (Mine.brC _) _) (Value.ref _)) _ _ _); (refine Mine.turn_br (s := ⟨_, _, _, _, _⟩) (by assumption) (by assumption) (by with_reducible assumption) (Mine.lt128 (by with_reducible assumption)) ?_); intro h' t' n' F' N'))
local macro_rules | `(tactic| walk_at "execs cons Return nil") => `(tactic| (k_here; (with_reducible show wpAny _ _ (execs [Stmt.Return (some (Expr.Constant (Const.bool false) _ _)) _] _) _ _ _); refine Mine.Halt.out ?_))
local macro_rules | `(tactic| walk_at "binaryOp Add ref ref") => `(tactic| (k_here; (with_reducible rename CarriedAll _ _ => cX); (have iX := Mine.zeros_of cX); k_dflt (refine' kmk_add_ints ?F ?N ?a ?b ?i iX ?_ ?z; (case F => k_asm); (case N => k_asm); (case a => kmk_list); (case b => kmk_list); (case i => l_ints); (case z => exact Mine.zsum)); intro D' ws' h' F' N' l1 hI'; (try k_lt l1)))
local macro_rules | `(tactic| walk_at "execs cons Assign cons") => `(tactic| (k_here; (with_reducible show wpAny _ _ (execs (Stmt.Assign [Expr.Name (Str.ofString "least") _] _ _ :: _) _) _ _ _); (try k_gentoks); refine Mine.Halt.out ?_))
local macro_rules | `(tactic| walk_at "getMethod ref") => `(tactic| (k_here; (with_reducible show wpAny _ _ (getMethod (Value.ref _) (Str.ofString "_br") _) _ _ _); walk_at "last getMethod ref"))
local macro_rules | `(tactic| walk_at "execs cons Assign cons") => `(tactic| (k_here; (with_reducible show wpAny _ _ (execs (Stmt.Assign [Expr.Name (Str.ofString "p") _] _ _ :: _) _) _ _ _); (try k_gentoks); refine Mine.Halt.out ?_))
local macro_rules | `(tactic| walk_at "execs cons Assign cons") => `(tactic| (k_here; (with_reducible show wpAny _ _ (execs (Stmt.Assign [Expr.Name (Str.ofString "r") _] _ _ :: _) _) _ _ _); (try k_gentoks); refine Mine.Halt.out ?_))
local macro_rules | `(tactic| walk_at "execs cons Expr cons") => `(tactic| (k_here; (with_reducible show wpAny _ _ (execs (Stmt.Expr (Expr.Call (Expr.Attribute (Expr.Name (Str.ofString "p") _) _ _) _ _ _) _ :: _) _) _ _ _); (try k_gentoks); refine Mine.Halt.out ?_))
local macro_rules | `(tactic| walk_at "execs cons Expr cons") => `(tactic| (k_here; (with_reducible show wpAny _ _ (execs (Stmt.Expr (Expr.Call (Expr.Attribute (Expr.Name (Str.ofString "r") _) _ _) _ _ _) _ :: _) _) _ _ _); (try k_gentoks); refine Mine.Halt.out ?_))
local macro_rules | `(tactic| walk_at "execs cons Return nil") => `(tactic| (k_here; (with_reducible show wpAny _ _ (execs [Stmt.Return (some (Expr.Compare (Expr.Attribute (Expr.Name (Str.ofString "r") _) _ _) _ _ _)) _] _) _ _ _); (try k_gentoks); refine Mine.Halt.out ?_))

-- the library's twins of the heap's and the trees' constants are not wanted (the compiled file's lid): their names are taken here
def Mine.main.tw8228058824784995430 : Nat := 0 -- Mine.main.tree_1_50
def Mine.main.tw2277872845677661160 : Nat := 0 -- Mine.main.tree_1_579
def Mine.main.tw7699798408344515789 : Nat := 0 -- Mine.main.heap_1_48
def Mine.main.tw1082519908427967789 : Nat := 0 -- Mine.main.tree_1_427
def Mine.main.tw12784055721772562989 : Nat := 0 -- Mine.main.tree_1_497
def Mine.main.tw5696655830422543982 : Nat := 0 -- Mine.main.tree_1_668
def Mine.main.tw8158620314730094 : Nat := 0 -- Mine.main.heap_1_670
def Mine.main.tw4000297624352050223 : Nat := 0 -- Mine.main.tree_1_633
def Mine.main.tw11536415461529073906 : Nat := 0 -- Mine.main.tree_1_355
def Mine.main.tw11156056980113079860 : Nat := 0 -- Mine.main.heap_1_39
def Mine.main.tw12677648124622752472 : Nat := 0 -- Mine.main.tree_1_272
def Mine.main.tw16940794065300538585 : Nat := 0 -- Mine.main.tree_1_363
def Mine.main.tw12939479104171293914 : Nat := 0 -- Mine.main.tree_1_104
def Mine.main.tw16826212616301561204 : Nat := 0 -- Mine.main.view_1_40
def Mine.main.tw11812620880713246772 : Nat := 0 -- Mine.main.sts_1_106
def Mine.main.tw6788530277367551627 : Nat := 0 -- Mine.main.o_1_667
def Mine.main.tw7935508679107115166 : Nat := 0 -- Mine.main.sts_1_639
def Mine.main.tw5312173547345733522 : Nat := 0 -- Mine.main.sts_1_499
def Mine.main.tw11409991511011244131 : Nat := 0 -- Mine.main.o_1_665
def Mine.main.tw12872728687042982635 : Nat := 0 -- Mine.main.sts_1_365
def Mine.main.tw4269446659644561782 : Nat := 0 -- Mine.main.sts_1_429
set_option maxHeartbeats 100000000 in
theorem Mine.main : PySem.Challenge.rw_yi0076_01.Holds := by
  (w_on; o_law; k_head; (case hw => w_witness2))
  refine' Mine.cut ?k1 ?g1
  case k1 =>
    intro hG
    k_with "call ref" => (k_call_by "_law_at" Mine.lawAt (fun (_ : List Int) (i : Int) => 0 ≤ i ∧ i < 100))
    k_with "tree" => (first | exact Mine.lawAt_lt (by omega) | exact Mine.lawAt_ge (by omega))
    k_go0; (all_goals try k_fold); k_steps
    refine Mine.Halt.mk ?_
    rename Fr _ _ _ _ => F1
    dsimp only at F1
    generalize Mine.lawAt ‹List Int› 0 = a0 at *
    generalize Mine.lawAt ‹List Int› 1 = start at *
    generalize Mine.lawAt ‹List Int› 2 = a2 at *
    have hd1 : 1 ≤ 1 + Int.fmod (4 + a0) 11 ∧ 1 + Int.fmod (4 + a0) 11 ≤ 11 := by omega
    generalize 1 + Int.fmod (4 + a0) 11 = d at *
    have ht1 := Mine.pow_bounds hd1.1 hd1.2
    have hv1 : 0 ≤ Int.fmod a2 (2 ^ d.toNat) ∧ Int.fmod a2 (2 ^ d.toNat) < 2 ^ d.toNat := ⟨fmod_lo _ (by omega), fmod_hi _ (by omega)⟩
    generalize Int.fmod a2 (2 ^ d.toNat) = v at *
    rename (0 : Int) ≤ Int.fmod (4 + a0) 11 => zz; clear zz
    rename Int.fmod (4 + a0) 11 < (11 : Int) => zz; clear zz
    rename_i c1z1 c1z2 c1z3 c1z4 c1z5 c1z6 c1z7 c1z8 c1z9 c1z10 c1z11 c1z12 c1z13 c1z14 c1z15 c1z16 c1z17 c1z18 c1z19 c1z20 c1z21 c1z22 c1z23 c1z24 c1z25 c1z26 c1z27 c1z28 c1z29 c1z30 c1z31 c1z32 c1z33 c1z34 c1z35 c1z36 c1z37 c1z38 c1z39 c1z40 c1z41 c1z42 c1z43 c1z44 c1z45 c1z46 c1z47 c1z48 c1z49 c1z50 c1z51 c1z52 c1z53 c1z54 c1z55 c1z56 c1z57 c1z58 c1z59 c1z60 c1z61 c1z62 c1z63 c1z64 c1z65 c1z66 c1z67 c1z68 c1z69 c1z70 c1z71 c1z72 c1z73
    revert hv1 F1 v ht1 hd1 d a2 start a0 tk ek qk Cb c1z1 c1z2 c1z3 c1z4 c1z5 c1z6 c1z7 c1z8 c1z9 c1z10 c1z11 c1z12 c1z13 c1z14 c1z15 c1z16 c1z17 c1z18 c1z19 c1z20 c1z21 c1z22 c1z23 c1z24 c1z25 c1z26 c1z27 c1z28 c1z29 c1z30 c1z31 c1z32 c1z33 c1z34 c1z35 c1z36 c1z37 c1z38 c1z39 c1z40 c1z41 c1z42 c1z43 c1z44 c1z45 c1z46 c1z47 c1z48 c1z49 c1z50 c1z51 c1z52 c1z53 c1z54 c1z55 c1z56 c1z57 c1z58 c1z59 c1z60 c1z61 c1z62 c1z63 c1z64 c1z65 c1z66 c1z67 c1z68 c1z69 c1z70 c1z71 c1z72 c1z73
    exact Mine.Box.out hG
  k_with_none
  refine' Mine.cut ?k2 ?g2
  case k2 =>
    intro hG
    (set_option tactic.hygienic false in intros)
    k_with "call ref" => (k_call_by "_law_kept" Mine.lawKept (fun (_ d : Int) => 1 ≤ d ∧ d ≤ 11))
    k_with "call ref" => (k_call_by "_law_back" Mine.lawBack (fun (y d : Int) => 0 ≤ y ∧ y < 2 ^ d.toNat ∧ (2 : Int) ^ d.toNat ≤ 2048 ∧ 1 ≤ d ∧ d ≤ 11))
    k_with "tree" => (first | exact Mine.kept_ret0 (by assumption) (by simp only [rangeKs_length]; omega) (by assumption) | exact Mine.kept_ret (by assumption) (by simp only [rangeKs_length]; omega) (by assumption))
    k_with "tree" => (exact Mine.back_ret (by assumption) (by simp only [rangeKs_length]; omega))
    k_with "pyIter ref" => (k_of "k" => k_state_given ["twice", "d"] (fun twice d pre y => Mine.KP twice d pre.length y) "y")
    k_with "pyIter ref" => (k_of "k" => k_state_given ["y", "d"] (fun y d pre z => 0 ≤ z ∧ z ≤ 4096 ∧ Mine.BP y d pre.length z) "z")
    k_with "state" => (first | exact Mine.kept_start (by omega) (by omega) | exact Mine.kept_yes (by assumption) (by omega) (by omega) (by assumption) | exact Mine.kept_no (by assumption) (by omega) (by omega) (by assumption) | exact Mine.back_startP (by omega) (by omega) (by omega) (by omega) | exact Mine.back_yesP (by assumption) (by omega) (by omega) (by omega) (by assumption) | exact Mine.back_noP (by assumption) (by omega) (by omega) (by omega) (by assumption))
    k_with "fact _law_kept" => exact Mine.lawKept_fact
    refine wpAny_execs_cons ?_
    k_steps
    rename_i c2z1 c2z2 c2z3 c2z4 c2z5 c2z6 c2z7 c2z8 c2z9 c2z10 c2z11 c2z12 c2z13 c2z14 c2z15 c2z16 c2z17 c2z18 c2z19 c2z20 c2z21 c2z22 c2z23 c2z24 c2z25 c2z26 c2z27 c2z28 c2z29 c2z30 c2z31 c2z32 c2z33 c2z34 c2z35 c2z36 c2z37 c2z38 c2z39 c2z40 c2z41 c2z42 c2z43 c2z44
    revert tk ek qk Cb hv1 v ht1 hd1 d a2 start a0 c1z72 c1z71 c1z70 c1z69 c1z68 c1z67 c1z66 c1z65 c1z64 c1z63 c1z62 c1z61 c1z60 c1z59 c1z58 c1z57 c1z56 c1z55 c1z54 c1z53 c1z52 c1z51 c1z50 c1z49 c1z48 c1z47 c1z46 c1z45 c1z44 c1z43 c1z42 c1z41 c1z40 c1z39 c1z38 c1z37 c1z36 c1z35 c1z34 c1z33 c1z32 c1z31 c1z30 c1z29 c1z28 c1z27 c1z26 c1z25 c1z24 c1z23 c1z22 c1z21 c1z20 c1z19 c1z18 c1z17 c1z16 c1z15 c1z14 c1z13 c1z12 c1z11 c1z10 c1z9 c1z8 c1z7 c1z6 c1z5 c1z4 c1z3 c1z2 c1z1 c2z1 c2z2 c2z3 c2z4 c2z5 c2z6 c2z7 c2z8 c2z9 c2z10 c2z11 c2z12 c2z13 c2z14 c2z15 c2z16 c2z17 c2z18 c2z19 c2z20 c2z21 c2z22 c2z23 c2z24 c2z25 c2z26 c2z27 c2z28 c2z29 c2z30 c2z31 c2z32 c2z33 c2z34 c2z35 c2z36 c2z37 c2z38 c2z39 c2z40 c2z41 c2z42 c2z43 c2z44
    exact Mine.Box.out hG
  k_with_none
  refine' Mine.cut ?k3 ?g3
  case k3 =>
    intro hG
    (set_option tactic.hygienic false in intros)
    refine Mine.Halt.mk ?_
    rename Fr _ _ _ _ => F1
    dsimp only at F1
    k_with "pyIter ref" => (k_of "i" => k_state_given ["d", "start"] (fun d start pre rest y z low xs ys zs => xs.length = pre.length ∧ ys.length = pre.length ∧ zs.length = pre.length ∧ Mine.ML d start pre.length rest y z low xs ys zs) "rest" "y" "z" "low" "xs" "ys" "zs")
    k_with "exec While Compare cons nil" => (rename News _ _ _ _ => nW; simp only [List.push_toArray] at nW; k_while_given ["y", "two"] (fun y two _ low z => Mine.WP two y low z ∧ -two ≤ 2 * low) (fun _ _ _ low _ => low.toNat) "low" "z")
    k_with "state" => (first | exact Mine.ml_start (by omega) (by omega) (by assumption) | exact Mine.ml_same (by assumption) (by assumption) (by assumption) | exact Mine.ml_step (by assumption) (by assumption) (by assumption) (by assumption) (by assumption) (by assumption) (by assumption) | exact Mine.ml_wrap (by assumption) (by assumption) (by assumption) (by assumption) (by assumption) (by assumption) (by assumption) | exact Mine.wp_start (by assumption) | exact Mine.wp_turn (by assumption) (by assumption) (by omega) (by assumption))
    refine wpAny_execs_cons ?_
    k_steps
    rename_i c3z1 c3z2 c3z3 c3z4 c3z5 c3z6 c3z7 c3z8 c3z9 c3z10 c3z11 c3z12 c3z13 c3z14 c3z15 c3z16 c3z17 c3z18 c3z19 c3z20 c3z21 c3z22 c3z23 c3z24 c3z25 c3z26 c3z27 c3z28 c3z29 c3z30 c3z31 c3z32 c3z33 c3z34 c3z35 c3z36 c3z37
    revert kLen kMark kNews kFr kTk kH kU tk c2z42 c2z41 c2z40 c2z39 c2z38 c2z37 c2z36 c2z35 c2z34 c2z33 c2z32 c2z31 c2z30 c2z29 c2z28 c2z27 c2z26 c2z25 ek qk c2z24 c2z23 c2z22 Cb c2z21 c2z20 c2z19 c2z18 c2z17 c2z16 c2z15 c2z14 c2z13 c2z12 c2z11 c2z10 c2z9 c2z8 c2z7 c2z6 c2z5 hv1 v ht1 hd1 d a2 start a0 c2z4 c1z72 c2z3 c2z2 c1z71 c1z70 c1z69 c1z68 c1z67 c1z66 c1z65 c1z64 c1z63 c1z62 c1z61 c1z60 c1z59 c1z58 c1z57 c1z56 c1z55 c1z54 c1z53 c2z1 c1z52 c1z51 c1z50 c1z49 c1z48 c1z47 c1z46 c1z45 c1z44 c1z43 c1z42 c1z41 c1z40 c1z39 c1z38 c1z37 c1z36 c1z35 c1z34 c1z33 c1z32 c1z31 c1z30 c1z29 c1z28 c1z27 c1z26 c1z25 c1z24 c1z23 c1z22 c1z21 c1z20 c1z19 c1z18 c1z17 c1z16 c1z15 c1z14 c1z13 c1z12 c1z11 c1z10 c1z9 c1z8 c1z7 c1z6 c1z5 c1z4 c1z3 c1z2 c1z1 c3z1 c3z2 c3z3 c3z4 c3z5 c3z6 c3z7 c3z8 c3z9 c3z10 c3z11 c3z12 c3z13 c3z14 c3z15 c3z16 c3z17 c3z18 c3z19 c3z20 c3z21 c3z22 c3z23 c3z24 c3z25 c3z26 c3z27 c3z28 c3z29 c3z30 c3z31 c3z32 c3z33 c3z34 c3z35 c3z36 c3z37
    exact Mine.Box.out hG
  k_with_none
  refine' Mine.cut ?k4a ?g4a
  case k4a =>
    intro hG
    (set_option tactic.hygienic false in intros)
    refine Mine.Halt.mk ?_
    repeat (with_reducible rename IsRange _ _ _ _ _ _ _ _ => zz; clear zz)
    repeat (with_reducible rename CbC _ _ _ => zz; clear zz)
    repeat (with_reducible rename KJoinAt _ _ _ _ _ _ => zz; clear zz)
    repeat (with_reducible rename KstMark => zz; clear zz)
    repeat (with_reducible rename (_ ∧ _) ∨ (_ ∧ _) => zz; clear zz)
    repeat (with_reducible rename (∀ (b : Addr) (o : Obj), Heap.get? _ b = some o → Heap.get? _ b = some o) => zz; clear zz)
    with_reducible rename Mine.ML _ _ _ _ _ _ _ _ _ _ => hM
    have hM := Mine.ml_done hM
    obtain ⟨hMx, hMy, hMz⟩ := hM
    subst hMx hMy hMz
    repeat (with_reducible rename (List.length _ = List.length _) => zz; clear zz)
    have hlx := Mine.xsOf_length start 256
    have hly := Mine.ysOf_length d start 256
    have hlz := Mine.zsOf_length d start 256
    have hvx := (IntsAre.length ‹IntsAre _ (Mine.xsOf start 256)›).trans hlx
    have hvy := (IntsAre.length ‹IntsAre _ (Mine.ysOf d start 256)›).trans hly
    have hvz := (IntsAre.length ‹IntsAre _ (Mine.zsOf d start 256)›).trans hlz
    with_reducible rename Mine.ML _ _ _ _ _ _ _ _ _ _ => zz
    clear zz
    with_reducible rename _ ≤ Mine.lawKept _ _ ∧ _ => zz
    clear zz
    k_sweep
    refine wpAny_execs_cons ?_
    k_steps
    rename_i c4az1 c4az2 c4az3 c4az4 c4az5 c4az6 c4az7 c4az8 c4az9 c4az10 c4az11 c4az12 c4az13 c4az14 c4az15 c4az16 c4az17 c4az18 c4az19 c4az20 c4az21 c4az22 c4az23 c4az24 c4az25 c4az26 c4az27 c4az28 c4az29 c4az30 c4az31 c4az32 c4az33 c4az34 c4az35 c4az36 c4az37 c4az38 c4az39 c4az40 c4az41 c4az42 c4az43 c4az44 c4az45 c4az46 c4az47 c4az48 c4az49 c4az50 c4az51 c4az52 c4az53 c4az54 c4az55 c4az56 c4az57 c4az58 c4az59 c4az60 c4az61 c4az62
    revert tk ys lifted hvz hvy hvx hlz hly hlx c3z30 c3z29 c3z28 c3z27 kTk kH kU c3z26 c3z24 c3z23 c3z21 c3z20 c3z18 c3z17 c3z16 c3z15 c3z14 c3z13 c3z12 c3z11 c3z10 c3z7 c3z6 c3z5 c3z4 c3z3 c2z42 c2z41 c2z40 c2z39 c2z38 c2z37 c2z36 c2z35 c2z34 c2z33 c2z32 c2z31 c2z30 c2z29 c2z28 c2z27 c2z26 c2z25 ek qk c2z24 c2z23 c2z22 c2z19 c2z18 c2z17 c2z16 c2z15 c2z14 c2z13 c2z12 c2z10 c2z9 c2z8 c2z7 c2z6 hv1 v ht1 hd1 d a2 start a0 c2z4 c1z72 c2z3 c2z2 c1z71 c1z70 c1z69 c1z68 c1z67 c1z66 c1z65 c1z64 c1z63 c1z62 c1z61 c1z60 c1z59 c1z58 c1z57 c1z56 c1z55 c1z54 c1z53 c1z52 c1z51 c1z50 c1z49 c1z48 c1z47 c1z46 c1z45 c1z44 c1z43 c1z42 c1z41 c1z40 c1z39 c1z38 c1z37 c1z36 c1z35 c1z34 c1z33 c1z32 c1z31 c1z30 c1z29 c1z28 c1z27 c1z26 c1z25 c1z24 c1z23 c1z22 c1z21 c1z20 c1z19 c1z18 c1z17 c1z16 c1z15 c1z14 c1z13 c1z12 c1z11 c1z10 c1z9 c1z8 c1z7 c1z6 c1z5 c1z4 c1z3 c1z2 c1z1 c4az1 c4az2 c4az3 c4az4 c4az5 c4az6 c4az7 c4az8 c4az9 c4az10 c4az11 c4az12 c4az13 c4az14 c4az15 c4az16 c4az17 c4az18 c4az19 c4az20 c4az21 c4az22 c4az23 c4az24 c4az25 c4az26 c4az27 c4az28 c4az29 c4az30 c4az31 c4az32 c4az33 c4az34 c4az35 c4az36 c4az37 c4az38 c4az39 c4az40 c4az41 c4az42 c4az43 c4az44 c4az45 c4az46 c4az47 c4az48 c4az49 c4az50 c4az51 c4az52 c4az53 c4az54 c4az55 c4az56 c4az57 c4az58 c4az59 c4az60 c4az61 c4az62
    exact Mine.Box.out hG
  k_with_none
  refine' Mine.cut ?k4b ?g4b
  case k4b =>
    intro hG
    (set_option tactic.hygienic false in intros)
    refine Mine.Halt.mk ?_
    refine wpAny_execs_cons ?_
    k_steps
    rename_i c4bz1 c4bz2 c4bz3 c4bz4 c4bz5 c4bz6 c4bz7 c4bz8 c4bz9 c4bz10 c4bz11 c4bz12 c4bz13 c4bz14 c4bz15 c4bz16 c4bz17 c4bz18 c4bz19 c4bz20 c4bz21 c4bz22 c4bz23 c4bz24 c4bz25 c4bz26 c4bz27 c4bz28 c4bz29 c4bz30 c4bz31 c4bz32 c4bz33 c4bz34 c4bz35 c4bz36 c4bz37 c4bz38 c4bz39 c4bz40 c4bz41 c4bz42 c4bz43 c4bz44 c4bz45 c4bz46 c4bz47 c4bz48 c4bz49 c4bz50 c4bz51 c4bz52 c4bz53 c4bz54 c4bz55 c4bz56 c4bz57 c4bz58 c4bz59 c4bz60 c4bz61 c4bz62 c4bz63 c4bz64 c4bz65 c4bz66 c4bz67 c4bz68 c4bz69 c4bz70 c4bz71 c4bz72 c4bz73 c4bz74 c4bz75 c4bz76 c4bz77 c4bz78 c4bz79 c4bz80
    revert tk ek qk lifted c4az60 c4az59 c4az58 c4az57 c4az56 c4az55 c4az54 c4az53 c4az52 c4az51 c4az50 c4az49 c4az48 c4az47 c4az46 c4az45 c4az44 ys c4az43 c4az42 c4az41 c4az40 c4az39 c4az38 c4az37 c4az36 c4az35 c4az34 c4az33 c4az32 c4az31 c4az30 c4az29 c4az28 c4az27 c4az26 c4az25 c4az24 c4az23 c4az22 c4az21 c4az20 c4az19 c4az18 c4az17 c4az16 c4az15 c4az14 c4az13 c4az12 c4az11 c4az10 c4az9 c4az8 c4az7 c4az6 c4az5 c4az4 c4az3 c4az2 hvz hvy hvx hlz hly hlx c3z30 c3z29 c3z28 c3z27 kTk kH kU c3z26 c3z24 c3z23 c3z21 c3z20 c3z18 c3z17 c3z16 c3z15 c3z14 c3z13 c3z12 c3z11 c3z10 c3z7 c3z6 c3z5 c3z4 c3z3 c4az1 c2z42 c2z41 c2z40 c2z39 c2z38 c2z37 c2z36 c2z35 c2z34 c2z33 c2z32 c2z31 c2z30 c2z29 c2z28 c2z27 c2z26 c2z25 c2z24 c2z23 c2z22 c2z19 c2z18 c2z17 c2z16 c2z15 c2z14 c2z13 c2z12 c2z10 c2z9 c2z8 c2z7 c2z6 hv1 v ht1 hd1 d a2 start a0 c2z4 c1z72 c2z3 c2z2 c1z71 c1z70 c1z69 c1z68 c1z67 c1z66 c1z65 c1z64 c1z63 c1z62 c1z61 c1z60 c1z59 c1z58 c1z57 c1z56 c1z55 c1z54 c1z53 c1z52 c1z51 c1z50 c1z49 c1z48 c1z47 c1z46 c1z45 c1z44 c1z43 c1z42 c1z41 c1z40 c1z39 c1z38 c1z37 c1z36 c1z35 c1z34 c1z33 c1z32 c1z31 c1z30 c1z29 c1z28 c1z27 c1z26 c1z25 c1z24 c1z23 c1z22 c1z21 c1z20 c1z19 c1z18 c1z17 c1z16 c1z15 c1z14 c1z13 c1z12 c1z11 c1z10 c1z9 c1z8 c1z7 c1z6 c1z5 c1z4 c1z3 c1z2 c1z1 c4bz1 c4bz2 c4bz3 c4bz4 c4bz5 c4bz6 c4bz7 c4bz8 c4bz9 c4bz10 c4bz11 c4bz12 c4bz13 c4bz14 c4bz15 c4bz16 c4bz17 c4bz18 c4bz19 c4bz20 c4bz21 c4bz22 c4bz23 c4bz24 c4bz25 c4bz26 c4bz27 c4bz28 c4bz29 c4bz30 c4bz31 c4bz32 c4bz33 c4bz34 c4bz35 c4bz36 c4bz37 c4bz38 c4bz39 c4bz40 c4bz41 c4bz42 c4bz43 c4bz44 c4bz45 c4bz46 c4bz47 c4bz48 c4bz49 c4bz50 c4bz51 c4bz52 c4bz53 c4bz54 c4bz55 c4bz56 c4bz57 c4bz58 c4bz59 c4bz60 c4bz61 c4bz62 c4bz63 c4bz64 c4bz65 c4bz66 c4bz67 c4bz68 c4bz69 c4bz70 c4bz71 c4bz72 c4bz73 c4bz74 c4bz75 c4bz76 c4bz77 c4bz78 c4bz79 c4bz80
    exact Mine.Box.out hG
  k_with_none
  refine' Mine.cut ?k4c ?g4c
  case k4c =>
    intro hG
    (set_option tactic.hygienic false in intros)
    refine Mine.Halt.mk ?_
    refine wpAny_execs_cons ?_
    k_steps
    rotate_left
    · first | exact absurd (Mine.cmp12 start hd1.1 hd1.2) (by assumption) | exact absurd (Mine.cmp1 d start) (by assumption)
    rename_i c4cz1 c4cz2 c4cz3 c4cz4 c4cz5 c4cz6 c4cz7 c4cz8 c4cz9 c4cz10 c4cz11 c4cz12 c4cz13 c4cz14 c4cz15 c4cz16 c4cz17 c4cz18 c4cz19 c4cz20 c4cz21 c4cz22 c4cz23 c4cz24 c4cz25 c4cz26 c4cz27 c4cz28 c4cz29 c4cz30 c4cz31 c4cz32 c4cz33 c4cz34 c4cz35 c4cz36 c4cz37 c4cz38 c4cz39 c4cz40 c4cz41 c4cz42
    revert tk ys lifted c4bz80 c4bz79 c4bz78 c4bz77 c4bz76 c4bz75 c4bz74 c4bz73 c4bz72 c4bz71 c4bz70 c4bz69 c4bz68 c4bz67 c4bz66 c4bz65 c4bz64 c4bz63 c4bz62 c4bz61 c4bz60 c4bz59 ek qk c4bz58 c4bz57 c4bz56 c4bz55 c4bz54 c4bz53 c4bz52 c4bz51 c4bz50 c4bz49 c4bz48 c4bz47 c4bz46 c4bz45 c4bz44 c4bz43 c4bz42 c4bz41 c4bz40 c4bz39 c4bz38 c4bz37 c4bz36 c4bz35 c4bz34 c4bz33 c4bz32 c4bz31 c4bz30 c4bz29 c4bz28 c4bz27 c4bz26 c4bz25 c4bz24 c4bz23 c4bz22 c4bz21 c4bz20 c4bz19 c4bz18 c4bz17 c4bz16 c4bz15 c4bz14 c4bz13 c4bz12 c4bz11 c4bz10 c4bz9 c4bz8 c4bz7 c4bz6 c4bz5 c4bz4 c4az60 c4az59 c4az58 c4az57 c4az56 c4az55 c4az54 c4az53 c4az52 c4az51 c4az50 c4az49 c4az48 c4az47 c4az46 c4az45 c4az44 c4az43 c4az42 c4az41 c4az40 c4az39 c4az38 c4az37 c4az36 c4az35 c4az34 c4az33 c4az32 c4az31 c4az30 c4az29 c4az28 c4az27 c4az26 c4az25 c4az24 c4bz3 c4az23 c4az22 c4az21 c4az20 c4az19 c4az18 c4az17 c4az16 c4az15 c4az14 c4az13 c4az12 c4az11 c4az10 c4az9 c4az8 c4az7 c4az6 c4az5 c4az4 c4az3 c4az2 hvz hvy hvx hlz hly hlx c3z30 c3z29 c3z28 c3z27 kTk kH kU c3z26 c3z24 c3z23 c3z21 c3z20 c3z18 c3z17 c3z16 c3z15 c3z14 c3z13 c3z12 c3z11 c3z10 c3z7 c3z6 c3z5 c3z4 c3z3 c4az1 c2z42 c2z41 c2z40 c2z39 c2z38 c2z37 c2z36 c2z35 c2z34 c2z33 c2z32 c2z31 c2z30 c2z29 c2z28 c2z27 c2z26 c2z25 c4bz2 c4bz1 c2z24 c2z23 c2z22 c2z19 c2z18 c2z17 c2z16 c2z15 c2z14 c2z13 c2z12 c2z10 c2z9 c2z8 c2z7 c2z6 hv1 v ht1 hd1 d a2 start a0 c2z4 c1z72 c2z3 c2z2 c1z71 c1z70 c1z69 c1z68 c1z67 c1z66 c1z65 c1z64 c1z63 c1z62 c1z61 c1z60 c1z59 c1z58 c1z57 c1z56 c1z55 c1z54 c1z53 c1z52 c1z51 c1z50 c1z49 c1z48 c1z47 c1z46 c1z45 c1z44 c1z43 c1z42 c1z41 c1z40 c1z39 c1z38 c1z37 c1z36 c1z35 c1z34 c1z33 c1z32 c1z31 c1z30 c1z29 c1z28 c1z27 c1z26 c1z25 c1z24 c1z23 c1z22 c1z21 c1z20 c1z19 c1z18 c1z17 c1z16 c1z15 c1z14 c1z13 c1z12 c1z11 c1z10 c1z9 c1z8 c1z7 c1z6 c1z5 c1z4 c1z3 c1z2 c1z1 c4cz1 c4cz2 c4cz3 c4cz4 c4cz5 c4cz6 c4cz7 c4cz8 c4cz9 c4cz10 c4cz11 c4cz12 c4cz13 c4cz14 c4cz15 c4cz16 c4cz17 c4cz18 c4cz19 c4cz20 c4cz21 c4cz22 c4cz23 c4cz24 c4cz25 c4cz26 c4cz27 c4cz28 c4cz29 c4cz30 c4cz31 c4cz32 c4cz33 c4cz34 c4cz35 c4cz36 c4cz37 c4cz38 c4cz39 c4cz40 c4cz41 c4cz42
    exact Mine.Box.out hG
  k_with_none
  refine' Mine.cut ?k4d ?g4d
  case k4d =>
    intro hG
    (set_option tactic.hygienic false in intros)
    refine Mine.Halt.mk ?_
    refine wpAny_execs_cons ?_
    k_steps
    rotate_left
    · first | exact absurd (Mine.cmp12 start hd1.1 hd1.2) (by assumption) | exact absurd (Mine.cmp1 d start) (by assumption)
    rename_i c4dz1 c4dz2 c4dz3 c4dz4 c4dz5 c4dz6 c4dz7 c4dz8 c4dz9 c4dz10 c4dz11 c4dz12 c4dz13 c4dz14 c4dz15 c4dz16 c4dz17 c4dz18 c4dz19 c4dz20 c4dz21 c4dz22 c4dz23 c4dz24 c4dz25 c4dz26 c4dz27 c4dz28 c4dz29 c4dz30 c4dz31 c4dz32 c4dz33 c4dz34 c4dz35 c4dz36 c4dz37 c4dz38 c4dz39 c4dz40 c4dz41 c4dz42 c4dz43 c4dz44 c4dz45
    revert tk ys lifted c4cz42 c4cz41 c4cz40 c4cz37 c4cz36 c4cz35 c4cz34 c4cz33 c4cz32 c4cz31 c4cz30 c4cz29 c4cz28 c4cz27 c4cz26 c4cz25 c4cz24 c4cz23 c4cz22 c4cz21 c4cz20 c4cz19 c4cz18 c4cz17 c4cz16 c4cz15 c4cz14 c4cz13 c4cz12 c4cz11 c4cz10 c4cz9 c4cz7 c4cz6 c4cz5 c4cz4 c4cz3 c4bz78 c4bz77 c4bz76 c4bz75 c4bz74 c4bz73 c4bz72 c4bz71 c4bz70 c4bz69 c4bz68 c4bz67 c4bz66 c4bz65 c4bz64 c4bz63 c4bz62 c4bz61 c4bz60 c4bz59 ek qk c4cz2 c4bz58 c4bz57 c4bz56 c4bz55 c4bz54 c4bz53 c4bz52 c4bz51 c4bz50 c4bz49 c4bz48 c4bz47 c4bz46 c4bz45 c4bz44 c4bz43 c4bz42 c4bz41 c4bz40 c4bz39 c4bz38 c4bz37 c4bz36 c4bz35 c4bz34 c4bz33 c4bz32 c4bz31 c4bz30 c4bz29 c4bz28 c4bz27 c4bz26 c4bz25 c4bz24 c4bz23 c4bz22 c4bz21 c4bz20 c4bz19 c4bz18 c4bz17 c4bz16 c4bz15 c4bz14 c4bz13 c4bz12 c4bz11 c4bz10 c4bz9 c4bz8 c4bz7 c4bz6 c4bz5 c4bz4 c4az60 c4az59 c4az58 c4az57 c4az56 c4az55 c4az54 c4az53 c4az52 c4az51 c4az50 c4az49 c4az48 c4az47 c4az46 c4az45 c4az44 c4cz1 c4az43 c4az42 c4az41 c4az40 c4az39 c4az38 c4az37 c4az36 c4az35 c4az34 c4az33 c4az32 c4az31 c4az30 c4az29 c4az28 c4az27 c4az26 c4az25 c4az24 c4bz3 c4az23 c4az22 c4az21 c4az20 c4az19 c4az18 c4az17 c4az16 c4az15 c4az14 c4az13 c4az12 c4az11 c4az10 c4az9 c4az8 c4az7 c4az6 c4az5 c4az4 c4az3 c4az2 hvz hvy hvx hlz hly hlx c3z30 c3z29 c3z28 c3z27 kTk kH kU c3z26 c3z24 c3z23 c3z21 c3z20 c3z18 c3z17 c3z16 c3z15 c3z14 c3z13 c3z12 c3z11 c3z10 c3z7 c3z6 c3z5 c3z4 c3z3 c4az1 c2z42 c2z41 c2z40 c2z39 c2z38 c2z37 c2z36 c2z35 c2z34 c2z33 c2z32 c2z31 c2z30 c2z29 c2z28 c2z27 c2z26 c2z25 c4bz2 c4bz1 c2z24 c2z23 c2z22 c2z19 c2z18 c2z17 c2z16 c2z15 c2z14 c2z13 c2z12 c2z10 c2z9 c2z8 c2z7 c2z6 hv1 v ht1 hd1 d a2 start a0 c2z4 c1z72 c2z3 c2z2 c1z71 c1z70 c1z69 c1z68 c1z67 c1z66 c1z65 c1z64 c1z63 c1z62 c1z61 c1z60 c1z59 c1z58 c1z57 c1z56 c1z55 c1z54 c1z53 c1z52 c1z51 c1z50 c1z49 c1z48 c1z47 c1z46 c1z45 c1z44 c1z43 c1z42 c1z41 c1z40 c1z39 c1z38 c1z37 c1z36 c1z35 c1z34 c1z33 c1z32 c1z31 c1z30 c1z29 c1z28 c1z27 c1z26 c1z25 c1z24 c1z23 c1z22 c1z21 c1z20 c1z19 c1z18 c1z17 c1z16 c1z15 c1z14 c1z13 c1z12 c1z11 c1z10 c1z9 c1z8 c1z7 c1z6 c1z5 c1z4 c1z3 c1z2 c1z1 c4dz1 c4dz2 c4dz3 c4dz4 c4dz5 c4dz6 c4dz7 c4dz8 c4dz9 c4dz10 c4dz11 c4dz12 c4dz13 c4dz14 c4dz15 c4dz16 c4dz17 c4dz18 c4dz19 c4dz20 c4dz21 c4dz22 c4dz23 c4dz24 c4dz25 c4dz26 c4dz27 c4dz28 c4dz29 c4dz30 c4dz31 c4dz32 c4dz33 c4dz34 c4dz35 c4dz36 c4dz37 c4dz38 c4dz39 c4dz40 c4dz41 c4dz42 c4dz43 c4dz44 c4dz45
    exact Mine.Box.out hG
  k_with_none
  refine' Mine.cut ?k5a ?g5a
  case k5a =>
    intro hG
    (set_option tactic.hygienic false in intros)
    refine Mine.Halt.mk ?_
    with_reducible rename IntsAre _ (List.map _ (List.map _ _)) => hP
    rw [Mine.cmp12 start hd1.1 hd1.2] at hP
    repeat (with_reducible rename IsRange _ _ _ _ _ _ _ _ => zz; clear zz)
    repeat (with_reducible rename (∀ (b : Addr) (o : Obj), Heap.get? _ b = some o → Heap.get? _ b = some o) => zz; clear zz)
    repeat (with_reducible rename (List.length _ = List.length _) => zz; clear zz)
    k_sweep
    rename News _ _ _ _ => N1
    have N2 := Mine.newsSel [true, false, false, false, false, false, true, true, false, false, false, false, true, true, false, true, true] N1
    clear N1
    dsimp only [Mine.sel] at N2
    k_with "pyIter ref" => (k_of "i" => k_state_given ["start"] (fun start pre xs => xs = Mine.xsOf start 256 ∧ xs.length = 256) "xs")
    k_with "state" => (first | exact ⟨rfl, Mine.xsOf_length _ _⟩ | exact ⟨by assumption, by assumption⟩)
    refine wpAny_execs_cons ?_
    k_steps
    · exact (Mine.away_loop hd1.1 hd1.2 (by assumption) (by assumption) (by assumption) (by assumption) (by assumption)).elim
    rename_i c5az1 c5az2 c5az3 c5az4 c5az5 c5az6 c5az7 c5az8 c5az9 c5az10 c5az11 c5az12 c5az13 c5az14 c5az15 c5az16 c5az17 c5az18 c5az19 c5az20 c5az21 c5az22 c5az23 c5az24 c5az25
    revert kLen kMark kNews kFr kFacts kTk kH kU tk c4dz43 c4dz42 c4dz41 c4dz40 c4dz39 c4dz38 c4dz37 c4dz36 c4dz35 c4dz34 c4dz33 c4dz32 c4dz31 hP ys c4dz28 c4dz26 lifted c4dz21 c4dz20 c4dz19 c4dz18 c4dz17 c4dz16 c4dz15 c4dz14 c4dz13 c4dz12 c4dz11 c4dz10 c4dz9 c4dz8 c4dz7 c4dz6 c4dz5 c4dz4 c4dz3 c4cz42 c4cz41 c4cz40 c4cz37 c4cz36 c4cz35 c4cz34 c4cz33 c4cz32 c4cz31 c4cz30 c4cz28 c4dz2 c4cz27 c4cz26 c4dz1 c4cz21 c4cz20 c4cz19 c4cz18 c4cz17 c4cz16 c4cz15 c4cz14 c4cz13 c4cz12 c4cz11 c4cz10 c4cz9 c4cz7 c4cz6 c4cz5 c4cz4 c4cz3 c4bz78 c4bz77 c4bz76 c4bz75 c4bz74 c4bz73 c4bz72 c4bz71 c4bz70 c4bz69 c4bz68 c4bz67 c4bz66 c4bz65 c4bz64 c4bz63 c4bz62 c4bz61 c4bz60 c4bz59 ek qk c4cz2 c4bz58 c4bz57 c4bz56 c4bz55 c4bz54 c4bz53 c4bz52 c4bz51 c4bz50 c4bz49 c4bz48 c4bz47 c4bz46 c4bz45 c4bz44 c4bz43 c4bz42 c4bz41 c4bz40 c4bz39 c4bz38 c4bz37 c4bz36 c4bz35 c4bz34 c4bz33 c4bz32 c4bz31 c4bz30 c4bz29 c4bz28 c4bz27 c4bz26 c4bz25 c4bz24 c4bz23 c4bz22 c4bz21 c4bz20 c4bz19 c4bz18 c4bz17 c4bz16 c4bz15 c4bz14 c4bz13 c4bz12 c4bz11 c4bz10 c4bz9 c4bz8 c4bz7 c4bz6 c4bz5 c4bz4 c4az60 c4az59 c4az58 c4az57 c4az56 c4az55 c4az54 c4az53 c4az52 c4az51 c4az50 c4az49 c4az48 c4az47 c4az46 c4az44 c4cz1 c4az43 c4az36 c4az35 c4az34 c4az33 c4az32 c4az31 c4az30 c4az29 c4az28 c4az27 c4az26 c4az25 c4az24 c4bz3 c4az23 c4az22 c4az21 c4az20 c4az19 c4az18 c4az17 c4az16 c4az15 c4az14 c4az13 c4az12 c4az11 c4az10 c4az9 c4az8 c4az7 c4az6 c4az5 c4az4 c4az3 c4az2 hvz hvy hvx hlz hly hlx c3z30 c3z29 c3z28 c3z27 c3z26 c3z24 c3z23 c3z21 c3z20 c3z18 c3z17 c3z16 c3z15 c3z14 c3z13 c3z12 c3z11 c3z10 c3z7 c3z6 c3z5 c3z4 c3z3 c4az1 c2z42 c2z41 c2z40 c2z39 c2z38 c2z37 c2z36 c2z35 c2z34 c2z33 c2z32 c2z31 c2z30 c2z29 c2z28 c2z27 c2z26 c2z25 c4bz2 c4bz1 c2z24 c2z23 c2z22 c2z19 c2z18 c2z17 c2z16 c2z15 c2z14 c2z13 c2z12 c2z10 c2z9 c2z8 c2z7 c2z6 hv1 v ht1 hd1 d a2 start a0 c2z4 c1z72 c2z3 c2z2 c1z71 c1z70 c1z69 c1z68 c1z67 c1z66 c1z65 c1z64 c1z63 c1z62 c1z61 c1z60 c1z59 c1z58 c1z57 c1z56 c1z55 c1z54 c1z53 c1z52 c1z51 c1z50 c1z49 c1z48 c1z47 c1z46 c1z45 c1z44 c1z43 c1z42 c1z41 c1z40 c1z39 c1z38 c1z37 c1z36 c1z35 c1z34 c1z33 c1z32 c1z31 c1z30 c1z29 c1z28 c1z27 c1z26 c1z25 c1z24 c1z23 c1z22 c1z21 c1z20 c1z19 c1z18 c1z17 c1z16 c1z15 c1z14 c1z13 c1z12 c1z11 c1z10 c1z9 c1z8 c1z7 c1z6 c1z5 c1z4 c1z3 c1z2 c1z1 c5az1 c5az2 c5az3 c5az4 c5az5 c5az6 c5az7 c5az8 c5az9 c5az10 c5az11 c5az12 c5az13 c5az14 c5az15 c5az16 c5az17 c5az18 c5az19 c5az20 c5az21 c5az22 c5az23 c5az24 c5az25
    exact Mine.Box.out hG
  k_with_none
  refine' Mine.cut ?k5b ?g5b
  case k5b =>
    intro hG
    (set_option tactic.hygienic false in intros)
    refine Mine.Halt.mk ?_
    refine wpAny_execs_cons ?_
    k_steps
    rotate_left
    · exact absurd (Mine.cmp3 start hd1.1 hd1.2) (by assumption)
    rename_i c5bz1 c5bz2 c5bz3 c5bz4 c5bz5 c5bz6 c5bz7 c5bz8 c5bz9 c5bz10 c5bz11 c5bz12 c5bz13 c5bz14 c5bz15 c5bz16 c5bz17 c5bz18 c5bz19 c5bz20 c5bz21 c5bz22 c5bz23 c5bz24 c5bz25 c5bz26 c5bz27 c5bz28 c5bz29 c5bz30 c5bz31 c5bz32 c5bz33 c5bz34 c5bz35 c5bz36 c5bz37 c5bz38 c5bz39 c5bz40 c5bz41 c5bz42 c5bz43 c5bz44 c5bz45 c5bz46 c5bz47
    revert tk ys lifted kLen c5az25 c5az24 c5az23 c5az22 c5az21 c5az20 c5az19 c5az18 c5az17 c5az16 kMark kNews kFr kFacts kTk kH kU c5az15 c5az14 c5az13 c5az12 c5az11 c5az10 c5az9 c5az8 c5az7 c5az6 c5az5 c5az4 c4dz43 c4dz42 c4dz41 c4dz40 c4dz39 c4dz38 c4dz37 c4dz36 c4dz35 c4dz34 c4dz33 c4dz32 c4dz31 hP c4dz28 c4dz26 c4dz21 c4dz20 c4dz19 c4dz18 c4dz17 c4dz16 c4dz15 c4dz14 c4dz13 c4dz12 c4dz11 c4dz10 c4dz9 c4dz8 c4dz7 c4dz6 c4dz5 c4dz4 c4dz3 c4cz42 c4cz41 c4cz40 c4cz37 c4cz36 c4cz35 c4cz34 c4cz33 c4cz32 c4cz31 c4cz30 c4cz28 c4dz2 c4cz27 c4cz26 c4dz1 c4cz21 c4cz20 c4cz19 c4cz18 c4cz17 c4cz16 c4cz15 c4cz14 c4cz13 c4cz12 c4cz11 c4cz10 c4cz9 c4cz7 c4cz6 c4cz5 c4cz4 c4cz3 c4bz78 c4bz77 c4bz76 c4bz75 c4bz74 c4bz73 c4bz72 c4bz71 c4bz70 c4bz69 c4bz68 c4bz67 c4bz66 c4bz65 c4bz64 c4bz63 c4bz62 c4bz61 c4bz60 c4bz59 ek qk c4cz2 c4bz58 c4bz57 c4bz56 c4bz55 c4bz54 c4bz53 c4bz52 c4bz51 c4bz50 c4bz49 c4bz48 c4bz47 c4bz46 c4bz45 c4bz44 c4bz43 c4bz42 c4bz41 c4bz40 c4bz39 c4bz38 c4bz37 c4bz36 c4bz35 c4bz34 c4bz33 c4bz32 c4bz31 c4bz30 c4bz29 c4bz28 c4bz27 c4bz26 c4bz25 c4bz24 c4bz23 c4bz22 c4bz21 c4bz20 c4bz19 c4bz18 c4bz17 c4bz16 c4bz15 c4bz14 c4bz13 c4bz12 c4bz11 c4bz10 c4bz9 c4bz8 c4bz7 c4bz6 c4bz5 c4bz4 c4az60 c4az59 c4az58 c4az57 c4az56 c4az55 c4az54 c4az53 c4az52 c4az51 c4az50 c4az49 c4az48 c4az47 c4az46 c4az44 c4cz1 c4az43 c4az36 c4az35 c4az34 c4az33 c4az32 c4az31 c4az30 c4az29 c4az28 c4az27 c4az26 c4az25 c4az24 c4bz3 c4az23 c4az22 c4az21 c4az20 c4az19 c4az18 c4az17 c4az16 c4az15 c4az14 c4az13 c4az12 c4az11 c4az10 c4az9 c4az8 c4az7 c4az6 c4az5 c4az4 c4az3 c4az2 hvz hvy hvx hlz hly hlx c3z30 c3z29 c3z28 c3z27 c5az3 c5az2 c5az1 c3z26 c3z24 c3z23 c3z21 c3z20 c3z18 c3z17 c3z16 c3z15 c3z14 c3z13 c3z12 c3z11 c3z10 c3z7 c3z6 c3z5 c3z4 c3z3 c4az1 c2z42 c2z41 c2z40 c2z39 c2z38 c2z37 c2z36 c2z35 c2z34 c2z33 c2z32 c2z31 c2z30 c2z29 c2z28 c2z27 c2z26 c2z25 c4bz2 c4bz1 c2z24 c2z23 c2z22 c2z19 c2z18 c2z17 c2z16 c2z15 c2z14 c2z13 c2z12 c2z10 c2z9 c2z8 c2z7 c2z6 hv1 v ht1 hd1 d a2 start a0 c2z4 c1z72 c2z3 c2z2 c1z71 c1z70 c1z69 c1z68 c1z67 c1z66 c1z65 c1z64 c1z63 c1z62 c1z61 c1z60 c1z59 c1z58 c1z57 c1z56 c1z55 c1z54 c1z53 c1z52 c1z51 c1z50 c1z49 c1z48 c1z47 c1z46 c1z45 c1z44 c1z43 c1z42 c1z41 c1z40 c1z39 c1z38 c1z37 c1z36 c1z35 c1z34 c1z33 c1z32 c1z31 c1z30 c1z29 c1z28 c1z27 c1z26 c1z25 c1z24 c1z23 c1z22 c1z21 c1z20 c1z19 c1z18 c1z17 c1z16 c1z15 c1z14 c1z13 c1z12 c1z11 c1z10 c1z9 c1z8 c1z7 c1z6 c1z5 c1z4 c1z3 c1z2 c1z1 c5bz1 c5bz2 c5bz3 c5bz4 c5bz5 c5bz6 c5bz7 c5bz8 c5bz9 c5bz10 c5bz11 c5bz12 c5bz13 c5bz14 c5bz15 c5bz16 c5bz17 c5bz18 c5bz19 c5bz20 c5bz21 c5bz22 c5bz23 c5bz24 c5bz25 c5bz26 c5bz27 c5bz28 c5bz29 c5bz30 c5bz31 c5bz32 c5bz33 c5bz34 c5bz35 c5bz36 c5bz37 c5bz38 c5bz39 c5bz40 c5bz41 c5bz42 c5bz43 c5bz44 c5bz45 c5bz46 c5bz47
    exact Mine.Box.out hG
  k_with_none
  refine' Mine.cut ?k6a ?g6a
  case k6a =>
    intro hG
    (set_option tactic.hygienic false in intros)
    refine Mine.Halt.mk ?_
    repeat (with_reducible rename IsRange _ _ _ _ _ _ _ _ => zz; clear zz)
    repeat (with_reducible rename (∀ (b : Addr) (o : Obj), Heap.get? _ b = some o → Heap.get? _ b = some o) => zz; clear zz)
    repeat (with_reducible rename (List.length _ = List.length _) => zz; clear zz)
    repeat (with_reducible rename IntsAre _ (List.map _ _) => zz; clear zz)
    k_sweep
    rename News _ _ _ _ => N1
    have N2 := Mine.newsSel [false, false, false, false, false, false, true, true, false, false] N1
    clear N1
    dsimp only [Mine.sel] at N2
    have hlast := Mine.last_ok hd1.1 hd1.2 hv1.1 hv1.2
    refine wpAny_execs_cons ?_
    k_steps
    rename_i c6az1 c6az2 c6az3 c6az4 c6az5 c6az6
    revert tk hlast c5bz47 c5bz46 c5bz45 c5bz42 c5bz41 c5bz40 c5bz39 c5bz38 c5bz37 c5bz36 c5bz35 ys c5bz32 c5bz28 lifted c5bz23 c5bz22 c5bz21 c5bz20 c5bz19 c5bz18 c5bz17 c5bz16 c5bz15 c5bz14 c5bz13 c5bz12 c5bz11 c5bz10 c5bz9 c5bz7 c5bz6 c5bz5 c5bz4 c5az18 c5az17 c5az16 kMark kNews kFr kFacts kTk kH kU c5az15 c5az14 c5az13 c5az10 c5az9 c5az8 c5az7 c5az6 c5bz3 c4dz43 c4dz42 c4dz41 c4dz40 c4dz39 c4dz38 c4dz37 c4dz36 c4dz35 c4dz34 c4dz33 c4dz32 c4dz31 hP c5bz2 c4dz28 c4dz26 c5bz1 c4dz21 c4dz20 c4dz19 c4dz18 c4dz17 c4dz16 c4dz15 c4dz14 c4dz13 c4dz12 c4dz11 c4dz10 c4dz9 c4dz8 c4dz7 c4dz6 c4dz5 c4dz4 c4dz3 c4cz42 c4cz41 c4cz40 c4cz37 c4cz36 c4cz35 c4cz34 c4cz33 c4cz32 c4cz31 c4cz30 c4dz2 c4cz27 c4cz26 c4dz1 c4cz21 c4cz20 c4cz19 c4cz18 c4cz17 c4cz16 c4cz15 c4cz14 c4cz13 c4cz12 c4cz11 c4cz10 c4cz9 c4cz7 c4cz6 c4cz5 c4cz4 c4cz3 c4bz78 c4bz77 c4bz76 c4bz75 c4bz74 c4bz73 c4bz72 c4bz71 c4bz70 c4bz69 c4bz68 c4bz67 c4bz66 c4bz65 c4bz64 c4bz63 c4bz62 c4bz61 c4bz60 c4bz59 ek qk c4cz2 c4bz58 c4bz57 c4bz56 c4bz55 c4bz54 c4bz53 c4bz52 c4bz51 c4bz50 c4bz49 c4bz48 c4bz47 c4bz46 c4bz45 c4bz44 c4bz43 c4bz42 c4bz41 c4bz40 c4bz39 c4bz38 c4bz37 c4bz36 c4bz35 c4bz34 c4bz33 c4bz32 c4bz31 c4bz30 c4bz29 c4bz28 c4bz27 c4bz26 c4bz25 c4bz24 c4bz23 c4bz22 c4bz21 c4bz20 c4bz19 c4bz18 c4bz17 c4bz16 c4bz15 c4bz14 c4bz13 c4bz12 c4bz11 c4bz10 c4bz9 c4bz8 c4bz7 c4bz6 c4bz5 c4bz4 c4az60 c4az59 c4az58 c4az57 c4az56 c4az55 c4az54 c4az53 c4az52 c4az51 c4az50 c4az49 c4az48 c4az47 c4az46 c4cz1 c4az43 c4az36 c4az35 c4az34 c4az33 c4az32 c4az31 c4az30 c4az29 c4az28 c4az27 c4az26 c4az25 c4az24 c4bz3 c4az23 c4az22 c4az21 c4az20 c4az19 c4az18 c4az17 c4az16 c4az15 c4az14 c4az13 c4az12 c4az11 c4az10 c4az9 c4az8 c4az7 c4az6 c4az5 c4az4 c4az3 c4az2 hvz hvy hvx hlz hly hlx c3z30 c3z29 c3z28 c3z27 c5az3 c5az2 c5az1 c3z26 c3z24 c3z23 c3z21 c3z20 c3z18 c3z17 c3z16 c3z15 c3z14 c3z13 c3z12 c3z11 c3z10 c3z7 c3z6 c3z5 c3z4 c3z3 c4az1 c2z42 c2z41 c2z40 c2z39 c2z38 c2z37 c2z36 c2z35 c2z34 c2z33 c2z32 c2z31 c2z30 c2z29 c2z28 c2z27 c2z26 c2z25 c4bz2 c4bz1 c2z24 c2z23 c2z22 c2z19 c2z18 c2z17 c2z16 c2z15 c2z14 c2z13 c2z12 c2z10 c2z9 c2z8 c2z7 c2z6 hv1 v ht1 hd1 d a2 start a0 c2z4 c1z72 c2z3 c2z2 c1z71 c1z70 c1z69 c1z68 c1z67 c1z66 c1z65 c1z64 c1z63 c1z62 c1z61 c1z60 c1z59 c1z58 c1z57 c1z56 c1z55 c1z54 c1z53 c1z52 c1z51 c1z50 c1z49 c1z48 c1z47 c1z46 c1z45 c1z44 c1z43 c1z42 c1z41 c1z40 c1z39 c1z38 c1z37 c1z36 c1z35 c1z34 c1z33 c1z32 c1z31 c1z30 c1z29 c1z28 c1z27 c1z26 c1z25 c1z24 c1z23 c1z22 c1z21 c1z20 c1z19 c1z18 c1z17 c1z16 c1z15 c1z14 c1z13 c1z12 c1z11 c1z10 c1z9 c1z8 c1z7 c1z6 c1z5 c1z4 c1z3 c1z2 c1z1 c6az1 c6az2 c6az3 c6az4 c6az5 c6az6
    exact Mine.Box.out hG
  k_with_none
  refine' Mine.cut ?k6b ?g6b
  case k6b =>
    intro hG
    (set_option tactic.hygienic false in intros)
    refine Mine.Halt.mk ?_
    refine wpAny_execs_cons ?_
    k_steps
    rename_i c6bz1 c6bz2 c6bz3 c6bz4 c6bz5 c6bz6 c6bz7 c6bz8 c6bz9 c6bz10 c6bz11 c6bz12 c6bz13 c6bz14 c6bz15 c6bz16 c6bz17 c6bz18 c6bz19 c6bz20 c6bz21 c6bz22 c6bz23 c6bz24 c6bz25 c6bz26 c6bz27 c6bz28 c6bz29 c6bz30 c6bz31 c6bz32 c6bz33 c6bz34 c6bz35 c6bz36 c6bz37 c6bz38 c6bz39 c6bz40 c6bz41 c6bz42 c6bz43 c6bz44 c6bz45 c6bz46 c6bz47 c6bz48 c6bz49 c6bz50 c6bz51 c6bz52 c6bz53 c6bz54 c6bz55 c6bz56 c6bz57 c6bz58 c6bz59 c6bz60 c6bz61 c6bz62 c6bz63 c6bz64 c6bz65 c6bz66 c6bz67 c6bz68 c6bz69 c6bz70 c6bz71 c6bz72 c6bz73 c6bz74 c6bz75 c6bz76 c6bz77 c6bz78 c6bz79 c6bz80 c6bz81 c6bz82 c6bz83 c6bz84 c6bz85 c6bz86 c6bz87 c6bz88 c6bz89 c6bz90 c6bz91 c6bz92 c6bz93 c6bz94 c6bz95 c6bz96 c6bz97 c6bz98 c6bz99 c6bz100 c6bz101 c6bz102 c6bz103 c6bz104 c6bz105 c6bz106 c6bz107 c6bz108 c6bz109 c6bz110 c6bz111 c6bz112 c6bz113 c6bz114 c6bz115 c6bz116 c6bz117 c6bz118 c6bz119
    revert tk ys ek qk lifted c6az4 c6az3 c6az2 hlast c6az1 c5bz47 c5bz46 c5bz45 c5bz42 c5bz41 c5bz40 c5bz39 c5bz38 c5bz37 c5bz36 c5bz35 c5bz32 c5bz28 c5bz23 c5bz22 c5bz21 c5bz20 c5bz19 c5bz18 c5bz17 c5bz16 c5bz15 c5bz14 c5bz13 c5bz12 c5bz11 c5bz10 c5bz9 c5bz7 c5bz6 c5bz5 c5bz4 c5az18 c5az17 c5az16 kMark kNews kFr kFacts kTk kH kU c5az15 c5az14 c5az13 c5az10 c5az9 c5az8 c5az7 c5az6 c5bz3 c4dz43 c4dz42 c4dz41 c4dz40 c4dz39 c4dz38 c4dz37 c4dz36 c4dz35 c4dz34 c4dz33 c4dz32 c4dz31 hP c5bz2 c4dz28 c4dz26 c5bz1 c4dz21 c4dz20 c4dz19 c4dz18 c4dz17 c4dz16 c4dz15 c4dz14 c4dz13 c4dz12 c4dz11 c4dz10 c4dz9 c4dz8 c4dz7 c4dz6 c4dz5 c4dz4 c4dz3 c4cz42 c4cz41 c4cz40 c4cz37 c4cz36 c4cz35 c4cz34 c4cz33 c4cz32 c4cz31 c4cz30 c4dz2 c4cz27 c4cz26 c4dz1 c4cz21 c4cz20 c4cz19 c4cz18 c4cz17 c4cz16 c4cz15 c4cz14 c4cz13 c4cz12 c4cz11 c4cz10 c4cz9 c4cz7 c4cz6 c4cz5 c4cz4 c4cz3 c4bz78 c4bz77 c4bz76 c4bz75 c4bz74 c4bz73 c4bz72 c4bz71 c4bz70 c4bz69 c4bz68 c4bz67 c4bz66 c4bz65 c4bz64 c4bz63 c4bz62 c4bz61 c4bz60 c4bz59 c4cz2 c4bz58 c4bz57 c4bz56 c4bz55 c4bz54 c4bz53 c4bz52 c4bz51 c4bz50 c4bz49 c4bz48 c4bz47 c4bz46 c4bz45 c4bz44 c4bz43 c4bz42 c4bz41 c4bz40 c4bz39 c4bz38 c4bz37 c4bz36 c4bz35 c4bz34 c4bz33 c4bz32 c4bz31 c4bz30 c4bz29 c4bz28 c4bz27 c4bz26 c4bz25 c4bz24 c4bz23 c4bz22 c4bz21 c4bz20 c4bz19 c4bz18 c4bz17 c4bz16 c4bz15 c4bz14 c4bz13 c4bz12 c4bz11 c4bz10 c4bz9 c4bz8 c4bz7 c4bz6 c4bz5 c4bz4 c4az60 c4az59 c4az58 c4az57 c4az56 c4az55 c4az54 c4az53 c4az52 c4az51 c4az50 c4az49 c4az48 c4az47 c4az46 c4cz1 c4az43 c4az36 c4az35 c4az34 c4az33 c4az32 c4az31 c4az30 c4az29 c4az28 c4az27 c4az26 c4az25 c4az24 c4bz3 c4az23 c4az22 c4az21 c4az20 c4az19 c4az18 c4az17 c4az16 c4az15 c4az14 c4az13 c4az12 c4az11 c4az10 c4az9 c4az8 c4az7 c4az6 c4az5 c4az4 c4az3 c4az2 hvz hvy hvx hlz hly hlx c3z30 c3z29 c3z28 c3z27 c5az3 c5az2 c5az1 c3z26 c3z24 c3z23 c3z21 c3z20 c3z18 c3z17 c3z16 c3z15 c3z14 c3z13 c3z12 c3z11 c3z10 c3z7 c3z6 c3z5 c3z4 c3z3 c4az1 c2z42 c2z41 c2z40 c2z39 c2z38 c2z37 c2z36 c2z35 c2z34 c2z33 c2z32 c2z31 c2z30 c2z29 c2z28 c2z27 c2z26 c2z25 c4bz2 c4bz1 c2z24 c2z23 c2z22 c2z19 c2z18 c2z17 c2z16 c2z15 c2z14 c2z13 c2z12 c2z10 c2z9 c2z8 c2z7 c2z6 hv1 v ht1 hd1 d a2 start a0 c2z4 c1z72 c2z3 c2z2 c1z71 c1z70 c1z69 c1z68 c1z67 c1z66 c1z65 c1z64 c1z63 c1z62 c1z61 c1z60 c1z59 c1z58 c1z57 c1z56 c1z55 c1z54 c1z53 c1z52 c1z51 c1z50 c1z49 c1z48 c1z47 c1z46 c1z45 c1z44 c1z43 c1z42 c1z41 c1z40 c1z39 c1z38 c1z37 c1z36 c1z35 c1z34 c1z33 c1z32 c1z31 c1z30 c1z29 c1z28 c1z27 c1z26 c1z25 c1z24 c1z23 c1z22 c1z21 c1z20 c1z19 c1z18 c1z17 c1z16 c1z15 c1z14 c1z13 c1z12 c1z11 c1z10 c1z9 c1z8 c1z7 c1z6 c1z5 c1z4 c1z3 c1z2 c1z1 c6bz1 c6bz2 c6bz3 c6bz4 c6bz5 c6bz6 c6bz7 c6bz8 c6bz9 c6bz10 c6bz11 c6bz12 c6bz13 c6bz14 c6bz15 c6bz16 c6bz17 c6bz18 c6bz19 c6bz20 c6bz21 c6bz22 c6bz23 c6bz24 c6bz25 c6bz26 c6bz27 c6bz28 c6bz29 c6bz30 c6bz31 c6bz32 c6bz33 c6bz34 c6bz35 c6bz36 c6bz37 c6bz38 c6bz39 c6bz40 c6bz41 c6bz42 c6bz43 c6bz44 c6bz45 c6bz46 c6bz47 c6bz48 c6bz49 c6bz50 c6bz51 c6bz52 c6bz53 c6bz54 c6bz55 c6bz56 c6bz57 c6bz58 c6bz59 c6bz60 c6bz61 c6bz62 c6bz63 c6bz64 c6bz65 c6bz66 c6bz67 c6bz68 c6bz69 c6bz70 c6bz71 c6bz72 c6bz73 c6bz74 c6bz75 c6bz76 c6bz77 c6bz78 c6bz79 c6bz80 c6bz81 c6bz82 c6bz83 c6bz84 c6bz85 c6bz86 c6bz87 c6bz88 c6bz89 c6bz90 c6bz91 c6bz92 c6bz93 c6bz94 c6bz95 c6bz96 c6bz97 c6bz98 c6bz99 c6bz100 c6bz101 c6bz102 c6bz103 c6bz104 c6bz105 c6bz106 c6bz107 c6bz108 c6bz109 c6bz110 c6bz111 c6bz112 c6bz113 c6bz114 c6bz115 c6bz116 c6bz117 c6bz118 c6bz119
    exact Mine.Box.out hG
  k_with_none
  refine' Mine.cut ?k6c ?g6c
  case k6c =>
    intro hG
    (set_option tactic.hygienic false in intros)
    refine Mine.Halt.mk ?_
    refine wpAny_execs_cons ?_
    k_steps
    rename_i c6cz1 c6cz2 c6cz3 c6cz4 c6cz5 c6cz6 c6cz7 c6cz8 c6cz9 c6cz10 c6cz11 c6cz12 c6cz13 c6cz14 c6cz15 c6cz16 c6cz17 c6cz18 c6cz19 c6cz20 c6cz21 c6cz22 c6cz23 c6cz24 c6cz25 c6cz26 c6cz27 c6cz28 c6cz29 c6cz30 c6cz31 c6cz32 c6cz33 c6cz34 c6cz35 c6cz36 c6cz37 c6cz38 c6cz39 c6cz40 c6cz41 c6cz42 c6cz43 c6cz44 c6cz45 c6cz46 c6cz47
    revert tk ys lifted c6bz119 c6bz118 c6bz117 c6bz116 c6bz115 c6bz114 c6bz113 c6bz112 c6bz111 c6bz110 c6bz109 c6bz108 c6bz107 c6bz106 c6bz105 c6bz104 c6bz103 c6bz102 c6bz101 c6bz100 c6bz99 c6bz98 c6bz97 c6bz96 c6bz95 c6bz94 c6bz93 c6bz92 c6bz91 c6bz90 c6bz89 c6bz88 c6bz87 c6bz86 c6bz85 c6bz84 c6bz83 c6bz82 c6bz81 c6bz80 c6bz79 c6bz78 c6bz77 c6bz76 c6bz75 c6bz74 c6bz73 c6bz72 c6bz71 ek qk c6bz70 c6bz69 c6bz68 c6bz67 c6bz66 c6bz65 c6bz64 c6bz63 c6bz62 c6bz61 c6bz60 c6bz59 c6bz58 c6bz57 c6bz56 c6bz55 c6bz54 c6bz53 c6bz52 c6bz51 c6bz50 c6bz49 c6bz48 c6bz47 c6bz46 c6bz45 c6bz44 c6bz43 c6bz42 c6bz41 c6bz40 c6bz39 c6bz38 c6bz37 c6bz36 c6bz35 c6bz34 c6bz33 c6bz32 c6bz31 c6bz30 c6bz29 c6bz28 c6bz27 c6bz26 c6bz25 c6bz24 c6bz23 c6bz22 c6bz21 c6bz20 c6bz19 c6bz18 c6bz17 c6bz16 c6bz15 c6bz14 c6bz13 c6bz12 c6bz11 c6bz10 c6bz9 c6bz8 c6bz7 c6bz6 c6bz5 c6az4 c6az3 c6az2 hlast c6az1 c5bz47 c5bz46 c5bz45 c5bz42 c5bz41 c5bz40 c5bz39 c5bz38 c5bz37 c5bz36 c5bz35 c6bz4 c5bz32 c5bz28 c6bz3 c5bz23 c5bz22 c5bz21 c5bz20 c5bz19 c5bz18 c5bz17 c5bz16 c5bz15 c5bz14 c5bz13 c5bz12 c5bz11 c5bz10 c5bz9 c5bz7 c5bz6 c5bz5 c5bz4 c5az18 c5az17 c5az16 kMark kNews kFr kFacts kTk kH kU c5az15 c5az14 c5az13 c5az10 c5az9 c5az8 c5az7 c5az6 c5bz3 c4dz43 c4dz42 c4dz41 c4dz40 c4dz39 c4dz38 c4dz37 c4dz36 c4dz35 c4dz34 c4dz33 c4dz32 c4dz31 hP c5bz2 c4dz28 c4dz26 c5bz1 c4dz21 c4dz20 c4dz19 c4dz18 c4dz17 c4dz16 c4dz15 c4dz14 c4dz13 c4dz12 c4dz11 c4dz10 c4dz9 c4dz8 c4dz7 c4dz6 c4dz5 c4dz4 c4dz3 c4cz42 c4cz41 c4cz40 c4cz37 c4cz36 c4cz35 c4cz34 c4cz33 c4cz32 c4cz31 c4cz30 c4dz2 c4cz27 c4cz26 c4dz1 c4cz21 c4cz20 c4cz19 c4cz18 c4cz17 c4cz16 c4cz15 c4cz14 c4cz13 c4cz12 c4cz11 c4cz10 c4cz9 c4cz7 c4cz6 c4cz5 c4cz4 c4cz3 c4bz78 c4bz77 c4bz76 c4bz75 c4bz74 c4bz73 c4bz72 c4bz71 c4bz70 c4bz69 c4bz68 c4bz67 c4bz66 c4bz65 c4bz64 c4bz63 c4bz62 c4bz61 c4bz60 c4bz59 c6bz2 c6bz1 c4cz2 c4bz58 c4bz57 c4bz56 c4bz55 c4bz54 c4bz53 c4bz52 c4bz51 c4bz50 c4bz49 c4bz48 c4bz47 c4bz46 c4bz45 c4bz44 c4bz43 c4bz42 c4bz41 c4bz40 c4bz39 c4bz38 c4bz37 c4bz36 c4bz35 c4bz34 c4bz33 c4bz32 c4bz31 c4bz30 c4bz29 c4bz28 c4bz27 c4bz26 c4bz25 c4bz24 c4bz23 c4bz22 c4bz21 c4bz20 c4bz19 c4bz18 c4bz17 c4bz16 c4bz15 c4bz14 c4bz13 c4bz12 c4bz11 c4bz10 c4bz9 c4bz8 c4bz7 c4bz6 c4bz5 c4bz4 c4az60 c4az59 c4az58 c4az57 c4az56 c4az55 c4az54 c4az53 c4az52 c4az51 c4az50 c4az49 c4az48 c4az47 c4az46 c4cz1 c4az43 c4az36 c4az35 c4az34 c4az33 c4az32 c4az31 c4az30 c4az29 c4az28 c4az27 c4az26 c4az25 c4az24 c4bz3 c4az23 c4az22 c4az21 c4az20 c4az19 c4az18 c4az17 c4az16 c4az15 c4az14 c4az13 c4az12 c4az11 c4az10 c4az9 c4az8 c4az7 c4az6 c4az5 c4az4 c4az3 c4az2 hvz hvy hvx hlz hly hlx c3z30 c3z29 c3z28 c3z27 c5az3 c5az2 c5az1 c3z26 c3z24 c3z23 c3z21 c3z20 c3z18 c3z17 c3z16 c3z15 c3z14 c3z13 c3z12 c3z11 c3z10 c3z7 c3z6 c3z5 c3z4 c3z3 c4az1 c2z42 c2z41 c2z40 c2z39 c2z38 c2z37 c2z36 c2z35 c2z34 c2z33 c2z32 c2z31 c2z30 c2z29 c2z28 c2z27 c2z26 c2z25 c4bz2 c4bz1 c2z24 c2z23 c2z22 c2z19 c2z18 c2z17 c2z16 c2z15 c2z14 c2z13 c2z12 c2z10 c2z9 c2z8 c2z7 c2z6 hv1 v ht1 hd1 d a2 start a0 c2z4 c1z72 c2z3 c2z2 c1z71 c1z70 c1z69 c1z68 c1z67 c1z66 c1z65 c1z64 c1z63 c1z62 c1z61 c1z60 c1z59 c1z58 c1z57 c1z56 c1z55 c1z54 c1z53 c1z52 c1z51 c1z50 c1z49 c1z48 c1z47 c1z46 c1z45 c1z44 c1z43 c1z42 c1z41 c1z40 c1z39 c1z38 c1z37 c1z36 c1z35 c1z34 c1z33 c1z32 c1z31 c1z30 c1z29 c1z28 c1z27 c1z26 c1z25 c1z24 c1z23 c1z22 c1z21 c1z20 c1z19 c1z18 c1z17 c1z16 c1z15 c1z14 c1z13 c1z12 c1z11 c1z10 c1z9 c1z8 c1z7 c1z6 c1z5 c1z4 c1z3 c1z2 c1z1 c6cz1 c6cz2 c6cz3 c6cz4 c6cz5 c6cz6 c6cz7 c6cz8 c6cz9 c6cz10 c6cz11 c6cz12 c6cz13 c6cz14 c6cz15 c6cz16 c6cz17 c6cz18 c6cz19 c6cz20 c6cz21 c6cz22 c6cz23 c6cz24 c6cz25 c6cz26 c6cz27 c6cz28 c6cz29 c6cz30 c6cz31 c6cz32 c6cz33 c6cz34 c6cz35 c6cz36 c6cz37 c6cz38 c6cz39 c6cz40 c6cz41 c6cz42 c6cz43 c6cz44 c6cz45 c6cz46 c6cz47
    exact Mine.Box.out hG
  k_with_none
  (set_option tactic.hygienic false in intros)
  refine Mine.Halt.mk ?_
  refine wpAny_execs_cons ?_
  k_steps

theorem PySem.Challenge.cw_yi0076_01_holds : PySem.Challenge.rw_yi0076_01.Holds := by
  exact Mine.main
