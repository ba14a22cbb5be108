import PyProof.Rows.All
import Wide.All
import OpenK.AllK
import Wide.FinOn
import Flt.RightMore
import Flt.Calls
import PyProof.CallType
import PyProof.Walk
import PyProof.WalkLemmas
import PySem.Builtin._datetime.Common
import Lean
import PySem.Challenge.RW_ad5033_01
open PySem PySem.W PySem.Calls PyProof.Rows
set_option Elab.async false
set_option maxRecDepth 100000
set_option maxHeartbeats 16000000
namespace Mine
-- HeadL
open_top hd for PySem.Challenge.rw_ad5033_01
variable {w : World} {p : Program} {loose : List Str} {mean : ExcName → Option Value} {mg mb : Str → Option Value}
-- FB
section
open PySem PySem.Float64
open PySem PySem.Float64

/-- the grid: 2 ^ -24, counted in units of 2 ^ -1074 -/
def Gn : Nat := 2 ^ 1050
def G : Int := (Gn : Int)
theorem Gn_pos : 0 < Gn := Nat.two_pow_pos _
theorem G_pos : 0 < G := Int.ofNat_lt.mpr Gn_pos

theorem rep {n : Nat} (h : n < 2 ^ 53) : ∃ t, V t = n * Gn := by
  by_cases h0 : n = 0
  · exact ⟨0, by subst h0; rw [V_zero, Nat.zero_mul]⟩
  · have h1 : n.log2 < 53 := (Nat.log2_lt h0).mpr h
    have h2 : 2 ^ n.log2 ≤ n := Nat.log2_self_le h0
    have h3 : n < 2 ^ (n.log2 + 1) := Nat.lt_log2_self
    have hp : ∀ j, j ≤ 52 → 2 ^ j * 2 ^ (52 - j) = 2 ^ 52 := fun j hj => by rw [← Nat.pow_add]; congr 1; omega
    have e52 := hp n.log2 (by omega)
    refine ⟨(1050 - (52 - n.log2)) * 2 ^ 52 + n * 2 ^ (52 - n.log2), ?_⟩
    rw [V_at]
    · rw [Nat.mul_assoc, ← Nat.pow_add]
      have e : 52 - n.log2 + (1050 - (52 - n.log2)) = 1050 := by omega
      rw [e]; rfl
    · have := Nat.mul_le_mul_right (2 ^ (52 - n.log2)) (Nat.le_of_lt h3)
      rw [Nat.pow_succ, Nat.mul_right_comm, e52] at this
      exact this
    · left
      have := Nat.mul_le_mul_right (2 ^ (52 - n.log2)) h2
      rw [e52] at this
      exact this

/-- x is finite, and its value lies between a and b of the grid -/
structure Bw (x : UInt64) (a b : Int) : Prop where
  fin : ∃ s m e, decode x = .fin s m e
  lo : a * G ≤ val x
  hi : val x ≤ b * G
  la : a.natAbs < 2 ^ 53
  hb : b.natAbs < 2 ^ 53

theorem Bw.le {x : UInt64} {a b : Int} (h : Bw x a b) : a ≤ b := by
  have := Int.le_trans h.lo h.hi
  exact Int.le_of_mul_le_mul_right this G_pos

theorem Bw.wide {x : UInt64} {a b a' b' : Int} (h : Bw x a b) (h1 : a' ≤ a) (h2 : b ≤ b') (h3 : a'.natAbs < 2 ^ 53) (h4 : b'.natAbs < 2 ^ 53) : Bw x a' b' :=
  ⟨h.fin, Int.le_trans (Int.mul_le_mul_of_nonneg_right h1 (Int.le_of_lt G_pos)) h.lo, Int.le_trans h.hi (Int.mul_le_mul_of_nonneg_right h2 (Int.le_of_lt G_pos)), h3, h4⟩

theorem dist_lo {W A v : Nat} (h : A ≤ W) (hv : v < A) : dist W A < dist W v := by unfold dist; omega
theorem dist_hi {W A v : Nat} (h : W ≤ A) (hv : A < v) : dist W A < dist W v := by unfold dist; omega

theorem near_lo {W D : Nat} (hD : 0 < D) {t : Nat} (hn : ∀ t', dist W (D * V t) ≤ dist W (D * V t')) {n : Nat} (hr : n < 2 ^ 53) (h : D * (n * Gn) ≤ W) : n * Gn ≤ V t := by
  obtain ⟨t', e⟩ := rep hr
  refine Nat.le_of_not_lt fun hlt => ?_
  have h1 := hn t'
  have h2 : D * V t < D * V t' := Nat.mul_lt_mul_of_pos_left (by rw [e]; exact hlt) hD
  have h3 := dist_lo (W := W) (A := D * V t') (v := D * V t) (by rw [e]; exact h) h2
  omega
theorem near_hi {W D : Nat} (hD : 0 < D) {t : Nat} (hn : ∀ t', dist W (D * V t) ≤ dist W (D * V t')) {n : Nat} (hr : n < 2 ^ 53) (h : W ≤ D * (n * Gn)) : V t ≤ n * Gn := by
  obtain ⟨t', e⟩ := rep hr
  refine Nat.le_of_not_lt fun hlt => ?_
  have h1 := hn t'
  have h2 : D * V t' < D * V t := Nat.mul_lt_mul_of_pos_left (by rw [e]; exact hlt) hD
  have h3 := dist_hi (W := W) (A := D * V t') (v := D * V t) (by rw [e]; exact h) h2
  omega

theorem over_no {W D N : Nat} (hD : 0 < D) (hN : N < 2 ^ 53) (h : W ≤ D * (N * Gn)) : ¬ D * ((2 ^ 54 - 1) * 2 ^ 2045) ≤ 2 * W := by
  intro h2
  have h3 : D * ((2 ^ 54 - 1) * 2 ^ 2045) ≤ D * (2 * (N * Gn)) := by
    refine Nat.le_trans h2 ?_
    rw [Nat.mul_left_comm]
    exact Nat.mul_le_mul_left 2 h
  have h4 : (2 ^ 54 - 1) * 2 ^ 2045 ≤ 2 * (N * Gn) := Nat.le_of_mul_le_mul_left h3 hD
  have h5 : 2 * (N * Gn) ≤ 2 * (2 ^ 53 * Gn) := Nat.mul_le_mul_left 2 (Nat.mul_le_mul_right _ (Nat.le_of_lt hN))
  have h6 : 2 * (2 ^ 53 * Gn) < (2 ^ 54 - 1) * 2 ^ 2045 := by unfold Gn; decide +kernel
  omega

theorem natAbs_cast {a : Int} (h : 0 ≤ a) : ((a.natAbs : Nat) : Int) = a := by omega

theorem bw_of_right {r : UInt64} {neg : Bool} {W D : Nat} (hR : Right r neg W D) (hD : 0 < D) {a b : Int} (ha : a.natAbs < 2 ^ 53) (hb : b.natAbs < 2 ^ 53)
    (h1 : a * G * (D : Int) ≤ sgn neg W) (h2 : sgn neg W ≤ b * G * (D : Int)) : Bw r a b := by
  obtain ⟨t, hr, ht, hinf, hn⟩ := hR
  have hG := G_pos
  have hDi : (0 : Int) < (D : Int) := Int.ofNat_lt.mpr hD
  have hGD : 0 < G * (D : Int) := Int.mul_pos hG hDi
  have cast : ∀ n : Nat, ((D * (n * Gn) : Nat) : Int) = (n : Int) * (G * (D : Int)) := fun n => by
    unfold G
    rw [Int.natCast_mul, Int.natCast_mul, Int.mul_comm (D : Int), Int.mul_assoc]
  have castV : ∀ n : Nat, ((n * Gn : Nat) : Int) = (n : Int) * G := fun n => by unfold G; rw [Int.natCast_mul]
  rw [Int.mul_assoc] at h1 h2
  cases neg with
  | false =>
    simp only [sgn, Bool.false_eq_true, if_false] at h1 h2
    have hb0 : 0 ≤ b := by
      refine Int.le_of_not_gt fun hlt => ?_
      have := Int.mul_neg_of_neg_of_pos hlt hGD
      omega
    have hWb : W ≤ D * (b.natAbs * Gn) := by
      refine Int.ofNat_le.mp ?_
      rw [cast, natAbs_cast hb0]; exact h2
    have hlt : t < infMag := by
      rcases Nat.lt_or_eq_of_le ht with h | h
      · exact h
      · exact absurd (hinf.mp h) (over_no hD hb hWb)
    have hn1 := fun t' => (hn hlt t').1
    obtain ⟨m, e, hd, _⟩ := decode_pack false hlt
    have hv := val_pack false hlt
    rw [← hr] at hd hv
    simp only [sgn, Bool.false_eq_true, if_false] at hv
    refine ⟨⟨_, _, _, hd⟩, ?_, ?_, ha, hb⟩
    · rw [hv]
      by_cases ha0 : 0 ≤ a
      · have h := near_lo hD hn1 ha (by refine Int.ofNat_le.mp ?_; rw [cast, natAbs_cast ha0]; exact h1)
        have h' := Int.ofNat_le.mpr h
        rw [castV, natAbs_cast ha0] at h'
        exact h'
      · have := Int.mul_neg_of_neg_of_pos (show a < 0 by omega) hG
        omega
    · rw [hv]
      have h := near_hi hD hn1 hb hWb
      have h' := Int.ofNat_le.mpr h
      rw [castV, natAbs_cast hb0] at h'
      exact h'
  | true =>
    simp only [sgn, if_true] at h1 h2
    have ha0 : a ≤ 0 := by
      refine Int.le_of_not_gt fun hlt => ?_
      have := Int.mul_pos hlt hGD
      omega
    have hna : ((a.natAbs : Nat) : Int) = -a := by omega
    have hWa : W ≤ D * (a.natAbs * Gn) := by
      refine Int.ofNat_le.mp ?_
      rw [cast, hna, Int.neg_mul]
      omega
    have hlt : t < infMag := by
      rcases Nat.lt_or_eq_of_le ht with h | h
      · exact h
      · exact absurd (hinf.mp h) (over_no hD ha hWa)
    have hn1 := fun t' => (hn hlt t').1
    obtain ⟨m, e, hd, _⟩ := decode_pack true hlt
    have hv := val_pack true hlt
    rw [← hr] at hd hv
    simp only [sgn, if_true] at hv
    refine ⟨⟨_, _, _, hd⟩, ?_, ?_, ha, hb⟩
    · rw [hv]
      have h := near_hi hD hn1 ha hWa
      have h' := Int.ofNat_le.mpr h
      rw [castV, hna, Int.neg_mul] at h'
      omega
    · rw [hv]
      by_cases hb0 : b ≤ 0
      · have hnb : ((b.natAbs : Nat) : Int) = -b := by omega
        have h := near_lo hD hn1 hb (by refine Int.ofNat_le.mp ?_; rw [cast, hnb, Int.neg_mul]; omega)
        have h' := Int.ofNat_le.mpr h
        rw [castV, hnb, Int.neg_mul] at h'
        omega
      · have := Int.mul_pos (show 0 < b by omega) hG
        omega

theorem sgn_natAbs' (i : Int) : sgn (decide (i < 0)) i.natAbs = i := by
  unfold sgn
  by_cases h : i < 0 <;> simp [h] <;> omega

theorem bw_zero (s : Bool) : Bw (zero s) 0 0 := by
  have hd : ∃ s' m e, decode (zero s) = .fin s' m e := by
    unfold Float64.decode
    cases s <;> exact ⟨_, _, _, rfl⟩
  have hv : val (zero s) = 0 := by cases s <;> decide +kernel
  exact ⟨hd, by rw [hv]; simp, by rw [hv]; simp, by decide, by decide⟩

theorem bw_add {x y : UInt64} {a b c d : Int} (hx : Bw x a b) (hy : Bw y c d) {p q : Int} (h1 : p ≤ a + c) (h2 : b + d ≤ q) (hp : p.natAbs < 2 ^ 53) (hq : q.natAbs < 2 ^ 53) : Bw (add x y) p q := by
  obtain ⟨sx, mx, ex, dx⟩ := hx.fin
  obtain ⟨sy, my, ey, dy⟩ := hy.fin
  have hR := add_right dx dy
  have lo : p * G ≤ val x + val y := by
    have := Int.mul_le_mul_of_nonneg_right h1 (Int.le_of_lt G_pos)
    rw [Int.add_mul] at this
    have := hx.lo; have := hy.lo
    omega
  have hi : val x + val y ≤ q * G := by
    have := Int.mul_le_mul_of_nonneg_right h2 (Int.le_of_lt G_pos)
    rw [Int.add_mul] at this
    have := hx.hi; have := hy.hi
    omega
  by_cases h0 : val x + val y = 0
  · rw [hR.1 h0]
    rw [h0] at lo hi
    refine (bw_zero _).wide ?_ ?_ hp hq
    · refine Int.le_of_not_gt fun h => ?_
      have := Int.mul_pos h G_pos
      omega
    · refine Int.le_of_not_gt fun h => ?_
      have := Int.mul_neg_of_neg_of_pos h G_pos
      omega
  · refine bw_of_right (hR.2 h0) (by decide) hp hq ?_ ?_
    · rw [sgn_natAbs']; simpa using lo
    · rw [sgn_natAbs']; simpa using hi

theorem bw_neg {y : UInt64} {c d : Int} (hy : Bw y c d) : Bw (neg y) (-d) (-c) := by
  obtain ⟨sy, my, ey, dy⟩ := hy.fin
  refine ⟨⟨_, _, _, neg_decode dy⟩, ?_, ?_, by rw [Int.natAbs_neg]; exact hy.hb, by rw [Int.natAbs_neg]; exact hy.la⟩
  · rw [neg_val dy, Int.neg_mul]; have := hy.hi; omega
  · rw [neg_val dy, Int.neg_mul]; have := hy.lo; omega

theorem bw_sub {x y : UInt64} {a b c d : Int} (hx : Bw x a b) (hy : Bw y c d) {p q : Int} (h1 : p ≤ a - d) (h2 : b - c ≤ q) (hp : p.natAbs < 2 ^ 53) (hq : q.natAbs < 2 ^ 53) : Bw (sub x y) p q := by
  unfold Float64.sub
  exact bw_add hx (bw_neg hy) (by omega) (by omega) hp hq

theorem two1074 : (2 ^ 1074 : Int) = G * 16777216 := by unfold G Gn; decide +kernel

theorem bw_ofInt {n : Int} {p q : Int} (h1 : p ≤ n * 16777216) (h2 : n * 16777216 ≤ q) (hp : p.natAbs < 2 ^ 53) (hq : q.natAbs < 2 ^ 53) : Bw (ofInt n) p q := by
  refine bw_of_right (ofInt_right n) (by decide) hp hq ?_ ?_
  · rw [sgn_mul, sgn_natAbs']
    have e : ((2 ^ 1074 : Nat) : Int) = G * 16777216 := by rw [← two1074]; simp
    rw [e]
    have := Int.mul_le_mul_of_nonneg_right h1 (Int.le_of_lt G_pos)
    have e2 : n * 16777216 * G = n * (G * 16777216) := by rw [Int.mul_assoc, Int.mul_comm 16777216 G]
    simp only [Int.natCast_one, Int.mul_one]
    omega
  · rw [sgn_mul, sgn_natAbs']
    have e : ((2 ^ 1074 : Nat) : Int) = G * 16777216 := by rw [← two1074]; simp
    rw [e]
    have := Int.mul_le_mul_of_nonneg_right h2 (Int.le_of_lt G_pos)
    have e2 : n * 16777216 * G = n * (G * 16777216) := by rw [Int.mul_assoc, Int.mul_comm 16777216 G]
    simp only [Int.natCast_one, Int.mul_one]
    omega
end
-- FB2
section
open PySem PySem.Float64
open PySem PySem.Float64

theorem r1 (p g k : Int) : p * g * (g * k) = p * k * (g * g) := by ac_rfl
theorem r2 (a c g : Int) : a * g * (c * g) = a * c * (g * g) := by ac_rfl
theorem r3 (p d g : Int) : p * (d * g) = p * d * g := by ac_rfl
theorem r4 (p g v : Int) : p * g * v = p * v * g := by ac_rfl
theorem r5 (a k g : Int) : a * k * g * g = a * g * (g * k) := by ac_rfl
theorem r6 (a g k : Int) : a * (g * k) = a * k * g := by ac_rfl
theorem mul_le_nonpos {p u v : Int} (h : u ≤ v) (hp : p ≤ 0) : p * v ≤ p * u := by
  have := Int.mul_le_mul_of_nonneg_left h (show 0 ≤ -p by omega)
  rw [Int.neg_mul, Int.neg_mul] at this
  omega

theorem bw_mul_r {x y : UInt64} {a b c d : Int} (hx : Bw x a b) (hy : Bw y c d) (hc : 0 ≤ c) {p q : Int} (h1 : p * 16777216 ≤ a * c) (h2 : p * 16777216 ≤ a * d) (h3 : b * c ≤ q * 16777216) (h4 : b * d ≤ q * 16777216)
    (hp : p.natAbs < 2 ^ 53) (hq : q.natAbs < 2 ^ 53) : Bw (mul x y) p q := by
  obtain ⟨sx, mx, ex, dx⟩ := hx.fin
  obtain ⟨sy, my, ey, dy⟩ := hy.fin
  have hG := G_pos
  have e1074 : ((2 ^ 1074 : Nat) : Int) = G * 16777216 := by rw [← two1074]; simp
  have hval : sgn (sx != sy) ((val x).natAbs * (val y).natAbs) = val x * val y := by
    rw [val_natAbs dx, val_natAbs dy, val_eq dx, val_eq dy]
    generalize mx * 2 ^ (ex + 1074).toNat = X
    generalize my * 2 ^ (ey + 1074).toNat = Y
    unfold sgn
    cases sx <;> cases sy <;> simp [Int.natCast_mul, Int.neg_mul, Int.mul_neg]
  have hv0 : 0 ≤ val y := Int.le_trans (Int.mul_nonneg hc (Int.le_of_lt hG)) hy.lo
  have key1 : p * G * (G * 16777216) ≤ val x * val y := by
    have s1 : a * G * val y ≤ val x * val y := Int.mul_le_mul_of_nonneg_right hx.lo hv0
    have s2 : p * 16777216 * (G * G) ≤ a * G * val y := by
      by_cases ha : 0 ≤ a
      · have t1 : a * G * (c * G) ≤ a * G * val y := Int.mul_le_mul_of_nonneg_left hy.lo (Int.mul_nonneg ha (Int.le_of_lt hG))
        have t2 : p * 16777216 * (G * G) ≤ a * c * (G * G) := Int.mul_le_mul_of_nonneg_right h1 (Int.mul_nonneg (Int.le_of_lt hG) (Int.le_of_lt hG))
        have t3 := r2 a c G
        omega
      · have t1 : a * G * (d * G) ≤ a * G * val y := by
          have := mul_le_nonpos hy.hi (show a * G ≤ 0 from Int.le_of_lt (Int.mul_neg_of_neg_of_pos (by omega) hG))
          exact this
        have t2 : p * 16777216 * (G * G) ≤ a * d * (G * G) := Int.mul_le_mul_of_nonneg_right h2 (Int.mul_nonneg (Int.le_of_lt hG) (Int.le_of_lt hG))
        have t3 := r2 a d G
        omega
    have e := r1 p G 16777216
    omega
  have key2 : val x * val y ≤ q * G * (G * 16777216) := by
    have s1 : val x * val y ≤ b * G * val y := Int.mul_le_mul_of_nonneg_right hx.hi hv0
    have s2 : b * G * val y ≤ q * 16777216 * (G * G) := by
      by_cases hb : 0 ≤ b
      · have t1 : b * G * val y ≤ b * G * (d * G) := Int.mul_le_mul_of_nonneg_left hy.hi (Int.mul_nonneg hb (Int.le_of_lt hG))
        have t2 : b * d * (G * G) ≤ q * 16777216 * (G * G) := Int.mul_le_mul_of_nonneg_right h4 (Int.mul_nonneg (Int.le_of_lt hG) (Int.le_of_lt hG))
        have t3 := r2 b d G
        omega
      · have t1 : b * G * val y ≤ b * G * (c * G) :=
          mul_le_nonpos hy.lo (show b * G ≤ 0 from Int.le_of_lt (Int.mul_neg_of_neg_of_pos (by omega) hG))
        have t2 : b * c * (G * G) ≤ q * 16777216 * (G * G) := Int.mul_le_mul_of_nonneg_right h3 (Int.mul_nonneg (Int.le_of_lt hG) (Int.le_of_lt hG))
        have t3 := r2 b c G
        omega
    have e := r1 q G 16777216
    omega
  refine bw_of_right (mul_right dx dy) (Nat.two_pow_pos _) hp hq ?_ ?_
  · rw [hval, e1074]; exact key1
  · rw [hval, e1074]; exact key2

theorem mul_comm' (x y : UInt64) {a b c d : Int} (hx : Bw x a b) (hy : Bw y c d) : mul x y = mul y x := by
  obtain ⟨sx, mx, ex, dx⟩ := hx.fin
  obtain ⟨sy, my, ey, dy⟩ := hy.fin
  unfold mul
  rw [dx, dy]
  simp only
  have e1 : (sx != sy) = (sy != sx) := by cases sx <;> cases sy <;> rfl
  rw [e1, Nat.mul_comm, Int.add_comm]

theorem bw_mul_l {x y : UInt64} {a b c d : Int} (hx : Bw x a b) (hy : Bw y c d) (ha : 0 ≤ a) {p q : Int} (h1 : p * 16777216 ≤ a * c) (h2 : p * 16777216 ≤ b * c) (h3 : a * d ≤ q * 16777216) (h4 : b * d ≤ q * 16777216)
    (hp : p.natAbs < 2 ^ 53) (hq : q.natAbs < 2 ^ 53) : Bw (mul x y) p q := by
  rw [mul_comm' x y hx hy]
  exact bw_mul_r hy hx ha (by rw [Int.mul_comm c a]; exact h1) (by rw [Int.mul_comm c b]; exact h2) (by rw [Int.mul_comm d a]; exact h3) (by rw [Int.mul_comm d b]; exact h4) hp hq

theorem sgn_false (n : Nat) : sgn false n = n := rfl

theorem bw_div {x y : UInt64} {a b c d : Int} (hx : Bw x a b) (hy : Bw y c d) (hc : 0 < c) {p q : Int} (h1 : p * c ≤ a * 16777216) (h2 : p * d ≤ a * 16777216) (h3 : b * 16777216 ≤ q * c) (h4 : b * 16777216 ≤ q * d)
    (hp : p.natAbs < 2 ^ 53) (hq : q.natAbs < 2 ^ 53) : Bw (div x y) p q := by
  obtain ⟨sx, mx, ex, dx⟩ := hx.fin
  obtain ⟨sy, my, ey, dy⟩ := hy.fin
  have hG := G_pos
  have hG0 := Int.le_of_lt hG
  have e1074 : ((2 ^ 1074 : Nat) : Int) = G * 16777216 := by rw [← two1074]; simp
  have hv0 : 0 < val y := Int.lt_of_lt_of_le (Int.mul_pos hc hG) hy.lo
  have hsy : sy = false := by
    cases sy with
    | false => rfl
    | true =>
      rw [val_eq dy] at hv0
      simp only [sgn, if_true] at hv0
      omega
  have hk : my ≠ 0 := by
    intro h
    rw [val_eq dy, h, Nat.zero_mul] at hv0
    simp only [sgn] at hv0
    split at hv0 <;> omega
  have hD : 0 < (val y).natAbs := by omega
  have hDc : (((val y).natAbs : Nat) : Int) = val y := by omega
  have hval : sgn (sx != sy) ((val x).natAbs * 2 ^ 1074) = val x * (G * 16777216) := by
    rw [hsy, sgn_mul, e1074]
    congr 1
    rw [val_natAbs dx, val_eq dx]
    cases sx <;> rfl
  refine bw_of_right (div_right dx dy hk) hD hp hq ?_ ?_
  · rw [hval, hDc]
    have s1 : p * val y ≤ a * 16777216 * G := by
      by_cases hp0 : 0 ≤ p
      · have t1 := Int.mul_le_mul_of_nonneg_left hy.hi hp0
        have t2 := Int.mul_le_mul_of_nonneg_right h2 hG0
        have t3 := r3 p d G
        omega
      · have t1 := mul_le_nonpos hy.lo (show p ≤ 0 by omega)
        have t2 := Int.mul_le_mul_of_nonneg_right h1 hG0
        have t3 := r3 p c G
        omega
    have s2 : p * val y * G ≤ a * 16777216 * G * G := Int.mul_le_mul_of_nonneg_right s1 hG0
    have s3 : a * G * (G * 16777216) ≤ val x * (G * 16777216) := Int.mul_le_mul_of_nonneg_right hx.lo (Int.mul_nonneg hG0 (by decide))
    have e1 := r4 p G (val y)
    have e2 := r5 a 16777216 G
    omega
  · rw [hval, hDc]
    have s1 : b * 16777216 * G ≤ q * val y := by
      by_cases hq0 : 0 ≤ q
      · have t1 := Int.mul_le_mul_of_nonneg_left hy.lo hq0
        have t2 := Int.mul_le_mul_of_nonneg_right h3 hG0
        have t3 := r3 q c G
        omega
      · have t1 := mul_le_nonpos hy.hi (show q ≤ 0 by omega)
        have t2 := Int.mul_le_mul_of_nonneg_right h4 hG0
        have t3 := r3 q d G
        omega
    have s2 : b * 16777216 * G * G ≤ q * val y * G := Int.mul_le_mul_of_nonneg_right s1 hG0
    have s3 : val x * (G * 16777216) ≤ b * G * (G * 16777216) := Int.mul_le_mul_of_nonneg_right hx.hi (Int.mul_nonneg hG0 (by decide))
    have e1 := r4 q G (val y)
    have e2 := r5 b 16777216 G
    omega

theorem bw_div_ii {a b : Int} (hb : 0 < b) {p q : Int} (h1 : p * b ≤ a * 16777216) (h2 : a * 16777216 ≤ q * b) (hp : p.natAbs < 2 ^ 53) (hq : q.natAbs < 2 ^ 53) :
    Bw (ofFrac (decide (a < 0) != decide (b < 0)) a.natAbs b.natAbs) p q := by
  have hG := G_pos
  have hG0 := Int.le_of_lt hG
  have e1074 : ((2 ^ 1074 : Nat) : Int) = G * 16777216 := by rw [← two1074]; simp
  have hbf : decide (b < 0) = false := by simp; omega
  have hD : 0 < b.natAbs := by omega
  have hDc : ((b.natAbs : Nat) : Int) = b := by omega
  have hR : Right (ofFrac (decide (a < 0) != decide (b < 0)) a.natAbs b.natAbs) (decide (a < 0)) (a.natAbs * 2 ^ 1074) b.natAbs := by
    rw [hbf]
    have : (decide (a < 0) != false) = decide (a < 0) := by cases decide (a < 0) <;> rfl
    rw [this]
    exact ofFrac_right hD rfl hD
  refine bw_of_right hR hD hp hq ?_ ?_
  · rw [sgn_mul, sgn_natAbs', e1074, hDc]
    have := Int.mul_le_mul_of_nonneg_right h1 hG0
    have e1 := r4 p G b
    have e2 := r6 a G 16777216
    omega
  · rw [sgn_mul, sgn_natAbs', e1074, hDc]
    have := Int.mul_le_mul_of_nonneg_right h2 hG0
    have e1 := r4 q G b
    have e2 := r6 a G 16777216
    omega

theorem Bw.val {x : UInt64} {a : Int} (h : Bw x a a) : Float64.val x = a * G := Int.le_antisymm h.hi h.lo

theorem compare_G (a b : Int) : compare (a * G) (b * G) = compare a b := by
  rcases Int.lt_trichotomy a b with h | h | h
  · rw [Int.compare_eq_lt.mpr h, Int.compare_eq_lt.mpr (Int.mul_lt_mul_of_pos_right h G_pos)]
  · subst h; simp
  · rw [Int.compare_eq_gt.mpr h, Int.compare_eq_gt.mpr (Int.mul_lt_mul_of_pos_right h G_pos)]

theorem bw_cmp {x y : UInt64} {a c : Int} (hx : Bw x a a) (hy : Bw y c c) : cmp x y = some (compare a c) := by
  obtain ⟨sx, mx, ex, dx⟩ := hx.fin
  obtain ⟨sy, my, ey, dy⟩ := hy.fin
  rw [cmp_right dx dy, hx.val, hy.val, compare_G]
theorem bw_cmpInt {x : UInt64} {a : Int} (hx : Bw x a a) (i : Int) : cmpInt x i = some (compare a (i * 16777216)) := by
  obtain ⟨sx, mx, ex, dx⟩ := hx.fin
  rw [cmpInt_right dx, hx.val, two1074]
  have e := r6 i G 16777216
  rw [e, compare_G]

theorem floorOf_val {x : UInt64} {s : Bool} {m : Nat} {e : Int} (hd : decode x = .fin s m e) : floorOf s m e = Float64.val x / 2 ^ 1074 := by
  have he := decode_ge hd
  rw [val_eq hd, sgn_mul]
  have hpow : ∀ n : Nat, ((2 ^ n : Nat) : Int) = (2 : Int) ^ n := fun n => by simp
  have hpos : ∀ n : Nat, (0 : Int) < (2 : Int) ^ n := fun n => by rw [← hpow]; exact Int.ofNat_lt.mpr (Nat.two_pow_pos _)
  rw [hpow]
  unfold floorOf
  split
  · rename_i h
    have e1 : (e + 1074).toNat = e.toNat + 1074 := by omega
    rw [e1, Int.pow_add, ← Int.mul_assoc, Int.mul_ediv_cancel _ (Int.ne_of_gt (hpos 1074))]
  · rename_i h
    have e1 : 1074 = (-e).toNat + (e + 1074).toNat := by omega
    rw [Int.fdiv_eq_ediv_of_nonneg _ (Int.le_of_lt (hpos _))]
    have e2 : (2 : Int) ^ 1074 = 2 ^ (-e).toNat * 2 ^ (e + 1074).toNat := by rw [← Int.pow_add, ← e1]
    rw [e2, Int.mul_ediv_mul_of_pos_left _ _ (hpos _)]

theorem floor_is {x : UInt64} {a b k : Int} (h : Bw x a b) (h1 : k * 16777216 ≤ a) (h2 : b < (k + 1) * 16777216) {s : Bool} {m : Nat} {e : Int} (hd : decode x = .fin s m e) : floorOf s m e = k := by
  rw [floorOf_val hd, two1074]
  have hG := G_pos
  have hG0 := Int.le_of_lt hG
  have p : 0 < G * 16777216 := Int.mul_pos hG (by decide)
  have s1 := Int.mul_le_mul_of_nonneg_right h1 hG0
  have s2 := Int.mul_lt_mul_of_pos_right h2 hG
  have := h.lo; have := h.hi
  have e1 := r6 k G 16777216
  have e2 := r6 (k + 1) G 16777216
  apply Int.le_antisymm
  · refine Int.le_of_lt_add_one ?_
    exact Int.ediv_lt_of_lt_mul p (by omega)
  · exact (Int.le_ediv_iff_mul_le p).mpr (by omega)

theorem trunc_is {x : UInt64} {a b k : Int} (h : Bw x a b) (h1 : k * 16777216 ≤ a) (h2 : b < (k + 1) * 16777216) (h3 : 0 ≤ k ∨ (a = k * 16777216 ∧ b = a)) {s : Bool} {m : Nat} {e : Int} (hd : decode x = .fin s m e) : truncOf s m e = k := by
  unfold truncOf
  cases s with
  | false => simp only [Bool.false_eq_true, if_false]; exact floor_is h h1 h2 hd
  | true =>
    simp only [if_true]
    unfold ceilOf
    have hn := bw_neg h
    have hdn : decode (neg x) = .fin (!true) m e := neg_decode hd
    have hv : Float64.val x ≤ 0 := by rw [val_eq hd]; simp only [sgn, if_true]; omega
    rcases h3 with h3 | ⟨h3, h4⟩
    · have hG := G_pos
      have ha : a * G ≤ 0 := Int.le_trans h.lo hv
      have ha0 : a ≤ 0 := by
        refine Int.le_of_not_gt fun hh => ?_
        have := Int.mul_pos hh hG
        omega
      have hk : k = 0 := by omega
      have hla : a = 0 := by omega
      have hval : Float64.val x = 0 := by
        have := h.lo; rw [hla] at this; simp at this; omega
      have hd2 := floorOf_val hdn
      rw [hd2, neg_val hd, hval, hk]; simp
    · have : floorOf (!true) m e = -k := floor_is hn (by omega) (by omega) hdn
      rw [this]; omega
end
-- FB3
section
open PySem PySem.Float64
open PySem PySem.Float64

theorem isZero_val {x : UInt64} {s : Bool} {m : Nat} {e : Int} (hd : decode x = .fin s m e) : isZero x = decide (Float64.val x = 0) := by
  unfold isZero
  rw [hd]
  by_cases hm : m = 0
  · subst hm
    have : Float64.val x = 0 := by rw [val_eq hd, Nat.zero_mul]; unfold sgn; cases s <;> simp
    simp [this]
  · have : Float64.val x ≠ 0 := by
      intro h0
      have := val_natAbs hd
      rw [h0] at this
      have h2 : 0 < m * 2 ^ (e + 1074).toNat := Nat.mul_pos (by omega) (Nat.two_pow_pos _)
      simp only [Int.natAbs_zero] at this
      omega
    have e1 : decide (Float64.val x = 0) = false := by simp [this]
    rw [e1]
    split
    · rename_i h; cases h; exact absurd rfl hm
    · rfl

theorem fmod_right {x y : UInt64} {a b : Bool} {m k : Nat} {e f : Int} (hx : decode x = .fin a m e) (hy : decode y = .fin b k f) (hk : k ≠ 0) :
    Right (fmod x y) a ((Float64.val x).natAbs % (Float64.val y).natAbs) 1 := by
  have he := decode_ge hx
  have hf := decode_ge hy
  rw [val_natAbs hx, val_natAbs hy]
  have e1 : (e + 1074).toNat = (e - min e f).toNat + (min e f + 1074).toNat := by omega
  have e2 : (f + 1074).toNat = (f - min e f).toNat + (min e f + 1074).toNat := by omega
  rw [e1, e2, Nat.pow_add, Nat.pow_add, ← Nat.mul_assoc, ← Nat.mul_assoc, Nat.mul_mod_mul_right]
  have hq : fmod x y = ofBin a ((m * 2 ^ (e - min e f).toNat) % (k * 2 ^ (f - min e f).toNat)) (min e f) := by
    unfold fmod
    rw [hx, hy]
    simp only
    rw [if_neg (by simpa using hk)]
    unfold align
    simp only [sgn, Bool.false_eq_true, if_false, Int.toNat_natCast]
  rw [hq]
  generalize (m * 2 ^ (e - min e f).toNat) % (k * 2 ^ (f - min e f).toNat) = M
  unfold ofBin
  refine ofFrac_right (shift_pos _ _ _ (by decide)) ?_ (by decide)
  have := shift_one M (min e f) 1074 (by omega)
  rw [Nat.mul_one]
  exact this

theorem bw_lt {x y : UInt64} {a c : Int} (hx : Bw x a a) (hy : Bw y c c) : lt x y = decide (a < c) := by
  unfold lt
  rw [bw_cmp hx hy]
  by_cases h : a < c
  · rw [Int.compare_eq_lt.mpr h]; simp [h]
  · have e : decide (a < c) = false := by simp [h]
    rw [e]
    rcases Int.lt_trichotomy a c with h2 | h2 | h2
    · exact absurd h2 h
    · subst h2; simp
    · rw [Int.compare_eq_gt.mpr h2]; rfl

theorem g_natAbs (k : Int) : (k * G).natAbs = k.natAbs * Gn := by
  unfold G; rw [Int.natAbs_mul]; rfl

/-- Python's float % int, both sides whole on the grid -/
theorem bw_mod {x y : UInt64} {k n : Int} (hx : Bw x k k) (hy : Bw y n n) (hn : 0 < n) {r : Int} (hr : r = k % n) : Bw (divmod x y).2 r r := by
  subst hr
  obtain ⟨sx, mx, ex, dx⟩ := hx.fin
  obtain ⟨sy, my, ey, dy⟩ := hy.fin
  have hG := G_pos
  have hnb : n.natAbs < 2 ^ 53 := hy.la
  have hm0 := Int.emod_nonneg k (Int.ne_of_gt hn)
  have hm1 := Int.emod_lt_of_pos k hn
  have hrb : (k % n).natAbs < 2 ^ 53 := by omega
  have hv0 : 0 < Float64.val y := by rw [hy.val]; exact Int.mul_pos hn hG
  have hk : my ≠ 0 := by
    intro h
    rw [val_eq dy, h, Nat.zero_mul] at hv0
    simp only [sgn] at hv0
    split at hv0 <;> omega
  have hR := fmod_right dx dy hk
  rw [hx.val, hy.val, g_natAbs, g_natAbs, Nat.mul_mod_mul_right] at hR
  have hmodn : k.natAbs % n.natAbs < n.natAbs := Nat.mod_lt _ (by omega)
  -- the C remainder
  have hF : Bw (fmod x y) (sgn sx (k.natAbs % n.natAbs)) (sgn sx (k.natAbs % n.natAbs)) := by
    have hb : (sgn sx (k.natAbs % n.natAbs)).natAbs < 2 ^ 53 := by rw [sgn_natAbs]; omega
    have e : sgn sx (k.natAbs % n.natAbs * Gn) = sgn sx (k.natAbs % n.natAbs) * G := by rw [sgn_mul]; rfl
    refine bw_of_right hR (by decide) hb hb ?_ ?_ <;> rw [e] <;> simp
  have hz0 : Bw (zero false) 0 0 := bw_zero false
  obtain ⟨sf, mf, ef, df⟩ := hF.fin
  have hsx : (sx = true → k ≤ 0) ∧ (sx = false → 0 ≤ k) := by
    have hv := hx.val
    rw [val_eq dx] at hv
    constructor
    · intro h
      subst h
      simp only [sgn, if_true] at hv
      refine Int.le_of_not_gt fun h2 => ?_
      have := Int.mul_pos h2 hG
      omega
    · intro h
      subst h
      simp only [sgn, Bool.false_eq_true, if_false] at hv
      refine Int.le_of_not_gt fun h2 => ?_
      have := Int.mul_neg_of_neg_of_pos h2 hG
      omega
  have hnn : ((n.natAbs : Nat) : Int) = n := by omega
  have hc : ((k.natAbs % n.natAbs : Nat) : Int) = ((k.natAbs : Nat) : Int) % n := by rw [Int.natCast_emod, hnn]
  have hval := hF.val
  have hmod : sgn sx (k.natAbs % n.natAbs) = 0 ∧ k % n = 0 ∨ 0 < sgn sx (k.natAbs % n.natAbs) ∧ k % n = sgn sx (k.natAbs % n.natAbs) ∨ sgn sx (k.natAbs % n.natAbs) < 0 ∧ k % n = sgn sx (k.natAbs % n.natAbs) + n := by
    cases sx with
    | false =>
      have h0 := hsx.2 rfl
      have e : ((k.natAbs : Nat) : Int) = k := by omega
      simp only [sgn, Bool.false_eq_true, if_false]
      rw [hc, e]
      omega
    | true =>
      have h0 := hsx.1 rfl
      have e : ((k.natAbs : Nat) : Int) = -k := by omega
      simp only [sgn, if_true]
      rw [hc, e]
      have a1 := Int.mul_ediv_add_emod (-k) n
      have a2 := Int.mul_ediv_add_emod k n
      have b0 := Int.emod_nonneg (-k) (Int.ne_of_gt hn)
      have b1 := Int.emod_lt_of_pos (-k) hn
      by_cases hz : (-k) % n = 0
      · left
        refine ⟨by omega, ?_⟩
        exact Int.emod_eq_zero_of_dvd (Int.dvd_neg.mp (Int.dvd_of_emod_eq_zero hz))
      · right; right
        refine ⟨by omega, ?_⟩
        have hk2 : k = (-((-k) % n) + n) + n * (-((-k) / n) - 1) := by
          have : n * (-((-k) / n) - 1) = -(n * ((-k) / n)) - n := by rw [Int.mul_sub, Int.mul_neg, Int.mul_one]
          omega
        have h3 : k % n = (-((-k) % n) + n) % n := by
          conv => lhs; rw [hk2]
          rw [Int.add_mul_emod_self_left]
        rw [h3]
        exact Int.emod_eq_of_lt (by omega) (by omega)
  have hsecond : (divmod x y).2 = if isZero (fmod x y) then copysign (zero false) y else if lt y (zero false) != lt (fmod x y) (zero false) then add (fmod x y) y else fmod x y := by
    unfold divmod
    simp only
    split
    · rfl
    · split <;> rfl
  rw [hsecond, isZero_val df, hval, bw_lt hy hz0, bw_lt hF hz0]
  generalize sgn sx (k.natAbs % n.natAbs) = R at *
  have hn0 : decide (n < 0) = false := by simp; omega
  rw [hn0]
  rcases hmod with ⟨h1, h2⟩ | ⟨h1, h2⟩ | ⟨h1, h2⟩
  · subst h1
    rw [if_pos (by simp), h2]
    have hcs : copysign (zero false) y = zero false := by
      unfold copysign
      have hsy : sy = false := by
        cases sy with
        | false => rfl
        | true => rw [val_eq dy] at hv0; simp only [sgn, if_true] at hv0; omega
      have hsb : signBit y = false := by
        have hd := dy
        rw [hsy] at hd
        unfold decode at hd
        simp only at hd
        unfold signBit
        split at hd
        · split at hd <;> cases hd
        · split at hd
          · injection hd
          · injection hd
      rw [hsb]
      decide +kernel
    rw [hcs]
    exact bw_zero false
  · have e0 : ¬ (decide (R * G = 0) = true) := by
      have := Int.mul_pos h1 hG
      simp; omega
    rw [if_neg e0]
    have e1 : decide (R < 0) = false := by simp; omega
    rw [e1, if_neg (by simp), h2]
    exact hF
  · have e0 : ¬ (decide (R * G = 0) = true) := by
      have := Int.mul_neg_of_neg_of_pos h1 hG
      simp; omega
    rw [if_neg e0]
    have e1 : decide (R < 0) = true := by simp; omega
    rw [e1, if_pos (by simp), h2]
    exact bw_add hF hy (by omega) (by omega) (by omega) (by omega)
end
-- CtBase
section
/-- what a def of the text does: called with vs, it comes back with some v, having made nw, with P v nw. d: the frames it needs. -/
def Ct (w : World) (p : Program) (loose : List Str) (mean : ExcName → Option Value) (mg mb : Str → Option Value) (f : Addr) (d : Nat) (vs : List Value) (news : List (Addr × Obj)) (P : Value → List (Addr × Obj) → Prop) : Prop :=
  ∀ (dp un : Nat) (gd : Option (List Code)) (cn : Str) (cs : Scope) (a : Addr) (ccd : Value) (cl : List (Str × Addr)) (outer : List Env) (A₀ : Around) (base h₀ : Heap) (L : Addr) (m : Str → Option Value) (s : Shared) (Q E : Value → Shared → Prop),
    Below A₀ base outer h₀ → Fr h₀ L s.heap m → (hd.heap_39 w.params).In h₀ → News h₀ L s.heap news → Top p loose mean mg mb h₀ → cs.kind = .function →
    dp + d < recursionLimit → un + (64 + 8 * d) < cLine →
    (∀ v nw h' tk', P v nw → Fr h₀ L h' m → News h₀ L h' (nw ++ news) → Q v { s with heap := h', toks := tk' }) →
    wpAny (model PySem.Challenge.rw_ad5033_01.row.prog w) (ktrTop dp un gd cn cs L a ccd cl outer) (call (.ref f) vs) Q E s
end
-- W0
section
section
variable {prog : Program} {w : World} {A : Around} {E : Value → Shared → Prop} {s : Shared} {Q : Value → Shared → Prop} {t u : Tok} {h₀ : Heap} {L : Addr} {m : Str → Option Value} {news : List (Addr × Obj)}

/-- a quotient, rounded: x is the float next to a / c of the grid -/
def FD (x : UInt64) (a c : Int) : Prop := Bw x (a / c) (-((-a) / c))

theorem over_small {n : Int} (h : n.natAbs < 9007199254740992) : ¬ 2 ^ 1024 - 2 ^ 970 ≤ n.natAbs := by
  have : (9007199254740992 : Nat) ≤ 2 ^ 1024 - 2 ^ 970 := by decide +kernel
  omega
theorem Over_small {n : Int} (h : n.natAbs < 9007199254740992) : ¬ Flt.Over n := over_small h

theorem nb {a : Int} (h : -9007199254740992 < a ∧ a < 9007199254740992) : a.natAbs < 2 ^ 53 := by omega
theorem ex_int {n : Int} (h : -536870912 < n ∧ n < 536870912) : Bw (Float64.ofInt n) (n * 16777216) (n * 16777216) := bw_ofInt (Int.le_refl _) (Int.le_refl _) (by omega) (by omega)

-- floats with floats
theorem w_add_ff {x y : UInt64} {a b c d : Int} (hx : Bw x a b) (hy : Bw y c d) (hp : -9007199254740992 < a + c ∧ a + c < 9007199254740992) (hq : -9007199254740992 < b + d ∧ b + d < 9007199254740992)
    (h : ∀ z tk, Bw z (a + c) (b + d) → Q (.float z s.toks) { s with toks := tk }) : wpAny (model prog w) A (binaryOp .Add (.float x t) (.float y u)) Q E s :=
  add_float (h _ _ (bw_add hx hy (Int.le_refl _) (Int.le_refl _) (nb hp) (nb hq)))
theorem w_iadd_ff {x y : UInt64} {a b c d : Int} (hx : Bw x a b) (hy : Bw y c d) (hp : -9007199254740992 < a + c ∧ a + c < 9007199254740992) (hq : -9007199254740992 < b + d ∧ b + d < 9007199254740992)
    (h : ∀ z tk, Bw z (a + c) (b + d) → Q (.float z s.toks) { s with toks := tk }) : wpAny (model prog w) A (inplaceOp .Add (.float x t) (.float y u)) Q E s :=
  iadd_float (h _ _ (bw_add hx hy (Int.le_refl _) (Int.le_refl _) (nb hp) (nb hq)))
theorem w_sub_ff {x y : UInt64} {a b c d : Int} (hx : Bw x a b) (hy : Bw y c d) (hp : -9007199254740992 < a - d ∧ a - d < 9007199254740992) (hq : -9007199254740992 < b - c ∧ b - c < 9007199254740992)
    (h : ∀ z tk, Bw z (a - d) (b - c) → Q (.float z s.toks) { s with toks := tk }) : wpAny (model prog w) A (binaryOp .Sub (.float x t) (.float y u)) Q E s :=
  sub_float (h _ _ (bw_sub hx hy (Int.le_refl _) (Int.le_refl _) (nb hp) (nb hq)))

-- a float and an int
theorem w_add_fi {x : UInt64} {a b n : Int} (hA : A.handled = none) (hx : Bw x a b) (hn : -536870912 < n ∧ n < 536870912) (hp : -9007199254740992 < a + n * 16777216 ∧ a + n * 16777216 < 9007199254740992) (hq : -9007199254740992 < b + n * 16777216 ∧ b + n * 16777216 < 9007199254740992)
    (h : ∀ z tk, Bw z (a + n * 16777216) (b + n * 16777216) → Q (.float z s.toks) { s with toks := tk }) : wpAny (model prog w) A (binaryOp .Add (.float x t) (.int n u)) Q E s :=
  add_fi_sharp hA (fun hb => absurd hb (over_small (by omega))) fun _ => h _ _ (bw_add hx (ex_int hn) (Int.le_refl _) (Int.le_refl _) (nb hp) (nb hq))
theorem w_add_if {x : UInt64} {a b n : Int} (hA : A.handled = none) (hx : Bw x a b) (hn : -536870912 < n ∧ n < 536870912) (hp : -9007199254740992 < a + n * 16777216 ∧ a + n * 16777216 < 9007199254740992) (hq : -9007199254740992 < b + n * 16777216 ∧ b + n * 16777216 < 9007199254740992)
    (h : ∀ z tk, Bw z (a + n * 16777216) (b + n * 16777216) → Q (.float z s.toks) { s with toks := tk }) : wpAny (model prog w) A (binaryOp .Add (.int n u) (.float x t)) Q E s :=
  add_if_sharp hA (fun hb => absurd hb (over_small (by omega))) fun _ => h _ _ (bw_add (ex_int hn) hx (by omega) (by omega) (nb hp) (nb hq))
theorem w_iadd_if {x : UInt64} {a b n : Int} (hA : A.handled = none) (hx : Bw x a b) (hn : -536870912 < n ∧ n < 536870912) (hp : -9007199254740992 < a + n * 16777216 ∧ a + n * 16777216 < 9007199254740992) (hq : -9007199254740992 < b + n * 16777216 ∧ b + n * 16777216 < 9007199254740992)
    (h : ∀ z tk, Bw z (a + n * 16777216) (b + n * 16777216) → Q (.float z s.toks) { s with toks := tk }) : wpAny (model prog w) A (inplaceOp .Add (.int n u) (.float x t)) Q E s :=
  Flt.iadd_if hA (fun ho => absurd ho (Over_small (by omega))) fun _ => h _ _ (bw_add (ex_int hn) hx (by omega) (by omega) (nb hp) (nb hq))
theorem w_sub_fi {x : UInt64} {a b n : Int} (hA : A.handled = none) (hx : Bw x a b) (hn : -536870912 < n ∧ n < 536870912) (hp : -9007199254740992 < a - n * 16777216 ∧ a - n * 16777216 < 9007199254740992) (hq : -9007199254740992 < b - n * 16777216 ∧ b - n * 16777216 < 9007199254740992)
    (h : ∀ z tk, Bw z (a - n * 16777216) (b - n * 16777216) → Q (.float z s.toks) { s with toks := tk }) : wpAny (model prog w) A (binaryOp .Sub (.float x t) (.int n u)) Q E s :=
  sub_fi_sharp hA (fun hb => absurd hb (over_small (by omega))) fun _ => h _ _ (bw_sub hx (ex_int hn) (Int.le_refl _) (Int.le_refl _) (nb hp) (nb hq))
theorem w_sub_if {x : UInt64} {a b n : Int} (hA : A.handled = none) (hx : Bw x a b) (hn : -536870912 < n ∧ n < 536870912) (hp : -9007199254740992 < n * 16777216 - b ∧ n * 16777216 - b < 9007199254740992) (hq : -9007199254740992 < n * 16777216 - a ∧ n * 16777216 - a < 9007199254740992)
    (h : ∀ z tk, Bw z (n * 16777216 - b) (n * 16777216 - a) → Q (.float z s.toks) { s with toks := tk }) : wpAny (model prog w) A (binaryOp .Sub (.int n u) (.float x t)) Q E s :=
  sub_if_sharp hA (fun hb => absurd hb (over_small (by omega))) fun _ => h _ _ (bw_sub (ex_int hn) hx (Int.le_refl _) (Int.le_refl _) (nb hp) (nb hq))

theorem mul_up {a n : Int} : a * (n * 16777216) = a * n * 16777216 := by rw [Int.mul_assoc]
/-- a whole float times a written int -/
theorem w_mul_fi {x : UInt64} {a b n : Int} (hA : A.handled = none) (hx : Bw x a b) (hn : 0 ≤ n) (hn2 : -536870912 < n ∧ n < 536870912) (hp : -9007199254740992 < a * n ∧ a * n < 9007199254740992) (hq : -9007199254740992 < b * n ∧ b * n < 9007199254740992)
    (h : ∀ z tk, Bw z (a * n) (b * n) → Q (.float z s.toks) { s with toks := tk }) : wpAny (model prog w) A (binaryOp .Mult (.float x t) (.int n u)) Q E s :=
  mul_fi_sharp hA (fun hb => absurd hb (over_small (by omega))) fun _ => h _ _ (bw_mul_r hx (ex_int hn2) (by omega) (by rw [mul_up]; exact Int.le_refl _) (by rw [mul_up]; exact Int.le_refl _) (by rw [mul_up]; exact Int.le_refl _) (by rw [mul_up]; exact Int.le_refl _) (nb hp) (nb hq))
/-- a written float (nought or more) times an int: the ends are the caller's word -/
theorem w_mul_fi_l {x : UInt64} {a b n p q : Int} (hA : A.handled = none) (hx : Bw x a b) (ha : 0 ≤ a) (hn2 : -536870912 < n ∧ n < 536870912) (h1 : p ≤ a * n) (h2 : p ≤ b * n) (h3 : a * n ≤ q) (h4 : b * n ≤ q) (hp : -9007199254740992 < p ∧ p < 9007199254740992) (hq : -9007199254740992 < q ∧ q < 9007199254740992)
    (h : ∀ z tk, Bw z p q → Q (.float z s.toks) { s with toks := tk }) : wpAny (model prog w) A (binaryOp .Mult (.float x t) (.int n u)) Q E s :=
  mul_fi_sharp hA (fun hb => absurd hb (over_small (by omega))) fun _ => h _ _ (bw_mul_l hx (ex_int hn2) ha
    (by rw [mul_up]; omega) (by rw [mul_up]; omega) (by rw [mul_up]; omega) (by rw [mul_up]; omega) (nb hp) (nb hq))

-- the same upon one end
theorem w_add_ff_x {x y : UInt64} {a c : Int} (hx : Bw x a a) (hy : Bw y c c) (hp : -9007199254740992 < a + c ∧ a + c < 9007199254740992)
    (h : ∀ z tk, Bw z (a + c) (a + c) → Q (.float z s.toks) { s with toks := tk }) : wpAny (model prog w) A (binaryOp .Add (.float x t) (.float y u)) Q E s := w_add_ff hx hy hp hp h
theorem w_iadd_ff_x {x y : UInt64} {a c : Int} (hx : Bw x a a) (hy : Bw y c c) (hp : -9007199254740992 < a + c ∧ a + c < 9007199254740992)
    (h : ∀ z tk, Bw z (a + c) (a + c) → Q (.float z s.toks) { s with toks := tk }) : wpAny (model prog w) A (inplaceOp .Add (.float x t) (.float y u)) Q E s := w_iadd_ff hx hy hp hp h
theorem w_sub_ff_x {x y : UInt64} {a c : Int} (hx : Bw x a a) (hy : Bw y c c) (hp : -9007199254740992 < a - c ∧ a - c < 9007199254740992)
    (h : ∀ z tk, Bw z (a - c) (a - c) → Q (.float z s.toks) { s with toks := tk }) : wpAny (model prog w) A (binaryOp .Sub (.float x t) (.float y u)) Q E s := w_sub_ff hx hy hp hp h
theorem w_add_fi_x {x : UInt64} {a n : Int} (hA : A.handled = none) (hx : Bw x a a) (hn : -536870912 < n ∧ n < 536870912 ∧ -9007199254740992 < a + n * 16777216 ∧ a + n * 16777216 < 9007199254740992)
    (h : ∀ z tk, Bw z (a + n * 16777216) (a + n * 16777216) → Q (.float z s.toks) { s with toks := tk }) : wpAny (model prog w) A (binaryOp .Add (.float x t) (.int n u)) Q E s := w_add_fi hA hx ⟨hn.1, hn.2.1⟩ hn.2.2 hn.2.2 h
theorem w_add_if_x {x : UInt64} {a n : Int} (hA : A.handled = none) (hx : Bw x a a) (hn : -536870912 < n ∧ n < 536870912 ∧ -9007199254740992 < a + n * 16777216 ∧ a + n * 16777216 < 9007199254740992)
    (h : ∀ z tk, Bw z (a + n * 16777216) (a + n * 16777216) → Q (.float z s.toks) { s with toks := tk }) : wpAny (model prog w) A (binaryOp .Add (.int n u) (.float x t)) Q E s := w_add_if hA hx ⟨hn.1, hn.2.1⟩ hn.2.2 hn.2.2 h
theorem w_iadd_if_x {x : UInt64} {a n : Int} (hA : A.handled = none) (hx : Bw x a a) (hn : -536870912 < n ∧ n < 536870912 ∧ -9007199254740992 < a + n * 16777216 ∧ a + n * 16777216 < 9007199254740992)
    (h : ∀ z tk, Bw z (a + n * 16777216) (a + n * 16777216) → Q (.float z s.toks) { s with toks := tk }) : wpAny (model prog w) A (inplaceOp .Add (.int n u) (.float x t)) Q E s := w_iadd_if hA hx ⟨hn.1, hn.2.1⟩ hn.2.2 hn.2.2 h
theorem w_sub_fi_x {x : UInt64} {a n : Int} (hA : A.handled = none) (hx : Bw x a a) (hn : -536870912 < n ∧ n < 536870912 ∧ -9007199254740992 < a - n * 16777216 ∧ a - n * 16777216 < 9007199254740992)
    (h : ∀ z tk, Bw z (a - n * 16777216) (a - n * 16777216) → Q (.float z s.toks) { s with toks := tk }) : wpAny (model prog w) A (binaryOp .Sub (.float x t) (.int n u)) Q E s := w_sub_fi hA hx ⟨hn.1, hn.2.1⟩ hn.2.2 hn.2.2 h
theorem w_sub_if_x {x : UInt64} {a n : Int} (hA : A.handled = none) (hx : Bw x a a) (hn : -536870912 < n ∧ n < 536870912 ∧ -9007199254740992 < n * 16777216 - a ∧ n * 16777216 - a < 9007199254740992)
    (h : ∀ z tk, Bw z (n * 16777216 - a) (n * 16777216 - a) → Q (.float z s.toks) { s with toks := tk }) : wpAny (model prog w) A (binaryOp .Sub (.int n u) (.float x t)) Q E s := w_sub_if hA hx ⟨hn.1, hn.2.1⟩ hn.2.2 hn.2.2 h
theorem w_mul_fi_x {x : UInt64} {a n : Int} (hA : A.handled = none) (hx : Bw x a a) (hn : 0 ≤ n) (hn2 : -536870912 < n ∧ n < 536870912) (hp : -9007199254740992 < a * n ∧ a * n < 9007199254740992)
    (h : ∀ z tk, Bw z (a * n) (a * n) → Q (.float z s.toks) { s with toks := tk }) : wpAny (model prog w) A (binaryOp .Mult (.float x t) (.int n u)) Q E s := w_mul_fi hA hx hn hn2 hp hp h
/-- 365.25 times an int -/
theorem w_mul_365 {x : UInt64} {a n : Int} (hA : A.handled = none) (hx : Bw x a a) (ha : 0 ≤ a) (hn2 : -536870912 < n ∧ n < 536870912 ∧ -9007199254740992 < a * n ∧ a * n < 9007199254740992)
    (h : ∀ z tk, Bw z (a * n) (a * n) → Q (.float z s.toks) { s with toks := tk }) : wpAny (model prog w) A (binaryOp .Mult (.float x t) (.int n u)) Q E s :=
  w_mul_fi_l hA hx ha ⟨hn2.1, hn2.2.1⟩ (Int.le_refl _) (Int.le_refl _) (Int.le_refl _) (Int.le_refl _) hn2.2.2 hn2.2.2 h
/-- an inexact written float times an int above nought -/
theorem w_mul_pos {x : UInt64} {a b n : Int} (hA : A.handled = none) (hx : Bw x a b) (ha : 0 ≤ a) (hn2 : 0 ≤ n ∧ n < 536870912 ∧ -9007199254740992 < a * n ∧ b * n < 9007199254740992)
    (h : ∀ z tk, Bw z (a * n) (b * n) → Q (.float z s.toks) { s with toks := tk }) : wpAny (model prog w) A (binaryOp .Mult (.float x t) (.int n u)) Q E s := by
  have l := Int.mul_le_mul_of_nonneg_right hx.le hn2.1
  exact w_mul_fi_l hA hx ha ⟨by omega, hn2.2.1⟩ (Int.le_refl _) l l (Int.le_refl _) (by omega) (by omega) h

-- quotients
theorem fd_lo {a c : Int} (hc : 0 < c) : a / c * c ≤ a := by
  have := Int.mul_ediv_add_emod a c
  have := Int.emod_nonneg a (Int.ne_of_gt hc)
  rw [Int.mul_comm c (a / c)] at *
  omega
theorem fd_hi {a c : Int} (hc : 0 < c) : a ≤ -((-a) / c) * c := by
  have h := fd_lo (a := -a) hc
  rw [Int.neg_mul]
  omega
theorem fd_lo_abs {a c : Int} (hc : 0 < c) (h : a.natAbs < 9007199254740992) : (a / c).natAbs < 9007199254740992 := by
  have h1 : a / c ≤ if 0 ≤ a then a else 0 := by
    split
    · exact Int.ediv_le_self _ ‹_›
    · exact Int.le_of_lt (Int.ediv_neg_of_neg_of_pos (by omega) hc)
  have h2 : (if 0 ≤ a then 0 else a) ≤ a / c := by
    split
    · exact Int.ediv_nonneg ‹_› (Int.le_of_lt hc)
    · exact (Int.le_ediv_iff_mul_le hc).mpr (by
        have := Int.mul_le_mul_of_nonneg_left (show (1 : Int) ≤ c by omega) (show 0 ≤ -a by omega)
        rw [Int.neg_mul, Int.neg_mul] at this
        omega)
  split at h1 <;> split at h2 <;> omega
theorem w_div_fi {x : UInt64} {a n : Int} (hA : A.handled = none) (hx : Bw x a a) (hn : 0 < n) (hn2 : -536870912 < n ∧ n < 536870912) (hp : -9007199254740992 < a ∧ a < 9007199254740992)
    (h : ∀ z tk, FD z a n → Q (.float z s.toks) { s with toks := tk }) : wpAny (model prog w) A (binaryOp .Div (.float x t) (.int n u)) Q E s :=
  Flt.truediv_fi hA (fun ho => absurd ho (Over_small (by omega))) (fun h0 => absurd h0 (by omega)) fun _ _ => h _ _ (by
    have l := fd_lo (a := a) hn
    have r := fd_hi (a := a) hn
    have e : ∀ k : Int, k * (n * 16777216) = k * n * 16777216 := fun k => by rw [Int.mul_assoc]
    refine bw_div hx (ex_int hn2) (by omega) ?_ ?_ ?_ ?_ (fd_lo_abs hn (nb hp)) ?_
    · rw [e]; omega
    · rw [e]; omega
    · rw [e]; omega
    · rw [e]; omega
    · rw [Int.natAbs_neg]; exact fd_lo_abs hn (by rw [Int.natAbs_neg]; exact nb hp))
theorem w_div_ii' {a n : Int} (hA : A.handled = none) (hn : 0 < n) (hp : (a * 16777216 / n).natAbs < 9007199254740992) (hq : ((-(a * 16777216)) / n).natAbs < 9007199254740992) (hf : a.natAbs < 9007199254740992)
    (h : ∀ z tk, FD z (a * 16777216) n → Q (.float z s.toks) { s with toks := tk }) : wpAny (model prog w) A (binaryOp .Div (.int a t) (.int n u)) Q E s := by
  have hfit : a.natAbs < 2 ^ 1023 := Nat.lt_of_lt_of_le hf (by decide +kernel)
  refine Flt.div_ii_fits hA hfit (fun h0 => absurd h0 (by omega)) fun _ _ => h _ _ ?_
  exact bw_div_ii hn (fd_lo hn) (fd_hi hn) hp (by rw [Int.natAbs_neg]; exact hq)
theorem w_div_ii {a n : Int} (hA : A.handled = none) (hn : 0 < n) (hp : -536870912 < a ∧ a < 536870912)
    (h : ∀ z tk, FD z (a * 16777216) n → Q (.float z s.toks) { s with toks := tk }) : wpAny (model prog w) A (binaryOp .Div (.int a t) (.int n u)) Q E s :=
  w_div_ii' hA hn (fd_lo_abs hn (by omega)) (fd_lo_abs hn (by omega)) (by omega) h
/-- a quotient by eight comes out even -/
theorem w_div8 {a : Int} (hA : A.handled = none) (hp : -4294967296 < a ∧ a < 4294967296)
    (h : ∀ z tk, Bw z (a * 2097152) (a * 2097152) → Q (.float z s.toks) { s with toks := tk }) : wpAny (model prog w) A (binaryOp .Div (.int a t) (.int 8 u)) Q E s :=
  w_div_ii' hA (by decide) (by omega) (by omega) (by omega) fun z tk hz => h z tk (by
    have e1 : a * 16777216 / 8 = a * 2097152 := by omega
    have e2 : -((-(a * 16777216)) / 8) = a * 2097152 := by omega
    have := hz
    unfold FD at this
    rw [e1, e2] at this
    exact this)
theorem w_div2 {a : Int} (hA : A.handled = none) (hp : -268435456 < a ∧ a < 268435456)
    (h : ∀ z tk, Bw z (a * 8388608) (a * 8388608) → Q (.float z s.toks) { s with toks := tk }) : wpAny (model prog w) A (binaryOp .Div (.int a t) (.int 2 u)) Q E s :=
  w_div_ii' hA (by decide) (by omega) (by omega) (by omega) fun z tk hz => h z tk (by
    have e1 : a * 16777216 / 2 = a * 8388608 := by omega
    have e2 : -((-(a * 16777216)) / 2) = a * 8388608 := by omega
    have := hz
    unfold FD at this
    rw [e1, e2] at this
    exact this)
theorem FD.bw {x : UInt64} {a c : Int} (h : FD x a c) : Bw x (a / c) (-((-a) / c)) := h
/-- a quotient that comes out even on the grid -/
theorem FD.exact {x : UInt64} {a c k : Int} (h : FD x a c) (hc : 0 < c) (e : a = k * c) : Bw x k k := by
  have e1 : a / c = k := by rw [e]; exact Int.mul_ediv_cancel _ (Int.ne_of_gt hc)
  have e2 : -((-a) / c) = k := by rw [e, ← Int.neg_mul, Int.mul_ediv_cancel _ (Int.ne_of_gt hc), Int.neg_neg]
  have := h.bw
  rw [e1, e2] at this
  exact this
theorem w_mod_fi {x : UInt64} {a n : Int} (hA : A.handled = none) (hx : Bw x a a) (hn : 0 < n) (hn2 : -536870912 < n ∧ n < 536870912)
    (h : ∀ z tk, Bw z (a % (n * 16777216)) (a % (n * 16777216)) → Q (.float z s.toks) { s with toks := tk }) : wpAny (model prog w) A (binaryOp .Mod (.float x t) (.int n u)) Q E s :=
  Flt.mod_fi hA (fun ho => absurd ho (Over_small (by omega))) (fun h0 => absurd h0 (by omega)) fun _ _ => h _ _ (bw_mod hx (ex_int hn2) (by omega) rfl)

-- whole parts
theorem w_floor {x : UInt64} {a b : Int} (hA : A.handled = none) (hx : Bw x a b) (hk : b < (a / 16777216 + 1) * 16777216)
    (h : ∀ k tk, k * 16777216 ≤ a → b < (k + 1) * 16777216 → Q (.int k s.toks) { s with toks := tk }) : wpAny (model prog w) A (call (.builtin "math.floor") [.float x t]) Q E s := by
  obtain ⟨sg, m, e, hd⟩ := hx.fin
  have hk1 : a / 16777216 * 16777216 ≤ a := by omega
  refine Flt.call_floor_float hA (fun hn => ?_) (fun hn => ?_) fun _ => ?_
  · unfold Float64.isNaN at hn; rw [hd] at hn; cases hn
  · unfold Float64.isInf at hn; rw [hd] at hn; cases hn
  · rw [Flt.toInt_fin hd, floor_is hx hk1 hk hd]
    exact h _ _ hk1 hk
theorem w_trunc {x : UInt64} {a b : Int} (hA : A.handled = none) (hx : Bw x a b) (hk : b < (a / 16777216 + 1) * 16777216) (hs : 0 ≤ a ∨ (b = a ∧ a % 16777216 = 0))
    (h : ∀ k tk, k * 16777216 ≤ a → b < (k + 1) * 16777216 → Q (.int k s.toks) { s with toks := tk }) : wpAny (model prog w) A (call (.builtin "math.trunc") [.float x t]) Q E s := by
  obtain ⟨sg, m, e, hd⟩ := hx.fin
  have hk1 : a / 16777216 * 16777216 ≤ a := by omega
  refine Flt.call_trunc_float hA (fun hn => ?_) (fun hn => ?_) fun _ => ?_
  · unfold Float64.isNaN at hn; rw [hd] at hn; cases hn
  · unfold Float64.isInf at hn; rw [hd] at hn; cases hn
  · rw [Flt.toInt_fin hd, trunc_is hx hk1 hk (by omega) hd]
    exact h _ _ hk1 hk
theorem w_int {x : UInt64} {a b : Int} (hA : A.handled = none) (hx : Bw x a b) (hk : b < (a / 16777216 + 1) * 16777216) (hs : 0 ≤ a ∨ (b = a ∧ a % 16777216 = 0))
    (h : ∀ k tk, k * 16777216 ≤ a → b < (k + 1) * 16777216 → Q (.int k s.toks) { s with toks := tk }) : wpAny (model prog w) A (call (.type "int") [.float x t]) Q E s := by
  obtain ⟨sg, m, e, hd⟩ := hx.fin
  have hk1 : a / 16777216 * 16777216 ≤ a := by omega
  refine Flt.call_int_float3 hA (fun hn => ?_) (fun hn => ?_) fun _ => ?_
  · unfold Float64.isNaN at hn; rw [hd] at hn; cases hn
  · unfold Float64.isInf at hn; rw [hd] at hn; cases hn
  · rw [Flt.toInt_fin hd, trunc_is hx hk1 hk (by omega) hd]
    exact h _ _ hk1 hk
theorem w_floor_fd {x : UInt64} {a c : Int} (hA : A.handled = none) (hx : FD x a c) (hc : 0 < c) (hc2 : c ≤ 16777216) (ha : a % 16777216 = 0)
    (h : ∀ k tk, k * (c * 16777216) ≤ a → a < (k + 1) * (c * 16777216) → Q (.int k s.toks) { s with toks := tk }) : wpAny (model prog w) A (call (.builtin "math.floor") [.float x t]) Q E s := by
  have hb := hx.bw
  have hN : (a / 16777216) * 16777216 = a := by omega
  have hq0 := fd_lo (a := a / 16777216) hc
  have hq1 : a / 16777216 < (a / 16777216 / c + 1) * c := by
    have h1 := Int.mul_ediv_add_emod (a / 16777216) c
    have h2 := Int.emod_lt_of_pos (a / 16777216) hc
    rw [Int.add_mul, Int.one_mul, Int.mul_comm (a / 16777216 / c) c]
    omega
  have hlo : a / 16777216 / c * 16777216 ≤ a / c := by
    refine (Int.le_ediv_iff_mul_le hc).mpr ?_
    rw [Int.mul_right_comm]; omega
  have hhi : -((-a) / c) < (a / 16777216 / c + 1) * 16777216 := by
    have : -((a / 16777216 / c + 1) * 16777216) + 1 ≤ (-a) / c := by
      refine (Int.le_ediv_iff_mul_le hc).mpr ?_
      rw [Int.add_mul, Int.neg_mul, Int.one_mul, Int.mul_right_comm]
      omega
    omega
  have hk : a / c / 16777216 = a / 16777216 / c := by
    have := hb.le
    omega
  refine w_floor hA hb (by rw [hk]; exact hhi) fun k tk h1 h2 => h k tk ?_ ?_
  · have := (Int.le_ediv_iff_mul_le hc).mp h1
    rw [Int.mul_comm c, ← Int.mul_assoc]; exact this
  · have h3 : -((k + 1) * 16777216) + 1 ≤ (-a) / c := by omega
    have h4 := (Int.le_ediv_iff_mul_le hc).mp h3
    rw [Int.add_mul, Int.one_mul, Int.neg_mul] at h4
    rw [Int.mul_comm c, ← Int.mul_assoc]
    omega

-- comparisons
theorem w_lt_fi {x : UInt64} {a n : Int} (hx : Bw x a a) (h : Q (.bool (decide (a < n * 16777216))) s) : wpAny (model prog w) A (compareOp .Lt (.float x t) (.int n u)) Q E s := by
  refine lt_fi ?_
  rw [bw_cmpInt hx]
  have e : (some (compare a (n * 16777216)) == some Ordering.lt) = decide (a < n * 16777216) := by
    by_cases hl : a < n * 16777216
    · rw [Int.compare_eq_lt.mpr hl]; simp [hl]
    · rcases Int.lt_trichotomy a (n * 16777216) with h2 | h2 | h2
      · exact absurd h2 hl
      · rw [Int.compare_eq_eq.mpr h2]; simp; omega
      · rw [Int.compare_eq_gt.mpr h2]; simp; omega
  rw [e]; exact h
theorem w_ne_ff {x y : UInt64} {a c : Int} (hx : Bw x a a) (hy : Bw y c c) (he : a = c) (h : Q (.bool false) s) : wpAny (model prog w) A (compareOp .NotEq (.float x t) (.float y u)) Q E s := by
  refine AutoFloatOps.ne_0 ?_
  rw [bw_cmp hx hy, he]
  simpa using h
theorem w_eq_ff {x y : UInt64} {a c : Int} (hx : Bw x a a) (hy : Bw y c c) (he : a = c) (h : Q (.bool true) s) : wpAny (model prog w) A (compareOp .Eq (.float x t) (.float y u)) Q E s := by
  refine AutoFloatOps.eq_0 ?_
  rw [bw_cmp hx hy, he]
  simpa using h

-- ints by a written divisor
theorem w_mod_ii {a b : Int} (hb : 0 < b) (h : Q (.int (a % b) s.toks) { s with toks := s.toks + 1 }) : wpAny (model prog w) A (binaryOp .Mod (.int a t) (.int b u)) Q E s :=
  mod_int' (by omega) (by rw [Int.fmod_eq_emod_of_nonneg _ (by omega)]; exact h)
theorem w_fdiv_ii {a b : Int} (hb : 0 < b) (hb2 : b < 1000000) (h : Q (.int (a / b) s.toks) { s with toks := s.toks + 1 }) : wpAny (model prog w) A (binaryOp .FloorDiv (.int a t) (.int b u)) Q E s :=
  floordiv_int (by omega) (by rw [Int.fdiv_eq_ediv_of_nonneg _ (by omega)]; exact h) (Or.inl (PyProof.noPylong_small (by omega)))
theorem w_divmod {a b : Int} (F : Fr h₀ L s.heap m) (N : News h₀ L s.heap news) (hb : 0 < b) (hb2 : b < 1000000)
    (h : ∀ h', Fr h₀ L h' m → News h₀ L h' ((s.heap.objs.size, { cls := .type "tuple", data := .seq #[.int (a / b) s.toks, .int (a % b) (s.toks + 1)] }) :: news) → Q (.ref s.heap.objs.size) { s with toks := s.toks + 1 + 1, heap := h' }) :
    wpAny (model prog w) A (call (.builtin "divmod") [.int a t, .int b u]) Q E s := by
  refine divmod_N F N (by omega) (fun h' => ?_) (Or.inl (PyProof.noPylong_small (by omega)))
  rw [Int.fdiv_eq_ediv_of_nonneg _ (by omega), Int.fmod_eq_emod_of_nonneg _ (by omega)]
  exact h h'
theorem w_in4 {l : Addr} {a b c d k : Int} {ta tb tc td t : Tok} (hl : IsTup s.heap l [Value.int a ta, .int b tb, .int c tc, .int d td].toArray) (h : Q (.bool (decide (k = a ∨ k = b ∨ k = c ∨ k = d))) s) :
    wpAny (model prog w) A (compareOp .In (.int k t) (.ref l)) Q E s :=
  in_tuple_ints hl (.cons _ _ (.cons _ _ (.cons _ _ (.cons _ _ .nil)))) (by
    have e : [a, b, c, d].any (· == k) = decide (k = a ∨ k = b ∨ k = c ∨ k = d) := by
      rw [Bool.eq_iff_iff]; simp only [List.any_cons, List.any_nil, Bool.or_false, Bool.or_eq_true, beq_iff_eq, decide_eq_true_eq]; omega
    rw [e]; exact h)
end
end
-- W1
theorem bw_lit {x : UInt64} {a b : Int} (hf : Float64.isFinite x = true) (h : a * G ≤ Float64.val x ∧ Float64.val x ≤ b * G ∧ a.natAbs < 2 ^ 53 ∧ b.natAbs < 2 ^ 53) : Bw x a b := by
  refine ⟨?_, h.1, h.2.1, h.2.2.1, h.2.2.2⟩
  unfold Float64.isFinite at hf
  split at hf
  · rename_i s m e hd; exact ⟨s, m, e, hd⟩
  · cases hf
theorem lit_half : Bw 4602678819172646912 8388608 8388608 := bw_lit (by decide +kernel) (by decide +kernel)
theorem lit_EPOCH : Bw 4700144277945057280 28880727441408 28880727441408 := bw_lit (by decide +kernel) (by decide +kernel)
theorem lit_122 : Bw 4638292440600962662 2048498073 2048498074 := bw_lit (by decide +kernel) (by decide +kernel)
theorem lit_365 : Bw 4645133162144333824 6127878144 6127878144 := bw_lit (by decide +kernel) (by decide +kernel)
theorem lit_30a : Bw 4629306380116972641 513384487 513384488 := bw_lit (by decide +kernel) (by decide +kernel)
theorem lit_1524 : Bw 4654419637352529920 25576865792 25576865792 := bw_lit (by decide +kernel) (by decide +kernel)
theorem lit_30b : Bw 4629306351969474970 513382809 513382810 := bw_lit (by decide +kernel) (by decide +kernel)

/-- a global name that the def at hand reads -/
def GTag (_x : Str) : Prop := True
theorem ofG {M : Model} {A : Around} {E : Value → Shared → Prop} {s : Shared} {Q : Value → Shared → Prop} {x : Str} {pos : Pos} {env : Env} (_g : GTag x) (h : wpAny M A (eval (.Name x pos) env) Q E s) : wpAny M A (eval (.Name x pos) env) Q E s := h
section
variable {w : World} {p : Program} {loose : List Str} {mean : ExcName → Option Value} {mg mb : Str → Option Value}
theorem ct_use {f : Addr} {d : Nat} {vs : List Value} {news : List (Addr × Obj)} {P : Value → List (Addr × Obj) → Prop} (C : Ct w p loose mean mg mb f d vs news P)
    {dp un : Nat} {gd : Option (List Code)} {cn : Str} {cs : Scope} {a : Addr} {ccd : Value} {cl : List (Str × Addr)} {outer : List Env} {A₀ : Around} {base h₀ : Heap} {L : Addr} {m : Str → Option Value} {s : Shared} {Q E : Value → Shared → Prop}
    (B : Below A₀ base outer h₀) (F : Fr h₀ L s.heap m) (X : (hd.heap_39 w.params).In h₀) (N : News h₀ L s.heap news) (T : Top p loose mean mg mb h₀) (hk : cs.kind = .function)
    (hd : dp + d < recursionLimit) (hu : un + (64 + 8 * d) < cLine)
    (ret : ∀ v nw h' tk', P v nw → Fr h₀ L h' m → News h₀ L h' (nw ++ news) → Q v { s with heap := h', toks := tk' }) :
    wpAny (model PySem.Challenge.rw_ad5033_01.row.prog w) (ktrTop dp un gd cn cs L a ccd cl outer) (call (.ref f) vs) Q E s :=
  C dp un gd cn cs a ccd cl outer A₀ base h₀ L m s Q E B F X N T hk hd hu ret
end

-- the float of a literal or of the context
local macro_rules | `(tactic| walk_at "my bw") => `(tactic| first
  | with_reducible assumption
  | exact lit_half | exact lit_EPOCH | exact lit_365 | exact lit_1524 | exact lit_122 | exact lit_30a | exact lit_30b
  | exact FD.bw (by with_reducible assumption))
-- what omega shows
local macro_rules | `(tactic| walk_at "my om") => `(tactic| first | omega | ((try simp only [decide_eq_true_eq, decide_eq_false_iff_not] at *); omega))

local macro_rules | `(tactic| walk_at "binaryOp Add float float") => `(tactic| (with_reducible (refine' w_add_ff ?k1 ?k2 ?k3 ?k4 ?_); k_dflt ((case k1 => walk_at "my bw"); (case k2 => walk_at "my bw"); (case k3 => walk_at "my om"); (case k4 => walk_at "my om")); intro z9 tk9 B9; try dsimp only))
local macro_rules | `(tactic| walk_at "binaryOp Add float float") => `(tactic| (with_reducible (refine' w_add_ff_x ?k1 ?k2 ?k3 ?_); k_dflt ((case k1 => first | with_reducible assumption | exact lit_half | exact lit_EPOCH | exact lit_365 | exact lit_1524); (case k2 => first | with_reducible assumption | exact lit_half | exact lit_EPOCH | exact lit_365 | exact lit_1524); (case k3 => walk_at "my om")); intro z9 tk9 B9; try dsimp only))
local macro_rules | `(tactic| walk_at "inplaceOp Add float float") => `(tactic| (with_reducible (refine' w_iadd_ff_x ?k1 ?k2 ?k3 ?_); k_dflt ((case k1 => first | with_reducible assumption | exact lit_half | exact lit_EPOCH | exact lit_365 | exact lit_1524); (case k2 => first | with_reducible assumption | exact lit_half | exact lit_EPOCH | exact lit_365 | exact lit_1524); (case k3 => walk_at "my om")); intro z9 tk9 B9; try dsimp only))
local macro_rules | `(tactic| walk_at "binaryOp Sub float float") => `(tactic| (with_reducible (refine' w_sub_ff ?k1 ?k2 ?k3 ?k4 ?_); k_dflt ((case k1 => walk_at "my bw"); (case k2 => walk_at "my bw"); (case k3 => walk_at "my om"); (case k4 => walk_at "my om")); intro z9 tk9 B9; try dsimp only))
local macro_rules | `(tactic| walk_at "binaryOp Sub float float") => `(tactic| (with_reducible (refine' w_sub_ff_x ?k1 ?k2 ?k3 ?_); k_dflt ((case k1 => first | with_reducible assumption | exact lit_half | exact lit_EPOCH | exact lit_365 | exact lit_1524); (case k2 => first | with_reducible assumption | exact lit_half | exact lit_EPOCH | exact lit_365 | exact lit_1524); (case k3 => walk_at "my om")); intro z9 tk9 B9; try dsimp only))
local macro_rules | `(tactic| walk_at "binaryOp Add float int") => `(tactic| (with_reducible (refine' w_add_fi ?k0 ?k1 ?k2 ?k3 ?k4 ?_); k_dflt ((case k0 => exact rfl); (case k1 => walk_at "my bw"); (case k2 => walk_at "my om"); (case k3 => walk_at "my om"); (case k4 => walk_at "my om")); intro z9 tk9 B9; try dsimp only))
local macro_rules | `(tactic| walk_at "binaryOp Add float int") => `(tactic| (with_reducible (refine' w_add_fi_x ?k0 ?k1 ?k2 ?_); k_dflt ((case k0 => exact rfl); (case k1 => first | with_reducible assumption | exact lit_half | exact lit_EPOCH | exact lit_365 | exact lit_1524); (case k2 => walk_at "my om")); intro z9 tk9 B9; try dsimp only))
local macro_rules | `(tactic| walk_at "binaryOp Add int float") => `(tactic| (with_reducible (refine' w_add_if ?k0 ?k1 ?k2 ?k3 ?k4 ?_); k_dflt ((case k0 => exact rfl); (case k1 => walk_at "my bw"); (case k2 => walk_at "my om"); (case k3 => walk_at "my om"); (case k4 => walk_at "my om")); intro z9 tk9 B9; try dsimp only))
local macro_rules | `(tactic| walk_at "binaryOp Add int float") => `(tactic| (with_reducible (refine' w_add_if_x ?k0 ?k1 ?k2 ?_); k_dflt ((case k0 => exact rfl); (case k1 => first | with_reducible assumption | exact lit_half | exact lit_EPOCH | exact lit_365 | exact lit_1524); (case k2 => walk_at "my om")); intro z9 tk9 B9; try dsimp only))
local macro_rules | `(tactic| walk_at "inplaceOp Add int float") => `(tactic| (with_reducible (refine' w_iadd_if ?k0 ?k1 ?k2 ?k3 ?k4 ?_); k_dflt ((case k0 => exact rfl); (case k1 => walk_at "my bw"); (case k2 => walk_at "my om"); (case k3 => walk_at "my om"); (case k4 => walk_at "my om")); intro z9 tk9 B9; try dsimp only))
local macro_rules | `(tactic| walk_at "inplaceOp Add int float") => `(tactic| (with_reducible (refine' w_iadd_if_x ?k0 ?k1 ?k2 ?_); k_dflt ((case k0 => exact rfl); (case k1 => first | with_reducible assumption | exact lit_half | exact lit_EPOCH | exact lit_365 | exact lit_1524); (case k2 => walk_at "my om")); intro z9 tk9 B9; try dsimp only))
local macro_rules | `(tactic| walk_at "binaryOp Sub float int") => `(tactic| (with_reducible (refine' w_sub_fi ?k0 ?k1 ?k2 ?k3 ?k4 ?_); k_dflt ((case k0 => exact rfl); (case k1 => walk_at "my bw"); (case k2 => walk_at "my om"); (case k3 => walk_at "my om"); (case k4 => walk_at "my om")); intro z9 tk9 B9; try dsimp only))
local macro_rules | `(tactic| walk_at "binaryOp Sub float int") => `(tactic| (with_reducible (refine' w_sub_fi_x ?k0 ?k1 ?k2 ?_); k_dflt ((case k0 => exact rfl); (case k1 => first | with_reducible assumption | exact lit_half | exact lit_EPOCH | exact lit_365 | exact lit_1524); (case k2 => walk_at "my om")); intro z9 tk9 B9; try dsimp only))
local macro_rules | `(tactic| walk_at "binaryOp Sub int float") => `(tactic| (with_reducible (refine' w_sub_if ?k0 ?k1 ?k2 ?k3 ?k4 ?_); k_dflt ((case k0 => exact rfl); (case k1 => walk_at "my bw"); (case k2 => walk_at "my om"); (case k3 => walk_at "my om"); (case k4 => walk_at "my om")); intro z9 tk9 B9; try dsimp only))
local macro_rules | `(tactic| walk_at "binaryOp Sub int float") => `(tactic| (with_reducible (refine' w_sub_if_x ?k0 ?k1 ?k2 ?_); k_dflt ((case k0 => exact rfl); (case k1 => first | with_reducible assumption | exact lit_half | exact lit_EPOCH | exact lit_365 | exact lit_1524); (case k2 => walk_at "my om")); intro z9 tk9 B9; try dsimp only))
local macro_rules | `(tactic| walk_at "binaryOp Mult float int") => `(tactic| (with_reducible (refine' w_mul_fi_x ?k0 ?k1 ?k2 ?k3 ?k4 ?_); k_dflt ((case k0 => exact rfl); (case k1 => with_reducible assumption); (case k2 => decide); (case k3 => decide); (case k4 => walk_at "my om")); intro z9 tk9 B9; try dsimp only))
local macro_rules | `(tactic| walk_at "binaryOp Mult float int") => `(tactic| (with_reducible (refine' w_mul_pos ?k0 ?k1 ?k2 ?k3 ?_); k_dflt ((case k0 => exact rfl); (case k1 => first | exact lit_30a | exact lit_30b); (case k2 => decide); (case k3 => walk_at "my om")); intro z9 tk9 B9; try dsimp only))
local macro_rules | `(tactic| walk_at "binaryOp Mult float int") => `(tactic| (with_reducible (refine' w_mul_365 ?k0 ?k1 ?k2 ?k3 ?_); k_dflt ((case k0 => exact rfl); (case k1 => exact lit_365); (case k2 => decide); (case k3 => walk_at "my om")); intro z9 tk9 B9; try dsimp only))
local macro_rules | `(tactic| walk_at "binaryOp Div float int") => `(tactic| (with_reducible (refine' w_div_fi ?k0 ?k1 ?k2 ?k3 ?k4 ?_); k_dflt ((case k0 => exact rfl); (case k1 => walk_at "my bw"); (case k2 => decide); (case k3 => decide); (case k4 => walk_at "my om")); intro z9 tk9 B9; try dsimp only))
local macro_rules | `(tactic| walk_at "binaryOp Div int int") => `(tactic| (with_reducible (refine' w_div_ii ?k0 ?k1 ?k2 ?_); k_dflt ((case k0 => exact rfl); (case k1 => decide); (case k2 => walk_at "my om")); intro z9 tk9 B9; try dsimp only))
local macro_rules | `(tactic| walk_at "binaryOp Div int int") => `(tactic| ((with_reducible show wpAny _ _ (binaryOp _ _ (Value.int 8 _)) _ _ _); with_reducible (refine' w_div8 ?k0 ?k1 ?_); k_dflt ((case k0 => exact rfl); (case k1 => walk_at "my om")); intro z9 tk9 B9; try dsimp only))
local macro_rules | `(tactic| walk_at "binaryOp Div int int") => `(tactic| ((with_reducible show wpAny _ _ (binaryOp _ _ (Value.int 2 _)) _ _ _); with_reducible (refine' w_div2 ?k0 ?k1 ?_); k_dflt ((case k0 => exact rfl); (case k1 => walk_at "my om")); intro z9 tk9 B9; try dsimp only))
local macro_rules | `(tactic| walk_at "binaryOp Mod float int") => `(tactic| (with_reducible (refine' w_mod_fi ?k0 ?k1 ?k2 ?k3 ?_); k_dflt ((case k0 => exact rfl); (case k1 => walk_at "my bw"); (case k2 => decide); (case k3 => decide)); intro z9 tk9 B9; try dsimp only))
local macro_rules | `(tactic| walk_at "binaryOp Mod int int") => `(tactic| (with_reducible (refine' w_mod_ii ?k0 ?_); k_dflt ((case k0 => decide)); try dsimp only))
local macro_rules | `(tactic| walk_at "binaryOp FloorDiv int int") => `(tactic| (with_reducible (refine' w_fdiv_ii ?k0 ?k1 ?_); k_dflt ((case k0 => decide); (case k1 => decide)); try dsimp only))
local macro_rules | `(tactic| walk_at "call builtin:divmod") => `(tactic| ((with_reducible show wpAny _ _ (call (Value.builtin _) [Value.int _ _, Value.int _ _]) _ _ _); with_reducible (refine' w_divmod ?kF ?kN ?k0 ?k1 ?_); k_dflt ((case kF => k_asm); (case kN => k_asm); (case k0 => decide); (case k1 => decide)); intro h9 F9 N9; (try k_sweep); try dsimp only))
local macro_rules | `(tactic| walk_at "call builtin:math.floor") => `(tactic| ((with_reducible show wpAny _ _ (call _ [Value.float _ _]) _ _ _); with_reducible (refine' w_floor ?k0 ?k1 ?k2 ?_); k_dflt ((case k0 => exact rfl); (case k1 => walk_at "my bw"); (case k2 => walk_at "my om")); intro k9 tk9 lo9 hi9; try dsimp only))
local macro_rules | `(tactic| walk_at "call builtin:math.floor") => `(tactic| ((with_reducible show wpAny _ _ (call _ [Value.float _ _]) _ _ _); with_reducible (refine' w_floor_fd ?k0 ?k1 ?k2 ?k3 ?k4 ?_); k_dflt ((case k0 => exact rfl); (case k1 => with_reducible assumption); (case k2 => decide); (case k3 => decide); (case k4 => walk_at "my om")); intro k9 tk9 lo9 hi9; try dsimp only))
local macro_rules | `(tactic| walk_at "call builtin:math.trunc") => `(tactic| ((with_reducible show wpAny _ _ (call _ [Value.float _ _]) _ _ _); with_reducible (refine' w_trunc ?k0 ?k1 ?k2 ?k3 ?_); k_dflt ((case k0 => exact rfl); (case k1 => walk_at "my bw"); (case k2 => walk_at "my om"); (case k3 => walk_at "my om")); intro k9 tk9 lo9 hi9; try dsimp only))
local macro_rules | `(tactic| walk_at "call type:int") => `(tactic| ((with_reducible show wpAny _ _ (call _ [Value.float _ _]) _ _ _); with_reducible (refine' w_int ?k0 ?k1 ?k2 ?k3 ?_); k_dflt ((case k0 => exact rfl); (case k1 => walk_at "my bw"); (case k2 => walk_at "my om"); (case k3 => walk_at "my om")); intro k9 tk9 lo9 hi9; try dsimp only))
local macro_rules | `(tactic| walk_at "compareOp Lt float int") => `(tactic| (with_reducible (refine' w_lt_fi ?k1 ?_); k_dflt ((case k1 => walk_at "my bw"))))
local macro_rules | `(tactic| walk_at "compareOp NotEq float float") => `(tactic| (with_reducible (refine' w_ne_ff ?k1 ?k2 ?k3 ?_); k_dflt ((case k1 => walk_at "my bw"); (case k2 => walk_at "my bw"); (case k3 => first | rfl | walk_at "my om"))))
local macro_rules | `(tactic| walk_at "compareOp Eq float float") => `(tactic| (with_reducible (refine' w_eq_ff ?k1 ?k2 ?k3 ?_); k_dflt ((case k1 => walk_at "my bw"); (case k2 => walk_at "my bw"); (case k3 => first | rfl | walk_at "my om"))))
-- a name: a local's, a global's
local macro_rules | `(tactic| walk_at "eval Name") => `(tactic| (k_here; with_reducible (refine' ld ?k1 ?k2 ?_ ?k3 (kindOf_of_beq ?k4) ?k5); k_dflt ((case k4 => kernel_rfl!); (case k3 => exact rfl); (case k5 => kernel_rfl!); (case k1 => k_asm); (case k2 => exact rfl); k_whole)))
local macro_rules | `(tactic| walk_at "eval Name") => `(tactic| (k_here; with_reducible (refine' ofG ?kg ?_; (case kg => assumption)); (with_reducible rename Fr _ _ _ _ => kF); with_reducible (refine' name_K kF ?k1 ?k2 ?k3 ?_ ?k4 (kindOf_of_beq ?k5) ?k6); k_dflt ((case k4 => exact rfl); (case k5 => kernel_rfl!); (case k6 => kernel_rfl!); (case k1 => k_asm); (case k2 => k_asm); (case k3 => k_is); k_whole)))
-- "my ite": a test: told by its look, by the facts; else both ways
local macro_rules | `(tactic| walk_at "ite") => `(tactic| (with_reducible (first | (refine split_dec ?_ ?_ <;> intro _) | (refine split_ine ?_ ?_ <;> intro _) | (refine split_ieq ?_ ?_ <;> intro _))))
local macro_rules | `(tactic| walk_at "ite") => `(tactic| (k_here; k_openite; k_spoken; first | (refine ite_pos (by k_dec) ?_) | (refine ite_neg (by k_dec) ?_)))
local macro_rules | `(tactic| walk_at "ite") => `(tactic| (k_here; with_reducible (first | refine ite_tt ?_ | refine ite_ff ?_ | refine split_not ?_ | refine ite_pos (by assumption) ?_ | refine ite_neg (by assumption) ?_)))
-- no joins: a call is a call, an if an if
local macro_rules | `(tactic| walk_at "eval Call") => `(tactic| k_dflt (refine' Call_ ?_ ?he; (case he => with_unfolding_all rfl)))
local macro_rules | `(tactic| walk_at "exec If") => `(tactic| k_dflt (refine wpAny_If ?_))
local macro_rules | `(tactic| walk_at "compareOp In int ref") => `(tactic| (k_here; k_dflt (refine' w_in4 (tupK ?k1 ?k2) ?_; (case k1 => k_in); (case k2 => k_is)); try dsimp only))
-- entering a def of the text at a contract's head
local macro_rules | `(tactic| walk_at "my enter") => `(tactic| (refine wpAny_call ?_; k_dflt cell_enter))
local macro_rules | `(tactic| walk_at "my in") => `(tactic| (unfold Ct; k_fill; intros))
-- Cal0
section
def lp (y : Int) : Bool := decide (y % 4 = 0 ∧ (y % 100 ≠ 0 ∨ y % 400 = 0))
def lj (y : Int) : Bool := decide (y % 4 = 0)
def b2 (b : Bool) : Int := if b then 1 else 0
def dm (w : Bool) (m : Int) : Int := if m = 2 then 28 + b2 w else if m = 4 ∨ m = 6 ∨ m = 9 ∨ m = 11 then 30 else 31
def adj (w : Bool) : Int := if w then -1 else -2
def dbm (w : Bool) (m : Int) : Int := (367 * m - 362) / 12 + (if m ≤ 2 then 0 else adj w)
def mo (w : Bool) (p : Int) : Int := ((p + (if p < 58 + b2 w then 0 else -(adj w))) * 12 + 373) / 367
def fy (y : Int) : Int := 1721426 + 365 * (y - 1) + (y - 1) / 4 - (y - 1) / 100 + (y - 1) / 400
def fj (y : Int) : Int := 1721424 + 365 * (y - 1) + (y - 1) / 4
def half (N : Int) : Int := N * 16777216 - 8388608
def jdG (y m d : Int) : Int := fy y + dbm (lp y) m + d - 1
def jdJ (y m d : Int) : Int := fj y + dbm (lj y) m + d - 1
def gy (N : Int) : Int :=
  (N - 1721426) / 146097 * 400 + (N - 1721426) % 146097 / 36524 * 100 + (N - 1721426) % 146097 % 36524 / 1461 * 4 + (N - 1721426) % 146097 % 36524 % 1461 / 365
    + (if (N - 1721426) % 146097 / 36524 = 4 ∨ (N - 1721426) % 146097 % 36524 % 1461 / 365 = 4 then 0 else 1)
def pl (N : Int) : Int := N - fy (gy N)
def adjG (N : Int) : Int := if pl N < 58 + b2 (lp (gy N)) then 0 else -(adj (lp (gy N)))
def gm (N : Int) : Int := ((pl N + adjG N) * 12 + 373) / 367
def gd (N : Int) : Int := N - jdG (gy N) (gm N) 1 + 1
def jc (N : Int) : Int := (20 * (N + 1524) - 2442) / 7305
def jq (N : Int) : Int := N + 1524 - 1461 * jc N / 4
def je (N : Int) : Int := 10000 * jq N / 306001
def jm (N : Int) : Int := if je N < 14 then je N - 1 else je N - 13
def jy (N : Int) : Int := if jm N > 2 then jc N - 4716 else jc N - 4715
def jdy (N : Int) : Int := jq N - 306001 * je N / 10000
theorem dm_facts {w : Bool} {m d : Int} (h : d ≤ dm w m) : d ≤ 31 ∧ (m ≠ 2 ∨ d ≤ if w = true then 29 else 28) ∧ (¬(m = 4 ∨ m = 6 ∨ m = 9 ∨ m = 11) ∨ d ≤ 30) := by
  unfold dm at h
  refine ⟨?_, ?_, ?_⟩ <;> (unfold b2 at *; cases w <;> simp at * <;> omega)
end
-- W2
/-- behind an if: the name y holds v, all else is as it was -/
def JTag (_k : Nat) (_y : Str) (_v : Int) : Prop := True
def JoinPost (h₀ : Heap) (L : Addr) (m : Str → Option Value) (news : List (Addr × Obj)) (s : Shared) (y : Str) (v : Int) (fl : Flow) (s' : Shared) : Prop :=
  fl = .next ∧ ∃ (h' : Heap) (t tk : Tok), s' = { s with heap := h', toks := tk } ∧ Fr h₀ L h' (fun z => if z = y then some (.int v t) else m z) ∧ News h₀ L h' news
section
variable {M : Model} {A : Around} {E : Value → Shared → Prop} {s : Shared} {h₀ : Heap} {L : Addr} {m : Str → Option Value} {news news' : List (Addr × Obj)} {Q : Flow → Shared → Prop}
theorem if_join {k : Nat} {y : Str} {v : Int} {st : Stmt} {env : Env} (_tag : JTag k y v) (_F : Fr h₀ L s.heap m) (_N : News h₀ L s.heap news)
    (hb : wpAny M A (exec st env) (fun fl s' => JoinPost h₀ L m news s y v fl s') E s)
    (hc : ∀ (h' : Heap) (t tk : Tok), Fr h₀ L h' (fun z => if z = y then some (.int v t) else m z) → News h₀ L h' news → Q .next { s with heap := h', toks := tk }) : wpAny M A (exec st env) Q E s :=
  wpAny_mono hb (fun fl s' hj => by
    obtain ⟨e, h', t, tk, es, F, N⟩ := hj
    subst e; subst es
    exact hc h' t tk F N) fun _ _ x => x
theorem join_end1 {y : Str} {v v' : Int} {t tk : Tok} {h : Heap} (F : Fr h₀ L h (fun z => if z = y then some (.int v' t) else m z)) (N : News h₀ L h news') (hs : ∀ p ∈ news, p ∈ news') (hv : v' = v) :
    JoinPost h₀ L m news s y v .next { s with heap := h, toks := tk } := by
  subst hv
  exact ⟨rfl, h, t, tk, rfl, F, fun p hp => N p (hs p hp)⟩
theorem join_end0 {y : Str} {v v' : Int} {t tk : Tok} {h : Heap} (F : Fr h₀ L h m) (N : News h₀ L h news') (hs : ∀ p ∈ news, p ∈ news') (hm : m y = some (.int v' t)) (hv : v' = v) :
    JoinPost h₀ L m news s y v .next { s with heap := h, toks := tk } := by
  subst hv
  have e : (fun z => if z = y then some (Value.int v' t) else m z) = m := by
    funext z
    split
    · rename_i hz; rw [hz, hm]
    · rfl
  exact ⟨rfl, h, t, tk, rfl, by rw [e]; exact F, fun p hp => N p (hs p hp)⟩
end
local macro_rules | `(tactic| walk_at "JoinPost") => `(tactic| (first
  | (with_reducible (refine' join_end1 ?k1 ?k2 ?k3 ?_; (case k1 => assumption); (case k2 => assumption)); k_dflt (case k3 => first | exact fun _ h => h | exact fun _ h => List.Mem.tail _ h | exact fun _ h => List.Mem.tail _ (List.Mem.tail _ h) | kcj_all))
  | (with_reducible (refine' join_end0 ?k1 ?k2 ?k3 ?k4 ?_; (case k1 => assumption); (case k2 => assumption)); k_dflt ((case k3 => first | exact fun _ h => h | exact fun _ h => List.Mem.tail _ h | exact fun _ h => List.Mem.tail _ (List.Mem.tail _ h) | kcj_all); (case k4 => exact rfl)))))
-- an if that is joined: one whose test is a 'not', one whose test is a comparison
local macro_rules | `(tactic| walk_at "exec If UnaryOp") => `(tactic| (k_here; (with_reducible rename JTag 1 _ _ => jT); focus ((with_reducible (refine' if_join jT ?k1 ?k2 ?_ ?_; (case k1 => assumption); (case k2 => assumption))); clear jT; k_dflt (refine wpAny_If ?_); rotate_left; (clear jT; intro h9 t9 tk9 F9 N9; (try k_sweep); (try dsimp only)); rotate_right)))
local macro_rules | `(tactic| walk_at "exec If Compare") => `(tactic| (k_here; (with_reducible rename JTag 2 _ _ => jT); focus ((with_reducible (refine' if_join jT ?k1 ?k2 ?_ ?_; (case k1 => assumption); (case k2 => assumption))); clear jT; k_dflt (refine wpAny_If ?_); rotate_left; (clear jT; intro h9 t9 tk9 F9 N9; (try k_sweep); (try dsimp only)); rotate_right)))
-- a def of the text that has no contract: entered
local macro_rules | `(tactic| walk_at "my inline") => `(tactic| (first
  | (with_reducible show wpAny _ _ (call (Value.ref 59) _ _) _ _ _)
  | (with_reducible show wpAny _ _ (call (Value.ref 66) _ _) _ _ _)
  | (with_reducible show wpAny _ _ (call (Value.ref 73) _ _) _ _ _)
  | (with_reducible show wpAny _ _ (call (Value.ref 87) _ _) _ _ _)
  | (with_reducible show wpAny _ _ (call (Value.ref 94) _ _) _ _ _)
  | (with_reducible show wpAny _ _ (call (Value.ref 173) _ _) _ _ _)
  | (with_reducible show wpAny _ _ (call (Value.ref 180) _ _) _ _ _)
  | (with_reducible show wpAny _ _ (call (Value.ref 257) _ _) _ _ _)
  | (with_reducible show wpAny _ _ (call (Value.ref 264) _ _) _ _ _)
  | (with_reducible show wpAny _ _ (call (Value.ref 271) _ _) _ _ _)
  | (with_reducible show wpAny _ _ (call (Value.ref 278) _ _) _ _ _)
  | (with_reducible show wpAny _ _ (call (Value.ref 285) _ _) _ _ _)
  | (with_reducible show wpAny _ _ (call (Value.ref 292) _ _) _ _ _)
  | (with_reducible show wpAny _ _ (call (Value.ref 299) _ _) _ _ _)
))
local macro_rules | `(tactic| walk_at "call ref") => `(tactic| (k_here; walk_at "my inline"; refine wpAny_call ?_; k_dflt (refine' code_def ?k1 ?k2 ?k3 ?k4 ?k5 ?kA ?kF ?kK ?k6 ?k7 ?k8 ?k9 ?kB ?_ ?c2 ?c3 ?c4 ?c5; (case kA => exact rfl); (case kF => exact rfl); (case kK => first | exact rfl | assumption); (case k1 => k_asm); (case k2 => k_asm); (case k3 => k_asm); (case k4 => k_asm); (case k5 => k_asm); (case k6 => k_is); (case k7 => k_is); (case k8 => ktr_room); (case k9 => first | exact BindsTo.of_eq rfl | exact binds_K (by k_in) rfl (by k_is) rfl rfl rfl); (case c5 => decide); (case kB => exact locs rfl); (case c2 => exact rfl); (case c3 => exact rfl); (case c4 => exact rfl); k_whole; intro g' L' h' FG' F' N' B' X' T'; (try dsimp only); (try k_lift B'); (try k_fold))))
-- C1
theorem C_isleap (y : Int) (b : Bool) (hb : lp y = b) (t : Tok) (news : List (Addr × Obj)) : Ct w p loose mean mg mb 102 1 [.int y t] news (fun v nw => v = .bool b ∧ nw = []) := by
  subst hb
  walk_at "my in"; rename_i hret; walk_at "my enter"
  k_steps
  all_goals (refine hret _ [] _ _ ⟨?_, rfl⟩ (by k_asm) (by k_asm); unfold lp; refine congrArg Value.bool ?_; rw [Bool.eq_iff_iff]; simp only [bne_iff_ne, beq_iff_eq, decide_eq_true_eq]; omega)
local macro_rules | `(tactic| walk_at "call ref") => `(tactic| ((with_reducible show wpAny _ _ (call (Value.ref 102) [Value.int _ _] _) _ _ _); k_dflt (refine' ct_use (C_isleap _ _ ?kb _ _) ?k1 ?k2 ?k3 ?k4 ?k5 ?kK ?kd ?ku ?_; (case kb => first | assumption | rfl); (case k1 => k_asm); (case k2 => k_asm); (case k3 => k_asm); (case k4 => k_asm); (case k5 => k_asm); (case kK => first | exact rfl | assumption); (case kd => ktr_room); (case ku => ktr_units)); intro v9 nw9 h9 tk9 hP9 F9 N9; k_dflt (obtain ⟨e9, e8⟩ := hP9; subst e9; subst e8); (try simp only [List.nil_append] at N9); (try dsimp only); (try k_fold)))
theorem C_legal (y m d : Int) (t1 t2 t3 : Tok) (news : List (Addr × Obj)) (h1 : 1 ≤ m) (h2 : m ≤ 12) (h3 : 1 ≤ d) (h4 : d ≤ dm (lp y) m) : Ct w p loose mean mg mb 109 3 [.int y t1, .int m t2, .int d t3] news (fun v nw => v = .bool true ∧ nw = []) := by
  have g0 : GTag (PySem.Str.ofString "isleap") := trivial
  have g1 : GTag (PySem.Str.ofString "HAVE_30_DAYS_gregorian") := trivial
  have hD := dm_facts h4
  clear h4
  cases hl : lp y <;> rw [hl] at hD <;> simp only [if_true, if_false, Bool.false_eq_true] at hD <;> obtain ⟨hd1, hd2, hd3⟩ := hD
  all_goals
    walk_at "my in"; rename_i hret; walk_at "my enter"
    k_steps
    all_goals (refine hret _ [] _ _ ⟨?_, rfl⟩ (by k_asm) (by k_asm); rfl)
-- Cal1
section
theorem b2_01 (w : Bool) : b2 w = 0 ∨ b2 w = 1 := by cases w <;> decide
theorem lp_t {y : Int} (h : lp y = true) : y % 4 = 0 ∧ (y % 100 ≠ 0 ∨ y % 400 = 0) := of_decide_eq_true h
theorem lp_f {y : Int} (h : lp y = false) : ¬(y % 4 = 0 ∧ (y % 100 ≠ 0 ∨ y % 400 = 0)) := of_decide_eq_false h
/-- a year by its place in the rounds -/
theorem fy_parts (q c k r : Int) (hc : 0 ≤ c ∧ c ≤ 3) (hk : 0 ≤ k ∧ k ≤ 24) (hr : 0 ≤ r ∧ r ≤ 3) :
    fy (400 * q + 100 * c + 4 * k + r + 1) = 1721426 + 146097 * q + 36524 * c + 1461 * k + 365 * r := by
  unfold fy; omega
theorem lp_parts (q c k r : Int) (hc : 0 ≤ c ∧ c ≤ 3) (hk : 0 ≤ k ∧ k ≤ 24) (hr : 0 ≤ r ∧ r ≤ 3) :
    b2 (lp (400 * q + 100 * c + 4 * k + r + 1)) = if r = 3 ∧ (k ≠ 24 ∨ c = 3) then 1 else 0 := by
  cases h : lp (400 * q + 100 * c + 4 * k + r + 1)
  · have := lp_f h
    unfold b2
    rw [if_neg (by decide)]
    split <;> omega
  · have := lp_t h
    unfold b2
    rw [if_pos rfl]
    split <;> omega
theorem year_parts (y : Int) : ∃ q c k r, y = 400 * q + 100 * c + 4 * k + r + 1 ∧ (0 ≤ c ∧ c ≤ 3) ∧ (0 ≤ k ∧ k ≤ 24) ∧ (0 ≤ r ∧ r ≤ 3) :=
  ⟨(y - 1) / 400, (y - 1) % 400 / 100, (y - 1) % 100 / 4, (y - 1) % 4, by omega, by omega, by omega, by omega⟩
/-- the year of a day is found -/
theorem gy_eq {y p N : Int} (h : N = fy y + p) (h0 : 0 ≤ p) (h1 : p < 365 + b2 (lp y)) : gy N = y := by
  obtain ⟨q, c, k, r, rfl, hc, hk, hr⟩ := year_parts y
  rw [lp_parts q c k r hc hk hr] at h1
  rw [fy_parts q c k r hc hk hr] at h
  have hD : N - 1721426 = 146097 * q + 36524 * c + 1461 * k + 365 * r + p := by omega
  unfold gy
  rw [hD]
  generalize hE : 36524 * c + 1461 * k + 365 * r + p = e
  have hp : p ≤ 365 := by split at h1 <;> omega
  have e0 : 0 ≤ e ∧ e < 146097 := by split at h1 <;> omega
  have d1 : (146097 * q + 36524 * c + 1461 * k + 365 * r + p) / 146097 = q := by omega
  have d2 : (146097 * q + 36524 * c + 1461 * k + 365 * r + p) % 146097 = e := by omega
  rw [d1, d2]
  by_cases hlast : c = 3 ∧ k = 24 ∧ r = 3 ∧ p = 365
  · obtain ⟨rfl, rfl, rfl, rfl⟩ := hlast
    subst hE
    simp
    omega
  · have c1 : e / 36524 = c := by split at h1 <;> omega
    have c2 : e % 36524 = 1461 * k + 365 * r + p := by omega
    rw [c1, c2]
    have k1 : (1461 * k + 365 * r + p) / 1461 = k := by split at h1 <;> omega
    have k2 : (1461 * k + 365 * r + p) % 1461 = 365 * r + p := by omega
    rw [k1, k2]
    by_cases hr4 : p = 365
    · have : r = 3 := by split at h1 <;> omega
      subst this; subst hr4
      simp
      omega
    · have r1 : (365 * r + p) / 365 = r := by omega
      rw [r1, if_neg (by omega)]
      omega
theorem fy_next (y : Int) : fy (y + 1) = fy y + 365 + b2 (lp y) := by
  obtain ⟨q, c, k, r, rfl, hc, hk, hr⟩ := year_parts y
  rw [lp_parts q c k r hc hk hr, fy_parts q c k r hc hk hr]
  unfold fy
  split <;> omega
/-- every day lies in its year -/
theorem gy_in (N : Int) : 0 ≤ pl N ∧ pl N < 365 + b2 (lp (gy N)) := by
  -- some year holds the day
  have ex : ∃ y, fy y ≤ N ∧ N < fy (y + 1) := by
    have h1 := Int.mul_ediv_add_emod (N - 1721426) 146097
    generalize hq : (N - 1721426) / 146097 = q at *
    generalize hd : (N - 1721426) % 146097 = d at *
    have d0 : 0 ≤ d ∧ d < 146097 := by omega
    -- the hundred, the four, the year
    by_cases hl : d = 146096
    · exact ⟨400 * q + 400, by unfold fy; omega, by unfold fy; omega⟩
    · have c0 : 0 ≤ d / 36524 ∧ d / 36524 ≤ 3 := by omega
      generalize hc : d / 36524 = c at *
      have k0 : 0 ≤ (d - 36524 * c) / 1461 ∧ (d - 36524 * c) / 1461 ≤ 24 := by omega
      generalize hk : (d - 36524 * c) / 1461 = k at *
      have s0 : 0 ≤ d - 36524 * c - 1461 * k ∧ d - 36524 * c - 1461 * k ≤ 1460 := by omega
      generalize hs : d - 36524 * c - 1461 * k = s at *
      have hsk : k = 24 → s ≤ 1459 := by omega
      have hr : ∃ r, 0 ≤ r ∧ r ≤ 3 ∧ 365 * r ≤ s ∧ (s < 365 * r + 365 ∨ r = 3) := by
        by_cases h : s < 1095
        · exact ⟨s / 365, by omega, by omega, by omega, by omega⟩
        · exact ⟨3, by omega, by omega, by omega, by omega⟩
      obtain ⟨r, r0, r1, r2, r3⟩ := hr
      refine ⟨400 * q + 100 * c + 4 * k + r + 1, ?_, ?_⟩
      · rw [fy_parts q c k r c0 k0 ⟨r0, r1⟩]; omega
      · rw [fy_next, lp_parts q c k r c0 k0 ⟨r0, r1⟩, fy_parts q c k r c0 k0 ⟨r0, r1⟩]
        split <;> omega
  obtain ⟨y, h1, h2⟩ := ex
  rw [fy_next] at h2
  have e := gy_eq (y := y) (p := N - fy y) (N := N) (by omega) (by omega) (by omega)
  unfold pl
  rw [e]
  omega
theorem gy_bounds {N : Int} (h : -190000000 ≤ N ∧ N ≤ 190000000) : -600000 ≤ gy N ∧ gy N ≤ 600000 := by
  have h1 := gy_in N
  have h2 := b2_01 (lp (gy N))
  unfold pl fy at h1
  omega
end
-- Cal2
section
theorem up_mod (D n : Int) : D * 16777216 % (n * 16777216) = D % n * 16777216 := by
  rw [Int.mul_comm D, Int.mul_comm n, Int.mul_emod_mul_of_pos _ _ (by decide), Int.mul_comm]
theorem up_div {D c k : Int} (hc : 0 < c) (h1 : k * (c * 16777216) ≤ D * 16777216) (h2 : D * 16777216 < (k + 1) * (c * 16777216)) : D / c = k := by
  have e1 : k * c ≤ D := by
    rw [← Int.mul_assoc] at h1; exact Int.le_of_mul_le_mul_right h1 (by decide)
  have e2 : D < (k + 1) * c := by
    rw [← Int.mul_assoc] at h2; exact Int.lt_of_mul_lt_mul_right h2 (by decide)
  apply Int.le_antisymm
  · exact Int.le_of_lt_add_one (Int.ediv_lt_of_lt_mul hc e2)
  · exact (Int.le_ediv_iff_mul_le hc).mpr e1
theorem gy_end {N D q c k r y : Int} (l1 : q * (146097 * 16777216) ≤ D) (u1 : D < (q + 1) * (146097 * 16777216))
    (l2 : c * (36524 * 16777216) ≤ D % (146097 * 16777216)) (u2 : D % (146097 * 16777216) < (c + 1) * (36524 * 16777216))
    (l3 : k * (1461 * 16777216) ≤ D % (146097 * 16777216) % (36524 * 16777216)) (u3 : D % (146097 * 16777216) % (36524 * 16777216) < (k + 1) * (1461 * 16777216))
    (l4 : r * (365 * 16777216) ≤ D % (146097 * 16777216) % (36524 * 16777216) % (1461 * 16777216)) (u4 : D % (146097 * 16777216) % (36524 * 16777216) % (1461 * 16777216) < (r + 1) * (365 * 16777216))
    (hD : D = (N - 1721426) * 16777216) (hy : (c = 4 ∨ r = 4) ∧ y = q * 400 + c * 100 + k * 4 + r ∨ ¬(c = 4 ∨ r = 4) ∧ y = q * 400 + c * 100 + k * 4 + r + 1) : y = gy N := by
  subst hD
  rw [up_mod] at l2 u2 l3 u3 l4 u4
  rw [up_mod] at l3 u3 l4 u4
  rw [up_mod] at l4 u4
  unfold gy
  rw [up_div (by decide) l1 u1, up_div (by decide) l2 u2, up_div (by decide) l3 u3, up_div (by decide) l4 u4]
  rcases hy with ⟨h, e⟩ | ⟨h, e⟩
  · rw [if_pos h, e]; omega
  · rw [if_neg h, e]
theorem adj_end0 {N a : Int} (h : a < (58 + if lp (gy N) = true then 1 else 0) * 16777216) (ha : a = pl N * 16777216) : 0 = adjG N := by
  unfold adjG b2
  rw [if_pos (by omega)]
theorem adj_end1 {N a : Int} (h : ¬ a < (58 + if lp (gy N) = true then 1 else 0) * 16777216) (ha : a = pl N * 16777216) (hl : lp (gy N) = true) : 1 = adjG N := by
  unfold adjG b2
  rw [if_neg (by omega), hl]; rfl
theorem adj_end2 {N a : Int} (h : ¬ a < (58 + if lp (gy N) = true then 1 else 0) * 16777216) (ha : a = pl N * 16777216) (hl : lp (gy N) = false) : 2 = adjG N := by
  unfold adjG b2
  rw [if_neg (by omega), hl]; rfl
theorem gm_end {N a k : Int} (l : k * (367 * 16777216) ≤ (a + adjG N * 16777216) * 12 + 373 * 16777216) (u : (a + adjG N * 16777216) * 12 + 373 * 16777216 < (k + 1) * (367 * 16777216)) (ha : a = pl N * 16777216) : k = gm N := by
  unfold gm; omega
theorem gd_end {N b k m : Int} (hm : m = gm N) (l : k * 16777216 ≤ b - (jdG (gy N) m 1 * 16777216 - 8388608)) (u : b - (jdG (gy N) m 1 * 16777216 - 8388608) < (k + 1) * 16777216) (hb : b = N * 16777216 - 8388608) : k + 1 = gd N := by
  subst hm; unfold gd; omega
end
-- C2
local macro_rules | `(tactic| walk_at "call ref") => `(tactic| ((with_reducible show wpAny _ _ (call (Value.ref 109) [Value.int _ _, Value.int _ _, Value.int _ _] _) _ _ _); k_dflt (refine' ct_use (C_legal _ _ _ _ _ _ _ ?l1 ?l2 ?l3 ?l4) ?k1 ?k2 ?k3 ?k4 ?k5 ?kK ?kd ?ku ?_; (case k1 => k_asm); (case k2 => k_asm); (case k3 => k_asm); (case k4 => k_asm); (case k5 => k_asm); (case kK => first | exact rfl | assumption); (case kd => ktr_room); (case ku => ktr_units); (case l1 => assumption); (case l2 => assumption); (case l3 => assumption); (case l4 => assumption)); intro v9 nw9 h9 tk9 hP9 F9 N9; k_dflt (obtain ⟨e9, e8⟩ := hP9; subst e9; subst e8); (try simp only [List.nil_append, List.cons_append] at N9); (try k_sweep); (try dsimp only); (try k_fold)))
theorem Bw.cast {x : UInt64} {a b c d : Int} (h : Bw x a b) (h1 : a = c) (h2 : b = d) : Bw x c d := by subst h1; subst h2; exact h
theorem C_to_jd (y m d : Int) (t1 t2 t3 : Tok) (news : List (Addr × Obj)) (hy : -600000 ≤ y ∧ y ≤ 600000) (h1 : 1 ≤ m) (h2 : m ≤ 12) (h3 : 1 ≤ d) (h4 : d ≤ dm (lp y) m) : Ct w p loose mean mg mb 123 6 [.int y t1, .int m t2, .int d t3] news (fun v nw => nw = [] ∧ ∃ x t, v = .float x t ∧ Bw x (jdG y m d * 16777216 - 8388608) (jdG y m d * 16777216 - 8388608)) := by
  have g0 : GTag (PySem.Str.ofString "legal_date_gregorian") := trivial
  have g1 : GTag (PySem.Str.ofString "isleap") := trivial
  have g2 : GTag (PySem.Str.ofString "EPOCH") := trivial
  have g3 : GTag (PySem.Str.ofString "YEAR_DAYS") := trivial
  have g4 : GTag (PySem.Str.ofString "floor") := trivial
  have g5 : GTag (PySem.Str.ofString "LEAP_CYCLE_YEARS") := trivial
  have g6 : GTag (PySem.Str.ofString "LEAP_SUPPRESSION_YEARS") := trivial
  have g7 : GTag (PySem.Str.ofString "INTERCALATION_CYCLE_YEARS") := trivial
  have h5 := (dm_facts h4).1
  have hA : -2 ≤ (if m ≤ 2 then 0 else adj (lp y)) ∧ (if m ≤ 2 then 0 else adj (lp y)) ≤ 0 := by unfold adj; cases lp y <;> split <;> simp
  have hJ : jdG y m d = fy y + ((367 * m - 362) / 12 + (if m ≤ 2 then 0 else adj (lp y))) + d - 1 := rfl
  have J : JTag 2 (PySem.Str.ofString "leap_adj") (if m ≤ 2 then 0 else adj (lp y)) := trivial
  walk_at "my in"; rename_i hret; walk_at "my enter"
  k_steps
  all_goals (try (refine hret _ [] _ _ ⟨rfl, _, _, rfl, ?_⟩ (by k_asm) (by k_asm)))
  all_goals (try (simp only [*, if_true, if_false, adj, Bool.false_eq_true]; done))
  all_goals (refine Bw.cast (by assumption) ?_ ?_ <;> simp only [hJ, fy] <;> generalize (if m ≤ 2 then 0 else adj (lp y)) = a9 at * <;> omega)
-- C3
theorem ct_mono {f : Addr} {d d' : Nat} {vs : List Value} {news : List (Addr × Obj)} {P P' : Value → List (Addr × Obj) → Prop} (C : Ct w p loose mean mg mb f d vs news P) (hd : d ≤ d') (h : ∀ v nw, P v nw → P' v nw) : Ct w p loose mean mg mb f d' vs news P' := by
  intro dp un gd cn cs a ccd cl outer A₀ base h₀ L m s Q E B F X N T hk h1 h2 ret
  exact C dp un gd cn cs a ccd cl outer A₀ base h₀ L m s Q E B F X N T hk (by omega) (by omega) fun v nw h' tk' hp => ret v nw h' tk' (h v nw hp)
theorem one_dm (w : Bool) (m : Int) : 1 ≤ dm w m := by unfold dm b2; cases w <;> simp <;> split <;> (try split) <;> omega
theorem jdG_11 (y : Int) : jdG y 1 1 = fy y := by unfold jdG dbm; simp
/-- the float of a day's midnight -/
def Mid (N : Int) (v : Value) (nw : List (Addr × Obj)) : Prop := nw = [] ∧ ∃ x t, v = .float x t ∧ Bw x (N * 16777216 - 8388608) (N * 16777216 - 8388608)
theorem C_to_jd_11 (y : Int) (t1 t2 t3 : Tok) (news : List (Addr × Obj)) (hy : -600000 ≤ y ∧ y ≤ 600000) : Ct w p loose mean mg mb 123 6 [.int y t1, .int 1 t2, .int 1 t3] news (fun v nw => nw = [] ∧ ∃ x t, v = .float x t ∧ Bw x (fy y * 16777216 - 8388608) (fy y * 16777216 - 8388608)) :=
  ct_mono (C_to_jd y 1 1 t1 t2 t3 news hy (by decide) (by decide) (by decide) (one_dm _ _)) (Nat.le_refl _) (by rw [jdG_11]; exact fun _ _ h => h)
theorem C_to_jd_m1 (y m : Int) (t1 t2 t3 : Tok) (news : List (Addr × Obj)) (hy : -600000 ≤ y ∧ y ≤ 600000) (hm : 1 ≤ m ∧ m ≤ 12) : Ct w p loose mean mg mb 123 6 [.int y t1, .int m t2, .int 1 t3] news (fun v nw => nw = [] ∧ ∃ x t, v = .float x t ∧ Bw x (jdG y m 1 * 16777216 - 8388608) (jdG y m 1 * 16777216 - 8388608) ∧ fy y ≤ jdG y m 1 ∧ jdG y m 1 ≤ fy y + 340) :=
  ct_mono (C_to_jd y m 1 t1 t2 t3 news hy hm.1 hm.2 (by decide) (one_dm _ _)) (Nat.le_refl _) fun _ _ h => by
    obtain ⟨h1, x, t, h2, h3⟩ := h
    have hj : fy y ≤ jdG y m 1 ∧ jdG y m 1 ≤ fy y + 340 := by unfold jdG dbm adj; split <;> (try split) <;> omega
    exact ⟨h1, x, t, h2, h3, hj⟩
local macro_rules | `(tactic| walk_at "call ref") => `(tactic| ((with_reducible show wpAny _ _ (call (Value.ref 123) [Value.int _ _, Value.int _ _, Value.int 1 _] _) _ _ _); k_dflt (refine' ct_use (C_to_jd_m1 _ _ _ _ _ _ ?l1 ?l2) ?k1 ?k2 ?k3 ?k4 ?k5 ?kK ?kd ?ku ?_; (case k1 => k_asm); (case k2 => k_asm); (case k3 => k_asm); (case k4 => k_asm); (case k5 => k_asm); (case kK => first | exact rfl | assumption); (case kd => ktr_room); (case ku => ktr_units); (case l1 => walk_at "my om"); (case l2 => walk_at "my om")); intro v9 nw9 h9 tk9 hP9 F9 N9; k_dflt (obtain ⟨e8, x9, t9, e9, B9, b9, c9⟩ := hP9; subst e9; subst e8); (try simp only [List.nil_append, List.cons_append] at N9); (try k_sweep); (try dsimp only); (try k_fold)))
local macro_rules | `(tactic| walk_at "call ref") => `(tactic| ((with_reducible show wpAny _ _ (call (Value.ref 123) [Value.int _ _, Value.int 1 _, Value.int 1 _] _) _ _ _); k_dflt (refine' ct_use (C_to_jd_11 _ _ _ _ _ ?l1) ?k1 ?k2 ?k3 ?k4 ?k5 ?kK ?kd ?ku ?_; (case k1 => k_asm); (case k2 => k_asm); (case k3 => k_asm); (case k4 => k_asm); (case k5 => k_asm); (case kK => first | exact rfl | assumption); (case kd => ktr_room); (case ku => ktr_units); (case l1 => walk_at "my om")); intro v9 nw9 h9 tk9 hP9 F9 N9; k_dflt (obtain ⟨e8, x9, t9, e9, B9⟩ := hP9; subst e9; subst e8); (try simp only [List.nil_append, List.cons_append] at N9); (try k_sweep); (try dsimp only); (try k_fold)))

/-- a new tuple of two ints; of three -/
def T2 (a b : Int) (v : Value) (nw : List (Addr × Obj)) : Prop :=
  ∃ (D : Addr) (t1 t2 : Tok), v = .ref D ∧ nw = [(D, { cls := .type "tuple", data := .seq [Value.int a t1, .int b t2].toArray })]
def T3 (a b c : Int) (v : Value) (nw : List (Addr × Obj)) : Prop :=
  ∃ (D : Addr) (t1 t2 t3 : Tok), v = .ref D ∧ nw = [(D, { cls := .type "tuple", data := .seq [Value.int a t1, .int b t2, .int c t3].toArray })]
theorem T2.mk {D : Addr} {t1 t2 : Tok} {a b a' b' : Int} (h1 : a = a') (h2 : b = b') :
    T2 a' b' (.ref D) [(D, ({ cls := .type "tuple", data := .seq [Value.int a t1, .int b t2].toArray } : Obj))] := by subst h1; subst h2; exact ⟨_, _, _, rfl, rfl⟩
theorem T3.mk {D : Addr} {t1 t2 t3 : Tok} {a b c a' b' c' : Int} (h1 : a = a') (h2 : b = b') (h3 : c = c') :
    T3 a' b' c' (.ref D) [(D, ({ cls := .type "tuple", data := .seq [Value.int a t1, .int b t2, .int c t3].toArray } : Obj))] := by subst h1; subst h2; subst h3; exact ⟨_, _, _, _, rfl, rfl⟩
/-- a day's number, and eighths of the day: the float -/
def F8 (N e : Int) : Int := N * 16777216 - 8388608 + e * 2097152
theorem C_from_jd (N e : Int) (x : UInt64) (t : Tok) (news : List (Addr × Obj)) (hN : -190000000 ≤ N ∧ N ≤ 190000000) (he : 0 ≤ e ∧ e < 8) (hx : Bw x (F8 N e) (F8 N e)) : Ct w p loose mean mg mb 130 10 [.float x t] news (T3 (gy N) (gm N) (gd N)) := by
  have g0 : GTag (PySem.Str.ofString "floor") := trivial
  have g1 : GTag (PySem.Str.ofString "EPOCH") := trivial
  have g2 : GTag (PySem.Str.ofString "INTERCALATION_CYCLE_DAYS") := trivial
  have g3 : GTag (PySem.Str.ofString "LEAP_SUPPRESSION_DAYS") := trivial
  have g4 : GTag (PySem.Str.ofString "LEAP_CYCLE_DAYS") := trivial
  have g5 : GTag (PySem.Str.ofString "YEAR_DAYS") := trivial
  have g6 : GTag (PySem.Str.ofString "INTERCALATION_CYCLE_YEARS") := trivial
  have g7 : GTag (PySem.Str.ofString "LEAP_SUPPRESSION_YEARS") := trivial
  have g8 : GTag (PySem.Str.ofString "LEAP_CYCLE_YEARS") := trivial
  have g9 : GTag (PySem.Str.ofString "to_jd_gregorian") := trivial
  have g10 : GTag (PySem.Str.ofString "isleap") := trivial
  have hG := gy_in N
  have hB := gy_bounds hN
  have hb := b2_01 (lp (gy N))
  have hf : N - fy (gy N) = pl N := rfl
  have hA : 0 ≤ adjG N ∧ adjG N ≤ 2 ∧ pl N + adjG N ≤ 366 := by unfold adjG adj; unfold b2 at *; cases hl : lp (gy N) <;> simp [hl] at hG ⊢ <;> split <;> omega
  unfold F8 at hx
  have J1 : JTag 1 (PySem.Str.ofString "year") (gy N) := trivial
  have J2 : JTag 2 (PySem.Str.ofString "leap_adj") (adjG N) := trivial
  walk_at "my in"; rename_i hret; walk_at "my enter"
  k_steps
  all_goals (first
    | exact adj_end0 (by assumption) (by omega)
    | exact adj_end1 (by assumption) (by omega) (by assumption)
    | exact adj_end2 (by assumption) (by omega) (by assumption)
    | exact gy_end (by assumption) (by assumption) (by assumption) (by assumption) (by assumption) (by assumption) (by assumption) (by assumption) (by omega) (by omega)
    | (have hm := gm_end (N := N) (by assumption) (by assumption) (by omega)
       exact hret _ [_] _ _ (T3.mk rfl hm (gd_end hm (by assumption) (by assumption) (by omega))) (by k_asm) (by k_asm)))
-- W3
section
variable {prog : Program} {w : World} {A : Around} {E : Value → Shared → Prop} {s : Shared} {Q : Value → Shared → Prop} {t u : Tok}
/-- floor(30.6001 * n), trunc(30.6 * n) -/
theorem w_floor_30a {x : UInt64} {n : Int} (hA : A.handled = none) (hx : Bw x (513384487 * n) (513384488 * n)) (hn : 4 ≤ n ∧ n ≤ 15)
    (h : ∀ tk, Q (.int (306001 * n / 10000) s.toks) { s with toks := tk }) : wpAny (model prog w) A (call (.builtin "math.floor") [.float x t]) Q E s := by
  have c : n = 4 ∨ n = 5 ∨ n = 6 ∨ n = 7 ∨ n = 8 ∨ n = 9 ∨ n = 10 ∨ n = 11 ∨ n = 12 ∨ n = 13 ∨ n = 14 ∨ n = 15 := by omega
  refine w_floor hA hx (by rcases c with rfl | rfl | rfl | rfl | rfl | rfl | rfl | rfl | rfl | rfl | rfl | rfl <;> decide) fun k tk h1 h2 => ?_
  have e : k = 306001 * n / 10000 := by rcases c with rfl | rfl | rfl | rfl | rfl | rfl | rfl | rfl | rfl | rfl | rfl | rfl <;> omega
  rw [e]; exact h tk
theorem mul_306 (n : Int) (hn : 4 ≤ n ∧ n ≤ 15) : Bw (Float64.mul 4629306351969474970 (Float64.ofInt n)) (153 * n / 5 * 16777216) ((153 * n / 5 + 1) * 16777216 - 1) := by
  have c : n = 4 ∨ n = 5 ∨ n = 6 ∨ n = 7 ∨ n = 8 ∨ n = 9 ∨ n = 10 ∨ n = 11 ∨ n = 12 ∨ n = 13 ∨ n = 14 ∨ n = 15 := by omega
  rcases c with rfl | rfl | rfl | rfl | rfl | rfl | rfl | rfl | rfl | rfl | rfl | rfl <;> exact bw_lit (by decide +kernel) (by decide +kernel)
theorem w_mul_306 {n : Int} (hA : A.handled = none) (hn : 4 ≤ n ∧ n ≤ 15)
    (h : ∀ z tk, Bw z (153 * n / 5 * 16777216) ((153 * n / 5 + 1) * 16777216 - 1) → Q (.float z s.toks) { s with toks := tk }) : wpAny (model prog w) A (binaryOp .Mult (.float 4629306351969474970 t) (.int n u)) Q E s :=
  mul_fi_sharp hA (fun hb => absurd hb (over_small (by omega))) fun _ => h _ _ (mul_306 n hn)
/-- n / 30.6001 -/
theorem w_div_30 {y : UInt64} {n : Int} (hA : A.handled = none) (hy : Bw y 513384487 513384488) (hn : 1 ≤ n ∧ n ≤ 1000)
    (h : ∀ z tk, Bw z (10000 * n / 306001 * 16777216) ((10000 * n / 306001 + 1) * 16777216 - 1) → Q (.float z s.toks) { s with toks := tk }) : wpAny (model prog w) A (binaryOp .Div (.int n u) (.float y t)) Q E s := by
  obtain ⟨sg, m, e, hd⟩ := hy.fin
  have hne : 10000 * n - 306001 * (10000 * n / 306001) ≠ 0 := by omega
  have hge : 10000 * n - 306001 * (10000 * n / 306001) ≥ 1 := by omega
  refine Flt.truediv_if hA (fun ho => absurd ho (Over_small (by omega))) (fun _ hz => ?_) fun _ _ => h _ _ (bw_div (ex_int (by omega)) hy (by decide) (by omega) (by omega) (by omega) (by omega) (by omega) (by omega))
  rw [isZero_val hd] at hz
  have h1 := of_decide_eq_true hz
  have h2 := hy.lo
  have h3 := G_pos
  rw [h1] at h2
  omega
/-- (n - 122.1) / 365.25 -/
theorem w_div_365 {x y : UInt64} {n : Int} (hA : A.handled = none) (hx : Bw x (n * 16777216 - 2048498074) (n * 16777216 - 2048498073)) (hy : Bw y 6127878144 6127878144) (hn : -300000000 ≤ n ∧ n ≤ 300000000)
    (h : ∀ z tk, Bw z ((20 * n - 2442) / 7305 * 16777216) (((20 * n - 2442) / 7305 + 1) * 16777216 - 1) → Q (.float z s.toks) { s with toks := tk }) : wpAny (model prog w) A (binaryOp .Div (.float x t) (.float y u)) Q E s := by
  obtain ⟨sg, m, e, hd⟩ := hy.fin
  refine truediv_float_or hA (fun hz => ?_) fun _ => h _ _ (bw_div hx hy (by decide) (by omega) (by omega) (by omega) (by omega) (by omega) (by omega))
  rw [isZero_val hd] at hz
  have h1 := of_decide_eq_true hz
  have h2 := hy.lo
  have h3 := G_pos
  rw [h1] at h2
  omega
theorem w_trunc_fd {x : UInt64} {a c : Int} (hA : A.handled = none) (hx : FD x a c) (hc : 0 < c) (hc2 : c ≤ 16777216) (ha : a % 16777216 = 0 ∧ 0 ≤ a)
    (h : ∀ k tk, k * (c * 16777216) ≤ a → a < (k + 1) * (c * 16777216) → Q (.int k s.toks) { s with toks := tk }) : wpAny (model prog w) A (call (.builtin "math.trunc") [.float x t]) Q E s := by
  have hb := hx.bw
  have hN : (a / 16777216) * 16777216 = a := by omega
  have hq0 := fd_lo (a := a / 16777216) hc
  have hq1 : a / 16777216 < (a / 16777216 / c + 1) * c := by
    have h1 := Int.mul_ediv_add_emod (a / 16777216) c
    have h2 := Int.emod_lt_of_pos (a / 16777216) hc
    rw [Int.add_mul, Int.one_mul, Int.mul_comm (a / 16777216 / c) c]
    omega
  have hlo : a / 16777216 / c * 16777216 ≤ a / c := by
    refine (Int.le_ediv_iff_mul_le hc).mpr ?_
    rw [Int.mul_right_comm]; omega
  have hhi : -((-a) / c) < (a / 16777216 / c + 1) * 16777216 := by
    have : -((a / 16777216 / c + 1) * 16777216) + 1 ≤ (-a) / c := by
      refine (Int.le_ediv_iff_mul_le hc).mpr ?_
      rw [Int.add_mul, Int.neg_mul, Int.one_mul, Int.mul_right_comm]
      omega
    omega
  have hk : a / c / 16777216 = a / 16777216 / c := by
    have := hb.le
    omega
  refine w_trunc hA hb (by rw [hk]; exact hhi) (Or.inl (Int.ediv_nonneg ha.2 (Int.le_of_lt hc))) fun k tk h1 h2 => h k tk ?_ ?_
  · have := (Int.le_ediv_iff_mul_le hc).mp h1
    rw [Int.mul_comm c, ← Int.mul_assoc]; exact this
  · have h3 : -((k + 1) * 16777216) + 1 ≤ (-a) / c := by omega
    have h4 := (Int.le_ediv_iff_mul_le hc).mp h3
    rw [Int.add_mul, Int.one_mul, Int.neg_mul] at h4
    rw [Int.mul_comm c, ← Int.mul_assoc]
    omega
end
local macro_rules | `(tactic| walk_at "call builtin:math.trunc") => `(tactic| ((with_reducible show wpAny _ _ (call _ [Value.float _ _]) _ _ _); with_reducible (refine' w_trunc_fd ?k0 ?k1 ?k2 ?k3 ?k4 ?_; (case k1 => assumption)); k_dflt ((case k0 => exact rfl); (case k2 => decide); (case k3 => decide); (case k4 => walk_at "my om")); intro k9 tk9 lo9 hi9; try dsimp only))
local macro_rules | `(tactic| walk_at "call builtin:math.floor") => `(tactic| ((with_reducible show wpAny _ _ (call _ [Value.float _ _]) _ _ _); with_reducible (refine' w_floor_30a ?k0 ?k1 ?k2 ?_; (case k1 => assumption)); k_dflt ((case k0 => exact rfl); (case k2 => walk_at "my om")); intro tk9; try dsimp only))
local macro_rules | `(tactic| walk_at "binaryOp Mult float int") => `(tactic| (with_reducible (refine' w_mul_306 ?k0 ?k2 ?_); k_dflt ((case k0 => exact rfl); (case k2 => walk_at "my om")); intro z9 tk9 B9; try dsimp only))
local macro_rules | `(tactic| walk_at "binaryOp Div int float") => `(tactic| (with_reducible (refine' w_div_30 ?k0 ?k1 ?k2 ?_); k_dflt ((case k0 => exact rfl); (case k1 => exact lit_30a); (case k2 => walk_at "my om")); intro z9 tk9 B9; try dsimp only))
local macro_rules | `(tactic| walk_at "binaryOp Div float float") => `(tactic| (with_reducible (refine' w_div_365 ?k0 ?k1 ?k2 ?k3 ?_; (case k1 => assumption)); k_dflt ((case k0 => exact rfl); (case k2 => exact lit_365); (case k3 => walk_at "my om")); intro z9 tk9 B9; try dsimp only))
-- Cal3
section
theorem q1461 (z : Int) : 1461 * z / 4 = 365 * z + z / 4 := by omega
theorem jdJ_end2 {y m d k : Int} (h0 : 1 ≤ m) (h1 : m ≤ 2) (l : k * 16777216 ≤ 6127878144 * (y - 1 + 4716)) (u : 6127878144 * (y - 1 + 4716) < (k + 1) * 16777216) :
    (k + 306001 * (m + 12 + 1) / 10000 + d) * 16777216 - 25576865792 = jdJ y m d * 16777216 - 8388608 := by
  have hk : k = 1461 * (y + 4715) / 4 := by omega
  rw [q1461] at hk
  unfold jdJ fj dbm
  rw [if_pos h1]
  have : m = 1 ∨ m = 2 := by omega
  rcases this with rfl | rfl <;> omega
theorem jdJ_end1 {y m d k : Int} (h0 : ¬ m ≤ 2) (h1 : m ≤ 12) (l : k * 16777216 ≤ 6127878144 * (y + 4716)) (u : 6127878144 * (y + 4716) < (k + 1) * 16777216) :
    (k + 306001 * (m + 1) / 10000 + d) * 16777216 - 25576865792 = jdJ y m d * 16777216 - 8388608 := by
  have hk : k = 1461 * (y + 4716) / 4 := by omega
  rw [q1461] at hk
  have hy4 : (y + 4716) / 4 = y / 4 + 1179 := by omega
  unfold jdJ fj dbm
  rw [if_neg h0]
  have hm : m = 3 ∨ m = 4 ∨ m = 5 ∨ m = 6 ∨ m = 7 ∨ m = 8 ∨ m = 9 ∨ m = 10 ∨ m = 11 ∨ m = 12 := by omega
  cases hl : lj y
  · have h4 : ¬ y % 4 = 0 := of_decide_eq_false hl
    have h5 : (y - 1) / 4 = y / 4 := by omega
    simp only [adj, Bool.false_eq_true, if_false]
    rcases hm with rfl | rfl | rfl | rfl | rfl | rfl | rfl | rfl | rfl | rfl <;> omega
  · have h4 : y % 4 = 0 := of_decide_eq_true hl
    have h5 : (y - 1) / 4 = y / 4 - 1 := by omega
    simp only [adj, if_true]
    rcases hm with rfl | rfl | rfl | rfl | rfl | rfl | rfl | rfl | rfl | rfl <;> omega
theorem jq_range (N : Int) : 123 ≤ jq N ∧ jq N ≤ 488 := by unfold jq jc; omega
theorem je_range (N : Int) : 4 ≤ je N ∧ je N ≤ 15 := by have := jq_range N; unfold je; omega
theorem j_end {N o a c q e y m d : Int} (ho : 0 ≤ o ∧ o < 8) (l0 : a * 16777216 ≤ N * 16777216 - 8388608 + o * 2097152 + 8388608) (u0 : N * 16777216 - 8388608 + o * 2097152 + 8388608 < (a + 1) * 16777216)
    (l1 : c * 16777216 ≤ (20 * (a + 1524) - 2442) / 7305 * 16777216) (u1 : ((20 * (a + 1524) - 2442) / 7305 + 1) * 16777216 - 1 < (c + 1) * 16777216)
    (l2 : q * 16777216 ≤ 6127878144 * c) (u2 : 6127878144 * c < (q + 1) * 16777216)
    (l3 : e * 16777216 ≤ 10000 * (a + 1524 - q) / 306001 * 16777216) (u3 : (10000 * (a + 1524 - q) / 306001 + 1) * 16777216 - 1 < (e + 1) * 16777216)
    (hy : e < 14 ∧ m = e - 1 ∧ y = c - 4716 ∨ ¬ e < 14 ∧ m = e - 13 ∧ y = c - 4715) (hd : d = a + 1524 - q - 306001 * e / 10000) : y = jy N ∧ m = jm N ∧ d = jdy N := by
  have ea : a = N := by omega
  subst ea
  have ec : c = jc a := by unfold jc; omega
  have eq : a + 1524 - q = jq a := by unfold jq; rw [← ec]; omega
  rw [eq] at l3 u3 hd
  have ee : e = je a := by unfold je; omega
  have hr := je_range a
  rw [← ee] at hr
  have em : m = jm a := by
    unfold jm; rw [← ee]
    rcases hy with ⟨h1, h2, _⟩ | ⟨h1, h2, _⟩
    · rw [if_pos h1, h2]
    · rw [if_neg h1, h2]
  refine ⟨?_, em, by unfold jdy; rw [← ee, hd]⟩
  unfold jy
  rw [← em, ← ec]
  rcases hy with ⟨h1, h2, h3⟩ | ⟨h1, h2, h3⟩
  · rw [if_pos (by omega), h3]
  · rw [if_neg (by omega), h3]
end
-- C4
theorem C_leap (y : Int) (b : Bool) (hb : lj y = b) (t : Tok) (news : List (Addr × Obj)) : Ct w p loose mean mg mb 138 1 [.int y t] news (fun v nw => v = .bool b ∧ nw = []) := by
  subst hb
  walk_at "my in"; rename_i hret; walk_at "my enter"
  k_steps
  all_goals (refine hret _ [] _ _ ⟨?_, rfl⟩ (by k_asm) (by k_asm); unfold lj; refine congrArg Value.bool ?_; rw [Bool.eq_iff_iff]; simp only [beq_iff_eq, decide_eq_true_eq])
local macro_rules | `(tactic| walk_at "call ref") => `(tactic| ((with_reducible show wpAny _ _ (call (Value.ref 138) [Value.int _ _] _) _ _ _); k_dflt (refine' ct_use (C_leap _ _ ?kb _ _) ?k1 ?k2 ?k3 ?k4 ?k5 ?kK ?kd ?ku ?_; (case k1 => k_asm); (case k2 => k_asm); (case k3 => k_asm); (case k4 => k_asm); (case k5 => k_asm); (case kK => first | exact rfl | assumption); (case kd => ktr_room); (case ku => ktr_units); (case kb => first | assumption | rfl)); intro v9 nw9 h9 tk9 hP9 F9 N9; k_dflt (obtain ⟨e9, e8⟩ := hP9; subst e9; subst e8); (try simp only [List.nil_append, List.cons_append] at N9); (try k_sweep); (try dsimp only); (try k_fold)))
theorem C_mlen (y m : Int) (t1 t2 : Tok) (news : List (Addr × Obj)) : Ct w p loose mean mg mb 145 2 [.int y t1, .int m t2] news (fun v nw => ∃ t, v = .int (dm (lj y) m) t ∧ nw = []) := by
  have g0 : GTag (PySem.Str.ofString "leap") := trivial
  have g1 : GTag (PySem.Str.ofString "HAVE_30_DAYS_julian") := trivial
  walk_at "my in"; rename_i hret; walk_at "my enter"
  k_steps
  all_goals (refine hret _ [] _ _ ⟨_, congrArg (Value.int · _) ?_, rfl⟩ (by k_asm) (by k_asm))
  all_goals (unfold dm b2; first | (simp [*]; done) | (simp [*]; omega))
local macro_rules | `(tactic| walk_at "call ref") => `(tactic| ((with_reducible show wpAny _ _ (call (Value.ref 145) [Value.int _ _, Value.int _ _] _) _ _ _); k_dflt (refine' ct_use (C_mlen _ _ _ _ _) ?k1 ?k2 ?k3 ?k4 ?k5 ?kK ?kd ?ku ?_; (case k1 => k_asm); (case k2 => k_asm); (case k3 => k_asm); (case k4 => k_asm); (case k5 => k_asm); (case kK => first | exact rfl | assumption); (case kd => ktr_room); (case ku => ktr_units)); intro v9 nw9 h9 tk9 hP9 F9 N9; k_dflt (obtain ⟨t9, e9, e8⟩ := hP9; subst e9; subst e8); (try simp only [List.nil_append, List.cons_append] at N9); (try k_sweep); (try dsimp only); (try k_fold)))
theorem C_legalJ (y m d : Int) (t1 t2 t3 : Tok) (news : List (Addr × Obj)) (h3 : 1 ≤ d) (h4 : d ≤ dm (lj y) m) : Ct w p loose mean mg mb 152 4 [.int y t1, .int m t2, .int d t3] news (fun v nw => v = .bool true ∧ nw = []) := by
  have g0 : GTag (PySem.Str.ofString "month_length") := trivial
  walk_at "my in"; rename_i hret; walk_at "my enter"
  k_steps
  all_goals (refine hret _ [] _ _ ⟨rfl, rfl⟩ (by k_asm) (by k_asm))
local macro_rules | `(tactic| walk_at "call ref") => `(tactic| ((with_reducible show wpAny _ _ (call (Value.ref 152) [Value.int _ _, Value.int _ _, Value.int _ _] _) _ _ _); k_dflt (refine' ct_use (C_legalJ _ _ _ _ _ _ _ ?l3 ?l4) ?k1 ?k2 ?k3 ?k4 ?k5 ?kK ?kd ?ku ?_; (case k1 => k_asm); (case k2 => k_asm); (case k3 => k_asm); (case k4 => k_asm); (case k5 => k_asm); (case kK => first | exact rfl | assumption); (case kd => ktr_room); (case ku => ktr_units); (case l3 => assumption); (case l4 => assumption)); intro v9 nw9 h9 tk9 hP9 F9 N9; k_dflt (obtain ⟨e9, e8⟩ := hP9; subst e9; subst e8); (try simp only [List.nil_append, List.cons_append] at N9); (try k_sweep); (try dsimp only); (try k_fold)))
theorem C_to_jdJ (y m d : Int) (t1 t2 t3 : Tok) (news : List (Addr × Obj)) (hy : -600000 ≤ y ∧ y ≤ 600000) (h1 : 1 ≤ m) (h2 : m ≤ 12) (h3 : 1 ≤ d) (h4 : d ≤ dm (lj y) m) : Ct w p loose mean mg mb 166 7 [.int y t1, .int m t2, .int d t3] news (Mid (jdJ y m d)) := by
  have g0 : GTag (PySem.Str.ofString "legal_date_julian") := trivial
  have g1 : GTag (PySem.Str.ofString "floor") := trivial
  have h5 := (dm_facts h4).1
  walk_at "my in"; rename_i hret; walk_at "my enter"
  k_steps
  all_goals (refine hret _ [] _ _ ⟨rfl, _, _, rfl, ?_⟩ (by k_asm) (by k_asm))
  all_goals (first
    | exact Bw.cast (by assumption) (jdJ_end2 h1 (by assumption) (by assumption) (by assumption)) (jdJ_end2 h1 (by assumption) (by assumption) (by assumption))
    | exact Bw.cast (by assumption) (jdJ_end1 (by assumption) h2 (by assumption) (by assumption)) (jdJ_end1 (by assumption) h2 (by assumption) (by assumption)))
theorem C_from_jdJ (N e : Int) (x : UInt64) (t : Tok) (news : List (Addr × Obj)) (hN : -190000000 ≤ N ∧ N ≤ 190000000) (he : 0 ≤ e ∧ e < 8) (hx : Bw x (F8 N e) (F8 N e)) : Ct w p loose mean mg mb 159 10 [.float x t] news (T3 (jy N) (jm N) (jdy N)) := by
  have g0 : GTag (PySem.Str.ofString "floor") := trivial
  unfold F8 at hx
  walk_at "my in"; rename_i hret; walk_at "my enter"
  k_steps
  all_goals (
    have hE := j_end he (by assumption) (by assumption) (by assumption) (by assumption) (by assumption) (by assumption) (by assumption) (by assumption) (by first | exact Or.inl ⟨by assumption, rfl, rfl⟩ | exact Or.inr ⟨by assumption, rfl, rfl⟩) rfl
    exact hret _ [_] _ _ (T3.mk hE.1 hE.2.1 hE.2.2) (by k_asm) (by k_asm))
-- Cal4
section
/-- what is so of a month and a place in it -/
theorem mo_in {w : Bool} {p : Int} (h0 : 0 ≤ p) (h1 : p < 365 + b2 w) : 1 ≤ mo w p ∧ mo w p ≤ 12 ∧ dbm w (mo w p) ≤ p ∧ p - dbm w (mo w p) + 1 ≤ dm w (mo w p) := by
  have hm : mo w p = 1 ∨ mo w p = 2 ∨ mo w p = 3 ∨ mo w p = 4 ∨ mo w p = 5 ∨ mo w p = 6 ∨ mo w p = 7 ∨ mo w p = 8 ∨ mo w p = 9 ∨ mo w p = 10 ∨ mo w p = 11 ∨ mo w p = 12 := by
    unfold mo adj b2 at *
    cases w <;> simp at * <;> split <;> omega
  have hv : mo w p = ((p + (if p < 58 + b2 w then 0 else -(adj w))) * 12 + 373) / 367 := rfl
  generalize mo w p = m at *
  cases w
  · simp only [b2, adj, dbm, dm, Bool.false_eq_true, if_false] at *
    rcases hm with rfl | rfl | rfl | rfl | rfl | rfl | rfl | rfl | rfl | rfl | rfl | rfl <;> simp at * <;> split at hv <;> omega
  · simp only [b2, adj, dbm, dm, if_true] at *
    rcases hm with rfl | rfl | rfl | rfl | rfl | rfl | rfl | rfl | rfl | rfl | rfl | rfl <;> simp at * <;> split at hv <;> omega
theorem gm_mo (N : Int) : gm N = mo (lp (gy N)) (pl N) := rfl
theorem gd_pl (N : Int) : gd N = pl N - dbm (lp (gy N)) (gm N) + 1 := by unfold gd jdG pl; omega
theorem G_ok (N : Int) : 1 ≤ gm N ∧ gm N ≤ 12 ∧ 1 ≤ gd N ∧ gd N ≤ dm (lp (gy N)) (gm N) := by
  have h := gy_in N
  have k := mo_in h.1 h.2
  rw [← gm_mo] at k
  rw [gd_pl]
  omega
theorem G_jd (N : Int) : jdG (gy N) (gm N) (gd N) = N := by unfold gd jdG; omega
theorem jdG_in (N : Int) : pl N = N - fy (gy N) := rfl
/-- the Julian year of a day -/
theorem J_eq {y p N : Int} (h : N = fj y + p) (h0 : 0 ≤ p) (h1 : p < 365 + b2 (lj y)) : jy N = y ∧ jm N = mo (lj y) p ∧ jdy N = p - dbm (lj y) (mo (lj y) p) + 1 := by
  have hk := mo_in h0 h1
  have hv : mo (lj y) p = ((p + (if p < 58 + b2 (lj y) then 0 else -(adj (lj y)))) * 12 + 373) / 367 := rfl
  generalize mo (lj y) p = m at *
  have hm : m = 1 ∨ m = 2 ∨ m = 3 ∨ m = 4 ∨ m = 5 ∨ m = 6 ∨ m = 7 ∨ m = 8 ∨ m = 9 ∨ m = 10 ∨ m = 11 ∨ m = 12 := by omega
  have hy : ∃ j r, y = 4 * j + r ∧ 0 ≤ r ∧ r ≤ 3 := ⟨y / 4, y % 4, by omega, by omega, by omega⟩
  obtain ⟨j, r, rfl, r0, r1⟩ := hy
  have hl : b2 (lj (4 * j + r)) = if r = 0 then 1 else 0 := by
    unfold lj b2
    by_cases hr : r = 0
    · rw [if_pos hr, decide_eq_true (by omega)]; rfl
    · rw [if_neg hr, decide_eq_false (by omega)]; rfl
  have ha : adj (lj (4 * j + r)) = if r = 0 then -1 else -2 := by
    unfold lj adj
    by_cases hr : r = 0
    · rw [if_pos hr, decide_eq_true (by omega)]; rfl
    · rw [if_neg hr, decide_eq_false (by omega)]; rfl
  have hd : dm (lj (4 * j + r)) m = if m = 2 then 28 + (if r = 0 then 1 else 0) else if m = 4 ∨ m = 6 ∨ m = 9 ∨ m = 11 then 30 else 31 := by unfold dm; rw [hl]
  have hb : dbm (lj (4 * j + r)) m = (367 * m - 362) / 12 + (if m ≤ 2 then 0 else if r = 0 then -1 else -2) := by unfold dbm; rw [ha]
  rw [hd, hb] at hk
  rw [hl] at h1 hv
  rw [ha] at hv
  rw [hb]
  have hf : fj (4 * j + r) = 1721424 + 365 * (4 * j + r - 1) + (if r = 0 then j - 1 else j) := by unfold fj; split <;> omega
  rw [hf] at h
  have hc : jc N = 4 * j + r + (if m ≤ 2 then 4715 else 4716) := by
    unfold jc
    have hrr : r = 0 ∨ r = 1 ∨ r = 2 ∨ r = 3 := by omega
    rcases hrr with rfl | rfl | rfl | rfl <;> simp at * <;> rcases hm with rfl | rfl | rfl | rfl | rfl | rfl | rfl | rfl | rfl | rfl | rfl | rfl <;> simp at * <;> omega
  have hq : jq N = N + 1524 - 1461 * jc N / 4 := rfl
  rw [hc, q1461] at hq
  have hE : je N = (if m ≤ 2 then m + 13 else m + 1) ∧ jdy N = p - ((367 * m - 362) / 12 + (if m ≤ 2 then 0 else if r = 0 then -1 else -2)) + 1 := by
    have he : je N = 10000 * jq N / 306001 := rfl
    unfold jdy
    have hrr : r = 0 ∨ r = 1 ∨ r = 2 ∨ r = 3 := by omega
    rcases hrr with rfl | rfl | rfl | rfl <;> simp at * <;> rcases hm with rfl | rfl | rfl | rfl | rfl | rfl | rfl | rfl | rfl | rfl | rfl | rfl <;> simp at * <;> omega
  have hM : jm N = m := by
    unfold jm
    rw [hE.1]
    split <;> split <;> omega
  refine ⟨?_, hM, hE.2⟩
  unfold jy
  rw [hM, hc]
  split <;> split <;> omega
theorem fj_next (y : Int) : fj (y + 1) = fj y + 365 + b2 (lj y) := by
  unfold fj lj b2
  by_cases h : y % 4 = 0
  · rw [decide_eq_true h, if_pos rfl]; omega
  · rw [decide_eq_false h, if_neg (by decide)]; omega
theorem J_in (N : Int) : ∃ y p, N = fj y + p ∧ 0 ≤ p ∧ p < 365 + b2 (lj y) := by
  have ex : ∃ y, fj y ≤ N ∧ N < fj (y + 1) := by
    refine ⟨(4 * (N - 1721424) + 3) / 1461 + 1, ?_, ?_⟩ <;> unfold fj <;> omega
  obtain ⟨y, h1, h2⟩ := ex
  rw [fj_next] at h2
  exact ⟨y, N - fj y, by omega, by omega, by omega⟩
theorem J_ok (N : Int) : 1 ≤ jm N ∧ jm N ≤ 12 ∧ 1 ≤ jdy N ∧ jdy N ≤ dm (lj (jy N)) (jm N) ∧ jdJ (jy N) (jm N) (jdy N) = N := by
  obtain ⟨y, p, h, h0, h1⟩ := J_in N
  have e := J_eq h h0 h1
  have k := mo_in h0 h1
  rw [e.1, e.2.1, e.2.2]
  refine ⟨k.1, k.2.1, by omega, by omega, ?_⟩
  unfold jdJ; omega
theorem J_bounds {N : Int} (h : -190000000 ≤ N ∧ N ≤ 190000000) : -600000 ≤ jy N ∧ jy N ≤ 600000 := by
  obtain ⟨y, p, h, h0, h1⟩ := J_in N
  have e := J_eq h h0 h1
  have := b2_01 (lj y)
  rw [e.1]
  unfold fj at h
  omega
theorem ord_end1 {y m d k : Int} (h0 : 1 ≤ m) (h1 : m + 1 ≤ 3) (l : k * 16777216 ≤ 153 * (m + 1 + 12) / 5 * 16777216) (u : (153 * (m + 1 + 12) / 5 + 1) * 16777216 - 1 < (k + 1) * 16777216) :
    (((k + d - 122 + 59 + if lp y = true then 1 else 0) - 365 - if lp y = true then 1 else 0) : Int) = dbm (lp y) m + d := by
  have hm : m = 1 ∨ m = 2 := by omega
  unfold dbm
  rcases hm with rfl | rfl <;> simp at * <;> omega
theorem ord_end2 {y m d k : Int} (h0 : ¬ m + 1 ≤ 3) (h1 : m ≤ 12) (l : k * 16777216 ≤ 153 * (m + 1) / 5 * 16777216) (u : (153 * (m + 1) / 5 + 1) * 16777216 - 1 < (k + 1) * 16777216) :
    ((k + d - 122 + 59 + if lp y = true then 1 else 0) : Int) = dbm (lp y) m + d := by
  have hm : m = 3 ∨ m = 4 ∨ m = 5 ∨ m = 6 ∨ m = 7 ∨ m = 8 ∨ m = 9 ∨ m = 10 ∨ m = 11 ∨ m = 12 := by omega
  unfold dbm adj
  rcases hm with rfl | rfl | rfl | rfl | rfl | rfl | rfl | rfl | rfl | rfl <;> cases lp y <;> simp at * <;> omega
-- weeks
def wd (N : Int) : Int := (N - 2451547) % 7
def th (N : Int) : Int := N - wd N + 3
def iy (N : Int) : Int := gy (th N)
def iw (N : Int) : Int := (th N - fy (iy N)) / 7 + 1
def idy (N : Int) : Int := wd N + 1
theorem iso_back (N : Int) : idy N + 7 * iw N + (fy (iy N) - 4) - 1 - (fy (iy N) - 4) % 7 = N := by
  unfold idy iw th wd; omega
theorem iso_ok (N : Int) : 1 ≤ idy N ∧ idy N ≤ 7 ∧ 1 ≤ iw N ∧ iw N ≤ 53 := by
  have h := gy_in (th N)
  have := b2_01 (lp (gy (th N)))
  unfold pl at h
  have e : iy N = gy (th N) := rfl
  rw [← e] at h this
  unfold idy iw
  have : 0 ≤ wd N ∧ wd N < 7 := by unfold wd; omega
  omega
theorem iso_bounds {N : Int} (h : -190000000 ≤ N ∧ N ≤ 190000000) : (-590000 ≤ iy N ∧ iy N ≤ 590000) ∧ (-190000400 ≤ fy (iy N) ∧ fy (iy N) ≤ 190000400) := by
  have h1 := gy_in (th N)
  have h2 := b2_01 (lp (gy (th N)))
  have e : iy N = gy (th N) := rfl
  rw [← e] at h1 h2
  have h3 : -190000003 ≤ th N ∧ th N ≤ 190000003 := by unfold th wd; omega
  unfold pl at h1
  rw [← e] at h1
  refine ⟨?_, by omega⟩
  unfold fy at h1
  omega
end
-- C5
theorem C_to_jd_N (N : Int) (t1 t2 t3 : Tok) (news : List (Addr × Obj)) (hN : -190000000 ≤ N ∧ N ≤ 190000000) : Ct w p loose mean mg mb 123 6 [.int (gy N) t1, .int (gm N) t2, .int (gd N) t3] news (Mid N) :=
  have h := G_ok N
  ct_mono (C_to_jd (gy N) (gm N) (gd N) t1 t2 t3 news (gy_bounds hN) h.1 h.2.1 h.2.2.1 h.2.2.2) (Nat.le_refl _) (by rw [G_jd]; exact fun _ _ h => h)
theorem C_to_jd_1228 (y : Int) (t1 t2 t3 : Tok) (news : List (Addr × Obj)) (hy : -599999 ≤ y ∧ y ≤ 600000) : Ct w p loose mean mg mb 123 6 [.int (y - 1) t1, .int 12 t2, .int 28 t3] news (Mid (fy y - 4)) :=
  ct_mono (C_to_jd (y - 1) 12 28 t1 t2 t3 news (by omega) (by decide) (by decide) (by decide) (by unfold dm; simp)) (Nat.le_refl _) (by
    have e : jdG (y - 1) 12 28 = fy y - 4 := by
      have h := fy_next (y - 1)
      have e1 : y - 1 + 1 = y := by omega
      rw [e1] at h
      unfold jdG dbm adj
      unfold b2 at h
      cases hl : lp (y - 1) <;> rw [hl] at h <;> simp at h ⊢ <;> omega
    rw [e]; exact fun _ _ h => h)
theorem C_to_jdJ_N (N : Int) (t1 t2 t3 : Tok) (news : List (Addr × Obj)) (hN : -190000000 ≤ N ∧ N ≤ 190000000) : Ct w p loose mean mg mb 166 7 [.int (jy N) t1, .int (jm N) t2, .int (jdy N) t3] news (Mid N) :=
  have h := J_ok N
  ct_mono (C_to_jdJ (jy N) (jm N) (jdy N) t1 t2 t3 news (J_bounds hN) h.1 h.2.1 h.2.2.1 h.2.2.2.1) (Nat.le_refl _) (by rw [h.2.2.2.2]; exact fun _ _ h => h)
/-- a float that is a day's midnight -/
theorem C_from_jd_M (N : Int) (x : UInt64) (t : Tok) (news : List (Addr × Obj)) (hx : Bw x (N * 16777216 - 8388608) (N * 16777216 - 8388608)) (hN : -190000000 ≤ N ∧ N ≤ 190000000) : Ct w p loose mean mg mb 130 10 [.float x t] news (T3 (gy N) (gm N) (gd N)) :=
  C_from_jd N 0 x t news hN (by decide) (Bw.cast hx (by unfold F8; omega) (by unfold F8; omega))
theorem C_from_jdJ_M (N : Int) (x : UInt64) (t : Tok) (news : List (Addr × Obj)) (hx : Bw x (N * 16777216 - 8388608) (N * 16777216 - 8388608)) (hN : -190000000 ≤ N ∧ N ≤ 190000000) : Ct w p loose mean mg mb 159 10 [.float x t] news (T3 (jy N) (jm N) (jdy N)) :=
  C_from_jdJ N 0 x t news hN (by decide) (Bw.cast hx (by unfold F8; omega) (by unfold F8; omega))
/-- a float of the day and the part at hand -/
def NTag (_N _e : Int) : Prop := True
theorem C_from_jd_T (N e : Int) (x : UInt64) (a : Int) (t : Tok) (news : List (Addr × Obj)) (_tag : NTag N e) (hx : Bw x a a) (hN : -190000000 ≤ N ∧ N ≤ 190000000) (he : 0 ≤ e ∧ e < 8) (ha : a = N * 16777216 - 8388608 + e * 2097152) : Ct w p loose mean mg mb 130 10 [.float x t] news (T3 (gy N) (gm N) (gd N)) :=
  C_from_jd N e x t news hN he (Bw.cast hx (by unfold F8; omega) (by unfold F8; omega))
theorem C_from_jdJ_T (N e : Int) (x : UInt64) (a : Int) (t : Tok) (news : List (Addr × Obj)) (_tag : NTag N e) (hx : Bw x a a) (hN : -190000000 ≤ N ∧ N ≤ 190000000) (he : 0 ≤ e ∧ e < 8) (ha : a = N * 16777216 - 8388608 + e * 2097152) : Ct w p loose mean mg mb 159 10 [.float x t] news (T3 (jy N) (jm N) (jdy N)) :=
  C_from_jdJ N e x t news hN he (Bw.cast hx (by unfold F8; omega) (by unfold F8; omega))
local macro_rules | `(tactic| walk_at "call ref") => `(tactic| ((with_reducible show wpAny _ _ (call (Value.ref 123) [Value.int (_ - 1) _, Value.int 12 _, Value.int 28 _] _) _ _ _); k_dflt (refine' ct_use (C_to_jd_1228 _ _ _ _ _ ?l1) ?k1 ?k2 ?k3 ?k4 ?k5 ?kK ?kd ?ku ?_; (case k1 => k_asm); (case k2 => k_asm); (case k3 => k_asm); (case k4 => k_asm); (case k5 => k_asm); (case kK => first | exact rfl | assumption); (case kd => ktr_room); (case ku => ktr_units); (case l1 => walk_at "my om")); intro v9 nw9 h9 tk9 hP9 F9 N9; k_dflt (obtain ⟨e8, x9, t9, e9, B9⟩ := hP9; subst e9; subst e8); (try simp only [List.nil_append, List.cons_append] at N9); (try k_sweep); (try dsimp only); (try k_fold)))
local macro_rules | `(tactic| walk_at "call ref") => `(tactic| ((with_reducible show wpAny _ _ (call (Value.ref 123) [Value.int (gy _) _, Value.int (gm _) _, Value.int (gd _) _] _) _ _ _); k_dflt (refine' ct_use (C_to_jd_N _ _ _ _ _ ?l1) ?k1 ?k2 ?k3 ?k4 ?k5 ?kK ?kd ?ku ?_; (case k1 => k_asm); (case k2 => k_asm); (case k3 => k_asm); (case k4 => k_asm); (case k5 => k_asm); (case kK => first | exact rfl | assumption); (case kd => ktr_room); (case ku => ktr_units); (case l1 => walk_at "my om")); intro v9 nw9 h9 tk9 hP9 F9 N9; k_dflt (obtain ⟨e8, x9, t9, e9, B9⟩ := hP9; subst e9; subst e8); (try simp only [List.nil_append, List.cons_append] at N9); (try k_sweep); (try dsimp only); (try k_fold)))
local macro_rules | `(tactic| walk_at "call ref") => `(tactic| ((with_reducible show wpAny _ _ (call (Value.ref 166) [Value.int (jy _) _, Value.int (jm _) _, Value.int (jdy _) _] _) _ _ _); k_dflt (refine' ct_use (C_to_jdJ_N _ _ _ _ _ ?l1) ?k1 ?k2 ?k3 ?k4 ?k5 ?kK ?kd ?ku ?_; (case k1 => k_asm); (case k2 => k_asm); (case k3 => k_asm); (case k4 => k_asm); (case k5 => k_asm); (case kK => first | exact rfl | assumption); (case kd => ktr_room); (case ku => ktr_units); (case l1 => walk_at "my om")); intro v9 nw9 h9 tk9 hP9 F9 N9; k_dflt (obtain ⟨e8, x9, t9, e9, B9⟩ := hP9; subst e9; subst e8); (try simp only [List.nil_append, List.cons_append] at N9); (try k_sweep); (try dsimp only); (try k_fold)))
local macro_rules | `(tactic| walk_at "call ref") => `(tactic| ((with_reducible show wpAny _ _ (call (Value.ref 130) [Value.float _ _] _) _ _ _); k_dflt (refine' ct_use (C_from_jd_T _ _ _ _ _ _ ?l0 ?l1 ?l2 ?l3 ?l4) ?k1 ?k2 ?k3 ?k4 ?k5 ?kK ?kd ?ku ?_; (case k1 => k_asm); (case k2 => k_asm); (case k3 => k_asm); (case k4 => k_asm); (case k5 => k_asm); (case kK => first | exact rfl | assumption); (case kd => ktr_room); (case ku => ktr_units); (case l0 => assumption); (case l1 => with_reducible assumption); (case l2 => walk_at "my om"); (case l3 => walk_at "my om"); (case l4 => walk_at "my om")); intro v9 nw9 h9 tk9 hP9 F9 N9; k_dflt (obtain ⟨D9, t9, u9, v9, e9, e8⟩ := hP9; subst e9; subst e8); (try simp only [List.nil_append, List.cons_append] at N9); (try k_sweep); (try dsimp only); (try k_fold)))
local macro_rules | `(tactic| walk_at "call ref") => `(tactic| ((with_reducible show wpAny _ _ (call (Value.ref 130) [Value.float _ _] _) _ _ _); k_dflt (refine' ct_use (C_from_jd_M _ _ _ _ ?l1 ?l2) ?k1 ?k2 ?k3 ?k4 ?k5 ?kK ?kd ?ku ?_; (case k1 => k_asm); (case k2 => k_asm); (case k3 => k_asm); (case k4 => k_asm); (case k5 => k_asm); (case kK => first | exact rfl | assumption); (case kd => ktr_room); (case ku => ktr_units); (case l1 => with_reducible assumption); (case l2 => walk_at "my om")); intro v9 nw9 h9 tk9 hP9 F9 N9; k_dflt (obtain ⟨D9, t9, u9, v9, e9, e8⟩ := hP9; subst e9; subst e8); (try simp only [List.nil_append, List.cons_append] at N9); (try k_sweep); (try dsimp only); (try k_fold)))
local macro_rules | `(tactic| walk_at "call ref") => `(tactic| ((with_reducible show wpAny _ _ (call (Value.ref 159) [Value.float _ _] _) _ _ _); k_dflt (refine' ct_use (C_from_jdJ_T _ _ _ _ _ _ ?l0 ?l1 ?l2 ?l3 ?l4) ?k1 ?k2 ?k3 ?k4 ?k5 ?kK ?kd ?ku ?_; (case k1 => k_asm); (case k2 => k_asm); (case k3 => k_asm); (case k4 => k_asm); (case k5 => k_asm); (case kK => first | exact rfl | assumption); (case kd => ktr_room); (case ku => ktr_units); (case l0 => assumption); (case l1 => with_reducible assumption); (case l2 => walk_at "my om"); (case l3 => walk_at "my om"); (case l4 => walk_at "my om")); intro v9 nw9 h9 tk9 hP9 F9 N9; k_dflt (obtain ⟨D9, t9, u9, v9, e9, e8⟩ := hP9; subst e9; subst e8); (try simp only [List.nil_append, List.cons_append] at N9); (try k_sweep); (try dsimp only); (try k_fold)))
local macro_rules | `(tactic| walk_at "call ref") => `(tactic| ((with_reducible show wpAny _ _ (call (Value.ref 159) [Value.float _ _] _) _ _ _); k_dflt (refine' ct_use (C_from_jdJ_M _ _ _ _ ?l1 ?l2) ?k1 ?k2 ?k3 ?k4 ?k5 ?kK ?kd ?ku ?_; (case k1 => k_asm); (case k2 => k_asm); (case k3 => k_asm); (case k4 => k_asm); (case k5 => k_asm); (case kK => first | exact rfl | assumption); (case kd => ktr_room); (case ku => ktr_units); (case l1 => with_reducible assumption); (case l2 => walk_at "my om")); intro v9 nw9 h9 tk9 hP9 F9 N9; k_dflt (obtain ⟨D9, t9, u9, v9, e9, e8⟩ := hP9; subst e9; subst e8); (try simp only [List.nil_append, List.cons_append] at N9); (try k_sweep); (try dsimp only); (try k_fold)))
theorem C_to_jdO (y d : Int) (t1 t2 : Tok) (news : List (Addr × Obj)) (hy : -600000 ≤ y ∧ y ≤ 600000) (hd : 0 ≤ d ∧ d ≤ 400) : Ct w p loose mean mg mb 306 8 [.int y t1, .int d t2] news (Mid (fy y + d - 1)) := by
  have g0 : GTag (PySem.Str.ofString "to_jd_gregorian") := trivial
  have hf : -300000000 ≤ fy y ∧ fy y ≤ 300000000 := by unfold fy; omega
  walk_at "my in"; rename_i hret; walk_at "my enter"
  k_steps
  all_goals (exact hret _ [] _ _ ⟨rfl, _, _, rfl, Bw.cast (by assumption) (by omega) (by omega)⟩ (by k_asm) (by k_asm))
theorem C_from_gO (y m d : Int) (t1 t2 t3 : Tok) (news : List (Addr × Obj)) (hm : 1 ≤ m ∧ m ≤ 12) (hd : 1 ≤ d ∧ d ≤ dm (lp y) m) : Ct w p loose mean mg mb 320 4 [.int y t1, .int m t2, .int d t3] news (T2 y (dbm (lp y) m + d)) := by
  have g0 : GTag (PySem.Str.ofString "isleap") := trivial
  have g1 : GTag (PySem.Str.ofString "trunc") := trivial
  have h5 := (dm_facts hd.2).1
  walk_at "my in"; rename_i hret; walk_at "my enter"
  k_steps
  all_goals (refine hret _ [_] _ _ (T2.mk rfl ?_) (by k_asm) (by k_asm))
  all_goals (first | exact ord_end1 hm.1 (by assumption) (by assumption) (by assumption) | exact ord_end2 (by assumption) hm.2 (by assumption) (by assumption))
local macro_rules | `(tactic| walk_at "call ref") => `(tactic| ((with_reducible show wpAny _ _ (call (Value.ref 320) [Value.int _ _, Value.int _ _, Value.int 1 _] _) _ _ _); k_dflt (refine' ct_use (C_from_gO _ _ _ _ _ _ _ ?l1 ?l2) ?k1 ?k2 ?k3 ?k4 ?k5 ?kK ?kd ?ku ?_; (case k1 => k_asm); (case k2 => k_asm); (case k3 => k_asm); (case k4 => k_asm); (case k5 => k_asm); (case kK => first | exact rfl | assumption); (case kd => ktr_room); (case ku => ktr_units); (case l1 => walk_at "my om"); (case l2 => exact ⟨by decide, one_dm _ _⟩)); intro v9 nw9 h9 tk9 hP9 F9 N9; k_dflt (obtain ⟨D9, t9, u9, e9, e8⟩ := hP9; subst e9; subst e8); (try simp only [List.nil_append, List.cons_append] at N9); (try k_sweep); (try dsimp only); (try k_fold)))
-- C6
section
variable {w : World} {p : Program} {loose : List Str} {mean : ExcName → Option Value} {mg mb : Str → Option Value}
theorem News.two {h₀ h : Heap} {L : Addr} {x y : Addr × Obj} {news : List (Addr × Obj)} (N : News h₀ L h (x :: y :: news)) : News h₀ L h ([x] ++ news) := fun p hp => N p (by
  rcases List.mem_cons.mp hp with rfl | hp
  · exact List.mem_cons_self
  · exact List.mem_cons_of_mem _ (List.mem_cons_of_mem _ hp))
theorem gm_end2 {N k : Int} (l : k * (367 * 16777216) ≤ ((pl N + 1 - 1 + adjG N) * 12 + 373) * 16777216) (u : ((pl N + 1 - 1 + adjG N) * 12 + 373) * 16777216 < (k + 1) * (367 * 16777216)) : k = gm N := by unfold gm; omega
theorem C_from_gO_N (N : Int) (t1 t2 t3 : Tok) (news : List (Addr × Obj)) : Ct w p loose mean mg mb 320 4 [.int (gy N) t1, .int (gm N) t2, .int (gd N) t3] news (T2 (gy N) (pl N + 1)) :=
  have h := G_ok N
  ct_mono (C_from_gO (gy N) (gm N) (gd N) t1 t2 t3 news ⟨h.1, h.2.1⟩ ⟨h.2.2.1, h.2.2.2⟩) (Nat.le_refl _) (by
    have e : dbm (lp (gy N)) (gm N) + gd N = pl N + 1 := by rw [gd_pl]; omega
    rw [e]; exact fun _ _ h => h)
theorem C_to_jdO_N (N : Int) (t1 t2 : Tok) (news : List (Addr × Obj)) (hN : -190000000 ≤ N ∧ N ≤ 190000000) : Ct w p loose mean mg mb 306 8 [.int (gy N) t1, .int (pl N + 1) t2] news (Mid N) :=
  have h := gy_in N
  have hb := b2_01 (lp (gy N))
  ct_mono (C_to_jdO (gy N) (pl N + 1) t1 t2 news (gy_bounds hN) (by omega)) (Nat.le_refl _) (by
    have e : fy (gy N) + (pl N + 1) - 1 = N := by unfold pl; omega
    rw [e]; exact fun _ _ h => h)
theorem C_from_jdO (N e : Int) (x : UInt64) (a : Int) (t : Tok) (news : List (Addr × Obj)) (tag : NTag N e) (hx : Bw x a a) (hN : -190000000 ≤ N ∧ N ≤ 190000000) (he : 0 ≤ e ∧ e < 8) (ha : a = N * 16777216 - 8388608 + e * 2097152) :
    Ct w p loose mean mg mb 313 12 [.float x t] news (T2 (gy N) (pl N + 1)) := by
  have g0 : GTag (PySem.Str.ofString "from_jd_gregorian") := trivial
  have g1 : GTag (PySem.Str.ofString "to_jd_gregorian") := trivial
  have hB := gy_bounds hN
  have hf : N - fy (gy N) = pl N := rfl
  have hG := gy_in N
  have hb := b2_01 (lp (gy N))
  walk_at "my in"; rename_i hret; walk_at "my enter"
  k_steps
  all_goals (refine' hret _ [_] _ _ (T2.mk ?h1 ?h2) ?kF (News.two ?kN); (case kF => k_asm); (case kN => assumption); (case h1 => rfl); (case h2 => omega))
theorem C_to_gO (N : Int) (t1 t2 : Tok) (news : List (Addr × Obj)) : Ct w p loose mean mg mb 327 8 [.int (gy N) t1, .int (pl N + 1) t2] news (T3 (gy N) (gm N) (gd N)) := by
  have g0 : GTag (PySem.Str.ofString "isleap") := trivial
  have g1 : GTag (PySem.Str.ofString "trunc") := trivial
  have g2 : GTag (PySem.Str.ofString "from_gregorian_ordinal") := trivial
  have hG := gy_in N
  have hb := b2_01 (lp (gy N))
  have hA : 0 ≤ adjG N ∧ adjG N ≤ 2 ∧ pl N + adjG N ≤ 366 := by unfold adjG adj; unfold b2 at *; cases hl : lp (gy N) <;> simp [hl] at hG ⊢ <;> split <;> omega
  have J2 : JTag 2 (PySem.Str.ofString "leap_adj") (adjG N) := trivial
  walk_at "my in"; rename_i hret; walk_at "my enter"
  k_steps
  all_goals (first
    | exact adj_end0 (a := pl N * 16777216) (by omega) (by omega)
    | exact adj_end1 (a := pl N * 16777216) (by omega) (by omega) (by assumption)
    | exact adj_end2 (a := pl N * 16777216) (by omega) (by omega) (by assumption)
    | (refine' hret _ [_] _ _ (T3.mk ?h1 ?h2 ?h3) ?kF (News.two ?kN); (case kF => k_asm); (case kN => assumption); (case h1 => rfl)
       (case h2 => unfold gm; omega)
       (case h3 => rw [gd_pl]; have hk := gm_end2 (N := N) (by assumption) (by assumption); rw [← hk]; omega)))
theorem C_to_jdI (N : Int) (t1 t2 t3 : Tok) (news : List (Addr × Obj)) (hN : -190000000 ≤ N ∧ N ≤ 190000000) : Ct w p loose mean mg mb 250 14 [.int (iy N) t1, .int (iw N) t2, .int (idy N) t3] news (Mid N) := by
  have g0 : GTag (PySem.Str.ofString "SUN") := trivial
  have g1 : GTag (PySem.Str.ofString "n_weeks") := trivial
  have g2 : GTag (PySem.Str.ofString "to_jd_gregorian") := trivial
  have g3 : GTag (PySem.Str.ofString "previous_weekday") := trivial
  have g4 : GTag (PySem.Str.ofString "next_weekday") := trivial
  have g5 : GTag (PySem.Str.ofString "search_weekday") := trivial
  have g6 : GTag (PySem.Str.ofString "weekday_before") := trivial
  have g7 : GTag (PySem.Str.ofString "jwday") := trivial
  have g8 : GTag (PySem.Str.ofString "trunc") := trivial
  have hB := gy_bounds hN
  have hi := iso_ok N
  have hb := iso_back N
  have hf := (iso_bounds hN).2
  have hy := (iso_bounds hN).1
  walk_at "my in"; rename_i hret; walk_at "my enter"
  k_steps
  all_goals (exact hret _ [] _ _ ⟨rfl, _, _, rfl, Bw.cast (by assumption) (by omega) (by omega)⟩ (by k_asm) (by k_asm))
end
-- W4
/-- a while that turns two names' ints: the word, the measure -/
def WTag (_k : Nat) (_x _y : Str) (_P : Int → Int → Prop) (_μ : Int → Int → Nat) : Prop := True
def WTurn (h₀ : Heap) (L : Addr) (s : Shared) (m₀ : Str → Option Value) (news : List (Addr × Obj)) (x y : Str) (P : Int → Int → Prop) (μ : Int → Int → Nat) (a b : Int) (Q : Flow → Shared → Prop) (f : Flow) (s₂ : Shared) : Prop :=
  match f with
  | .ret v => Q (.ret v) s₂
  | .brk => Q .next s₂
  | _ => ∃ (a' b' : Int) (t' u' tk : Tok) (h' : Heap) (m' : Str → Option Value) (news' : List (Addr × Obj)), s₂ = { s with heap := h', toks := tk } ∧ Fr h₀ L h' m' ∧ News h₀ L h' news' ∧ (∀ p ∈ news, p ∈ news') ∧ m' x = some (.int a' t') ∧ m' y = some (.int b' u') ∧ (∀ z, z ≠ x → z ≠ y → m' z = m₀ z) ∧ P a' b' ∧ μ a' b' < μ a b
section
variable {prog : Program} {w : World} {A : Around} {E : Value → Shared → Prop} {Q : Flow → Shared → Prop} {s : Shared} {env : Env} {h₀ : Heap} {L : Addr} {m₀ : Str → Option Value} {news news' : List (Addr × Obj)}
theorem wturn_end {x y : Str} {P : Int → Int → Prop} {μ : Int → Int → Nat} {a b a' b' : Int} {t' u' tk : Tok} {h' : Heap} {m' : Str → Option Value}
    (F : Fr h₀ L h' m') (N : News h₀ L h' news') (hn : ∀ p ∈ news, p ∈ news') (hx : m' x = some (.int a' t')) (hy : m' y = some (.int b' u')) (hz : ∀ z, z ≠ x → z ≠ y → m' z = m₀ z) (hp : P a' b' ∧ μ a' b' < μ a b) :
    WTurn h₀ L s m₀ news x y P μ a b Q .next { s with heap := h', toks := tk } := ⟨a', b', t', u', tk, h', m', news', rfl, F, N, hn, hx, hy, hz, hp.1, hp.2⟩
theorem while2 {k : Nat} {x y : Str} {P : Int → Int → Prop} {μ : Int → Int → Nat} {test : Expr} {body : List Stmt} {pos : Pos} {a₀ b₀ : Int} {t₀ u₀ : Tok} (_tag : WTag k x y P μ) (hxy : y ≠ x)
    (F : Fr h₀ L s.heap m₀) (N : News h₀ L s.heap news) (hx : m₀ x = some (.int a₀ t₀)) (hy : m₀ y = some (.int b₀ u₀)) (hp : P a₀ b₀)
    (turn : ∀ (a b : Int) (t u tk : Tok) (h : Heap), P a b → Fr h₀ L h (fun z => if z = y then some (.int b u) else if z = x then some (.int a t) else m₀ z) → News h₀ L h news →
      wpAny (model prog w) A (isTrue test env (eval test env)) (fun bb s₂ =>
        if bb = true then wpAny (model prog w) A (execs body env) (WTurn h₀ L s m₀ news x y P μ a b Q) E s₂ else Q .next s₂) E { s with heap := h, toks := tk })
    (hE : PassesOwn (model prog w) A env E) : wpAny (model prog w) A (exec (.While test body [] pos) env) Q E s := by
  refine While_inv2 (fun n m nx => nx = news ∧ ∃ a b t u, μ a b = n ∧ P a b ∧ m x = some (.int a t) ∧ m y = some (.int b u) ∧ ∀ z, z ≠ x → z ≠ y → m z = m₀ z) F N ⟨rfl, a₀, b₀, t₀, u₀, rfl, hp, hx, hy, fun _ _ _ => rfl⟩ ?_ hE
  rintro n m₁ nx h tk F₁ N₁ ⟨hnx, a, b, t, u, hsz, hp', h1, h2, h3⟩
  subst hnx
  subst hsz
  have em : (fun z => if z = y then some (Value.int b u) else if z = x then some (.int a t) else m₀ z) = m₁ := by
    funext z
    by_cases hzy : z = y
    · subst hzy; simp [h2]
    · by_cases hzx : z = x
      · subst hzx; simp [hzy, h1]
      · simp [hzy, hzx, h3 z hzx hzy]
  refine wpAny_mono (turn a b t u tk h hp' (by rw [em]; exact F₁) N₁) (fun bb s₂ p => ?_) fun _ _ x => x
  cases bb with
  | false => simpa using p
  | true =>
    simp only [if_true] at p ⊢
    refine wpAny_mono p (fun f s₃ q => ?_) fun _ _ x => x
    cases f with
    | ret v => exact q
    | brk => exact q
    | next =>
      obtain ⟨a', b', t', u', tk', h', m', news', rfl, F', N', hn, h1', h2', h3', hp2, hm⟩ := q
      exact ⟨h', tk', m', nx, μ a' b', rfl, F', fun p hp => N' p (hn p hp), hm, rfl, a', b', t', u', rfl, hp2, h1', h2', h3'⟩
    | cont =>
      obtain ⟨a', b', t', u', tk', h', m', news', rfl, F', N', hn, h1', h2', h3', hp2, hm⟩ := q
      exact ⟨h', tk', m', nx, μ a' b', rfl, F', fun p hp => N' p (hn p hp), hm, rfl, a', b', t', u', rfl, hp2, h1', h2', h3'⟩
end
local macro_rules | `(tactic| walk_at "WTurn") => `(tactic| ((with_reducible (refine' wturn_end ?k1 ?k2 ?k3 ?k4 ?k5 ?k6 ?_; (case k1 => assumption); (case k2 => assumption))); k_dflt ((case k3 => first | exact fun _ h => h | exact fun _ h => List.Mem.tail _ h | kcj_all); (case k4 => exact rfl); (case k5 => exact rfl); (case k6 => (intro z9 n9 n8; simp only [if_neg n9, if_neg n8])))))
local macro_rules | `(tactic| walk_at "exec While Compare") => `(tactic| (k_here; (first | (with_reducible rename WTag 1 _ _ _ _ => wT) | (with_reducible rename WTag 2 _ _ _ _ => wT) | (with_reducible rename WTag 3 _ _ _ _ => wT)); focus ((with_reducible (refine' while2 wT ?k0 ?k1 ?k2 ?k3 ?k4 ?_ ?_ ?k5; (case k1 => assumption); (case k2 => assumption))); k_dflt ((case k0 => decide); (case k3 => exact rfl); (case k4 => exact rfl); (case k5 => with_unfolding_all passes_own)); rotate_left; (clear wT; intro a9 b9 t9 u9 tk9 h9 hP9 F9 N9; (try k_sweep); (try dsimp only at hP9); (try dsimp only); (try k_fold)); rotate_right)))
-- C7
theorem News.drop1 {h₀ h : Heap} {L : Addr} {x : Addr × Obj} {news : List (Addr × Obj)} (N : News h₀ L h (x :: news)) : News h₀ L h ([] ++ news) := fun p hp => N p (List.mem_cons_of_mem _ hp)
/-- the law's own float of a day and eighths -/
theorem C_jdp (N e : Int) (t1 t2 : Tok) (news : List (Addr × Obj)) (hN : -190000000 ≤ N ∧ N ≤ 190000000) (he : 0 ≤ e ∧ e < 8) : Ct w p loose mean mg mb 348 1 [.int N t1, .int e t2] news (fun v nw => nw = [] ∧ ∃ x t, v = .float x t ∧ Bw x (N * 16777216 - 8388608 + e * 2097152) (N * 16777216 - 8388608 + e * 2097152)) := by
  walk_at "my in"; rename_i hret; walk_at "my enter"
  k_steps
  all_goals (exact hret _ [] _ _ ⟨rfl, _, _, rfl, Bw.cast (by assumption) (by omega) (by omega)⟩ (by k_asm) (by k_asm))
theorem C_jd0 (N : Int) (t1 t2 : Tok) (news : List (Addr × Obj)) (hN : -190000000 ≤ N ∧ N ≤ 190000000) : Ct w p loose mean mg mb 348 1 [.int N t1, .int 0 t2] news (Mid N) :=
  ct_mono (C_jdp N 0 t1 t2 news hN (by decide)) (Nat.le_refl _) fun _ _ h => by
    obtain ⟨h1, x, t, h2, h3⟩ := h
    exact ⟨h1, x, t, h2, Bw.cast h3 (by omega) (by omega)⟩
theorem C_lwide (y : Int) (b : Bool) (hb : lp y = b) (t : Tok) (news : List (Addr × Obj)) : Ct w p loose mean mg mb 355 1 [.int y t] news (fun v nw => v = .bool b ∧ nw = []) := by
  subst hb
  walk_at "my in"; rename_i hret; walk_at "my enter"
  k_steps
  all_goals (refine hret _ [] _ _ ⟨?_, rfl⟩ (by k_asm) (by k_asm); unfold lp; refine congrArg Value.bool ?_; rw [Bool.eq_iff_iff]; simp only [bne_iff_ne, beq_iff_eq, decide_eq_true_eq]; (try simp only [true_iff, false_iff, iff_true, iff_false]); omega)
local macro_rules | `(tactic| walk_at "call ref") => `(tactic| ((with_reducible show wpAny _ _ (call (Value.ref 355) [Value.int _ _] _) _ _ _); k_dflt (refine' ct_use (C_lwide _ _ ?kb _ _) ?k1 ?k2 ?k3 ?k4 ?k5 ?kK ?kd ?ku ?_; (case k1 => k_asm); (case k2 => k_asm); (case k3 => k_asm); (case k4 => k_asm); (case k5 => k_asm); (case kK => first | exact rfl | assumption); (case kd => ktr_room); (case ku => ktr_units); (case kb => first | assumption | rfl)); intro v9 nw9 h9 tk9 hP9 F9 N9; k_dflt (obtain ⟨e9, e8⟩ := hP9; subst e9; subst e8); (try simp only [List.nil_append, List.cons_append] at N9); (try k_sweep); (try dsimp only); (try k_fold)))
def NY (y k n g : Int) : Prop := n = 2451545 + 146097 * ((y - 2000) / 400) + 365 * g + (g + 3) / 4 - (g + 99) / 100 + (g + 399) / 400 ∧ 0 ≤ g ∧ g ≤ (y - 2000) % 400 ∧ g % k = 0
theorem C_newyear (y : Int) (t : Tok) (news : List (Addr × Obj)) : Ct w p loose mean mg mb 369 3 [.int y t] news (fun v nw => ∃ t, v = .int (fy y) t ∧ nw = []) := by
  have g0 : GTag (PySem.Str.ofString "_law_wide") := trivial
  have hq := Int.mul_ediv_add_emod (y - 2000) 400
  have hr0 := Int.emod_nonneg (y - 2000) (show (400 : Int) ≠ 0 by decide)
  have hr1 := Int.emod_lt_of_pos (y - 2000) (show (0 : Int) < 400 by decide)
  have w1 : WTag 1 (PySem.Str.ofString "number") (PySem.Str.ofString "gone") (NY y 100) (fun _ g => ((y - 2000) % 400 - g).toNat) := trivial
  have w2 : WTag 2 (PySem.Str.ofString "number") (PySem.Str.ofString "gone") (NY y 4) (fun _ g => ((y - 2000) % 400 - g).toNat) := trivial
  have w3 : WTag 3 (PySem.Str.ofString "number") (PySem.Str.ofString "gone") (NY y 1) (fun _ g => ((y - 2000) % 400 - g).toNat) := trivial
  walk_at "my in"; rename_i hret; walk_at "my enter"
  k_steps
  all_goals (unfold NY at *; first
    | omega
    | (have hl := lp_t (by assumption); omega)
    | (have hl := lp_f (by assumption); omega)
    | (refine' hret _ [] _ _ ⟨_, congrArg (Value.int · _) ?_, rfl⟩ ?kF (News.drop1 ?kN); (case kF => k_asm); (case kN => assumption); unfold fy; omega))
theorem C_lengths (b : Bool) (news : List (Addr × Obj)) : Ct w p loose mean mg mb 362 1 [.bool b] news (fun v nw => ∃ (D : Addr) (t0 t1 t2 t3 t4 t5 t6 t7 t8 t9 t10 t11 : Tok), v = .ref D ∧ nw = [(D, { cls := .type "list", data := .seq [Value.int 31 t0, .int (if b then 29 else 28) t1, .int 31 t2, .int 30 t3, .int 31 t4, .int 30 t5, .int 31 t6, .int 31 t7, .int 30 t8, .int 31 t9, .int 30 t10, .int 31 t11].toArray })]) := by
  cases b
  all_goals
    walk_at "my in"; rename_i hret; walk_at "my enter"
    k_steps
    all_goals (exact hret _ [_] _ _ ⟨_, _, _, _, _, _, _, _, _, _, _, _, _, rfl, rfl⟩ (by k_asm) (by k_asm))
-- D1
section
theorem sub_date_date : isSubtype (.type "datetime.date") (.type "datetime.date") = pure true := by rw [isSubtype_type]; kernel_rfl
theorem sub_date_dt : isSubtype (.type "datetime.date") (.type "datetime.datetime") = pure false := by rw [isSubtype_type]; kernel_rfl
theorem isType_date : isType (.type "datetime.date") = pure true := by rfl
def dateObj (y m d : Int) : Obj := { cls := .type "datetime.date", data := .fields #[rawInt y, rawInt m, rawInt d] }
theorem d_no {α : Type} {M : Model} {A : Around} {E : Value → Shared → Prop} {s : Shared} {c : Prop} [Decidable c] {a b : Sem α} {Q : α → Shared → Prop} (hc : ¬ c) (h : wpAny M A b Q E s) : wpAny M A (if c then a else b) Q E s := by rw [if_neg hc]; exact h
theorem d_yes {α : Type} {M : Model} {A : Around} {E : Value → Shared → Prop} {s : Shared} {c : Prop} [Decidable c] {a b : Sem α} {Q : α → Shared → Prop} (hc : c) (h : wpAny M A a Q E s) : wpAny M A (if c then a else b) Q E s := by rw [if_pos hc]; exact h
structure CInt (i : Int) : Prop where
  a : ¬ (decide (i ≥ 2 ^ 63) || decide (i < -2 ^ 63)) = true
  b : ¬ i ≥ 2 ^ 31
  c : ¬ i < -2 ^ 31
theorem cint {i : Int} (h : -1000000 ≤ i ∧ i ≤ 1000000) : CInt i := ⟨by simp; omega, by omega, by omega⟩
theorem date_new (y m d : Int) (t1 t2 t3 : Tok) (hy : 1 ≤ y ∧ y ≤ 9999) (hm : 1 ≤ m ∧ m ≤ 12) (hd0 : 1 ≤ d ∧ d ≤ 31) (hd : d ≤ Builtin._datetime.daysInMonth y m) :
    Meets (Builtin.«datetime.date.__new__» ⟨[.type "datetime.date", .int y t1, .int m t2, .int d t3], []⟩) (fun _ R s => R (.ok (.ret (.ref s.heap.objs.size))) { s with heap := s.heap.push (dateObj y m d) }) :=
  .of_wp fun prog w A R s h => by
    obtain ⟨hp, g, dr, tk, os⟩ := s
    have f1 := sub_date_date
    have f2 := sub_date_dt
    have f3 := isType_date
    obtain ⟨y1, y2, y3⟩ := cint (i := y) (by omega)
    obtain ⟨m1, m2, m3⟩ := cint (i := m) (by omega)
    obtain ⟨d1, d2, d3⟩ := cint (i := d) (by omega)
    have k1 : ¬ (decide (y < 1) || decide (y > 9999)) = true := by simp; omega
    have k2 : ¬ (decide (m < 1) || decide (m > 12)) = true := by simp; omega
    have k3 : ¬ (decide (d < 1) || decide (d > Builtin._datetime.daysInMonth y m)) = true := by simp; omega
    repeat (first | (with_reducible refine d_no (by assumption) ?_) | (with_reducible refine d_yes (by assumption) ?_) | wp_step)
    exact ⟨_, rfl, h⟩
theorem date_year (y m d : Int) (t1 t2 t3 : Tok) (hy0 : -600000 ≤ y ∧ y ≤ 600000) (hy : ¬ (1 ≤ y ∧ y ≤ 9999)) (hm : 1 ≤ m ∧ m ≤ 12) (hd0 : 1 ≤ d ∧ d ≤ 31) :
    Meets (Builtin.«datetime.date.__new__» ⟨[.type "datetime.date", .int y t1, .int m t2, .int d t3], []⟩) (raisesNew "ValueError") :=
  .of_wp fun prog w A R s h => by
    obtain ⟨hp, g, dr, tk, os⟩ := s
    have f1 := sub_date_date
    have f2 := sub_date_dt
    have f3 := isType_date
    obtain ⟨y1, y2, y3⟩ := cint (i := y) (by omega)
    obtain ⟨m1, m2, m3⟩ := cint (i := m) (by omega)
    obtain ⟨d1, d2, d3⟩ := cint (i := d) (by omega)
    have k1 : (decide (y < 1) || decide (y > 9999)) = true := by simp; omega
    repeat (first | (with_reducible refine d_no (by assumption) ?_) | (with_reducible refine d_yes (by assumption) ?_) | wp_step)
    refine wpAny_raiseErrorMade plainExc_ValueError h.1 h.2 ?_
    rw [PySem.ofString_length]
    have h3 := PySem.int_text_length_le10 (a := y) (k := 7) (by decide) (by omega)
    simp only [String.length_append]
    have h4 : (toString "year ").length = 5 := by decide
    have h5 : (toString " is out of range").length = 16 := by decide
    rw [sizeLine_eq]
    omega
end
-- D2
section
theorem mro_date : mroOf (.type "datetime.date") = pure [.type "datetime.date", .type "object"] := by rw [mroOf_type]; kernel_rfl
theorem lookup_date_new : typeLookup (.type "datetime.date") "__new__" = pure (some (.builtin "datetime.date.__new__")) := by rw [typeLookup_type, builtinLookup_eq_fast]; kernel_rfl
theorem slot_date_init : Slot "datetime.date" "__init__" "object.__init__" :=
  .of (owner := "object") (n := "__init__") (by rw [typeLookup_type, builtinLookup_eq_fast]; kernel_rfl) (by decide +kernel) (by decide +kernel) (by decide +kernel)
    (by first | exact .inl (by decide +kernel) | exact .inr (by decide +kernel)) (by rw [isSubtype_type]; kernel_rfl)
theorem called_date : TypeCalled "datetime.date" "datetime.date.__new__" "object.__init__" :=
  ⟨by decide +kernel, by decide +kernel, ⟨_, _, mro_date⟩, madeBy_type mro_date lookup_date_new (by decide +kernel), by decide +kernel, by rw [isSubtype_type]; kernel_rfl, slot_date_init⟩
theorem typeCall_date_3 (a b c : Value) : checkTypeCall "datetime.date" ⟨[a, b, c], []⟩ = pure () := by kernel_rfl
theorem newCall_date_3 (a b c : Value) : checkBuiltinCall "datetime.date.__new__" ⟨[.type "datetime.date", a, b, c], []⟩ = pure () := by kernel_rfl
theorem entry_date_new : entryFor table "datetime.date.__new__" = some Builtin.«datetime.date.__new__» := entryFor_of_tree (by kernel_rfl)
theorem init_args4 (a b c d : Value) : argsOk "object.__init__" ⟨[a, b, c, d], []⟩ := by
  unfold argsOk; rw [signature?_of (id := "object.__init__") (n := ['_', '_', 't', 'i', 'n', 'i', '_', '_']) (o := ['t', 'c', 'e', 'j', 'b', 'o']) (by kernel_rfl) PySem.F.owner_object]; kernel_rfl
theorem plainAttrs_date : PlainAttrs "datetime.date" :=
  ⟨⟨"object.__getattribute__", by rw [typeLookup_type, builtinLookup_eq_fast]; kernel_rfl, by decide +kernel⟩, by rw [typeLookup_type, builtinLookup_eq_fast]; kernel_rfl⟩
theorem owner_date : Manifest.owners.lookup (String.ofList ['e', 't', 'a', 'd', '.', 'e', 'm', 'i', 't', 'e', 't', 'a', 'd'].reverse) = some Manifest.sig_datetime_date := by kernel_rfl
theorem slot_date_iso : Slot "datetime.date" "isocalendar" "datetime.date.isocalendar" :=
  .of (owner := "datetime.date") (n := "isocalendar") (by rw [typeLookup_type, builtinLookup_eq_fast]; kernel_rfl) (by decide +kernel) (by decide +kernel) (by decide +kernel)
    (by first | exact .inl (by decide +kernel) | exact .inr (by decide +kernel)) (by rw [isSubtype_type]; kernel_rfl)
theorem type_date_iso : typeOf (.builtin "datetime.date.isocalendar") = pure (.type "method_descriptor") := by show builtinType _ = _; rw [builtinType_eq_fast]; kernel_rfl
theorem entry_date_iso : entryFor table "datetime.date.isocalendar" = some Builtin.«datetime.date.isocalendar» := entryFor_of_tree (by kernel_rfl)
theorem args_date_iso (a : Value) : argsOk "datetime.date.isocalendar" ⟨[a], []⟩ := by
  unfold argsOk; rw [signature?_of (id := "datetime.date.isocalendar") (n := ['r', 'a', 'd', 'n', 'e', 'l', 'a', 'c', 'o', 's', 'i']) (o := ['e', 't', 'a', 'd', '.', 'e', 'm', 'i', 't', 'e', 't', 'a', 'd']) (by kernel_rfl) owner_date]; kernel_rfl
def isoObj (y w d : Int) (t : Tok) : Obj := { cls := .type "datetime.IsoCalendarDate", data := .seq #[.int y t, .int w (t + 1), .int d (t + 1 + 1)] }
theorem date_iso (a : Addr) (y m d : Int) :
    Meets (Builtin.«datetime.date.isocalendar» ⟨[.ref a], []⟩) (fun _ R s => s.heap.get? a = some (dateObj y m d) ∧ R (.ok (.ret (.ref s.heap.objs.size))) { s with heap := s.heap.push (isoObj (Builtin._datetime.isoCalendarOf y m d).1 (Builtin._datetime.isoCalendarOf y m d).2.1 (Builtin._datetime.isoCalendarOf y m d).2.2 s.toks), toks := s.toks + 1 + 1 + 1 }) :=
  .of_wp fun prog w A R s h => by
    obtain ⟨hp, g, dr, tk, os⟩ := s
    obtain ⟨hl, h⟩ := h
    unfold dateObj at hl
    have f1 := sub_date_date
    wp_walk using wpAny_loadPart' hl, wpAny_load hl
    exact ⟨_, rfl, h⟩
section
variable {prog : Program} {w : World} {A : Around} {E : Value → Shared → Prop} {s : Shared} {Q : Value → Shared → Prop} {h₀ : Heap} {L : Addr} {m₀ : Str → Option Value} {news : List (Addr × Obj)} {t1 t2 t3 : Tok}
theorem w_date {y m d : Int} (F : Fr h₀ L s.heap m₀) (N : News h₀ L s.heap news) (hy : 1 ≤ y ∧ y ≤ 9999) (hm : 1 ≤ m ∧ m ≤ 12) (hd0 : 1 ≤ d ∧ d ≤ 31) (hd : d ≤ Builtin._datetime.daysInMonth y m)
    (h : ∀ D h', Fr h₀ L h' m₀ → News h₀ L h' ((D, dateObj y m d) :: news) → Q (.ref D) { s with heap := h' }) :
    wpAny (model prog w) A (call (.type "datetime.date") [.int y t1, .int m t2, .int d t3]) Q E s :=
  callType_new called_date (by decide +kernel) (typeCall_date_3 _ _ _) (newCall_date_3 _ _ _) (fun _ => init_args4 _ _ _ _) entry_date_new (date_new y m d t1 t2 t3 hy hm hd0 hd)
    ⟨⟨_, Heap.get?_push_size _ rfl, rfl⟩, h _ _ (F.push _) (N.push F _)⟩
theorem w_date_no {y m d : Int} (hA : A.handled = none) (hy0 : -600000 ≤ y ∧ y ≤ 600000) (hy : ¬ (1 ≤ y ∧ y ≤ 9999)) (hm : 1 ≤ m ∧ m ≤ 12) (hd0 : 1 ≤ d ∧ d ≤ 31)
    (h : ∀ h' tk e, Heap.NewExc s.heap h' e "ValueError" → E (.ref e) { s with heap := h', toks := tk }) :
    wpAny (model prog w) A (call (.type "datetime.date") [.int y t1, .int m t2, .int d t3]) Q E s :=
  callType_new called_date (by decide +kernel) (typeCall_date_3 _ _ _) (newCall_date_3 _ _ _) (fun _ => init_args4 _ _ _ _) entry_date_new (date_year y m d t1 t2 t3 hy0 hy hm hd0)
    ⟨hA, fun h' tk e hx => h h' tk e hx⟩
theorem w_date_method {D : Addr} {y m d : Int} {pl : Sem Bool} {Q : Value × List Value → Shared → Prop} (N : News h₀ L s.heap news) (hm : (D, dateObj y m d) ∈ news) (h : Q (.builtin "datetime.date.isocalendar", [.ref D]) s) :
    wpAny (model prog w) A (getMethod (.ref D) (PySem.Str.ofString "isocalendar") pl) Q E s :=
  getMethod_builtin ⟨_, (N _ hm).1, rfl⟩ plainAttrs_date slot_date_iso type_date_iso (fun a e => by cases e; exact ⟨_, (N _ hm).1, rfl⟩) h
theorem w_date_iso {D : Addr} {y m d yy ww dd : Int} (F : Fr h₀ L s.heap m₀) (N : News h₀ L s.heap news) (hm : (D, dateObj y m d) ∈ news) (hi : Builtin._datetime.isoCalendarOf y m d = (yy, ww, dd))
    (h : ∀ D2 t tk h', Fr h₀ L h' m₀ → News h₀ L h' ((D2, isoObj yy ww dd t) :: news) → Q (.ref D2) { s with heap := h', toks := tk }) :
    wpAny (model prog w) A (call (.builtin "datetime.date.isocalendar") [.ref D]) Q E s :=
  call_meets slot_date_iso ⟨_, (N _ hm).1, rfl⟩ entry_date_iso (args_date_iso _) (date_iso D y m d) ⟨(N _ hm).1, by
    rw [hi]; exact h _ s.toks _ _ (F.push _) (N.push F _)⟩
end
end
-- D3
section
section
variable {prog : Program} {w : World} {A : Around} {E : Value → Shared → Prop} {s : Shared} {a b : Int} {t u : Tok}
theorem eqBool_ints {Q : Bool → Shared → Prop} (h : Q (a == b) s) : wpAny (model prog w) A (eqBool (.int a t) (.int b u)) Q E s := (PySem.MeetsSeq.EqGives.int a b t u) prog w A E s Q h
theorem richLt_ints {Q : Value → Shared → Prop} (h : Q (.bool (decide (a < b))) s) : wpAny (model prog w) A (richCompare .Lt (.int a t) (.int b u)) Q E s := show wpAny (model prog w) A (compareOp .Lt (.int a t) (.int b u)) Q E s from lt_int h
theorem richGt_ints {Q : Value → Shared → Prop} (h : Q (.bool (decide (a > b))) s) : wpAny (model prog w) A (richCompare .Gt (.int a t) (.int b u)) Q E s := show wpAny (model prog w) A (compareOp .Gt (.int a t) (.int b u)) Q E s from gt_int h
end
section
variable {M : Model} {A : Around} {E : Value → Shared → Prop} {s : Shared} {α β : Type} {f : α → β → Sem (ForInStep β)} {x : α} {xs : List α} {b : β} {Q : β → Shared → Prop}
theorem fi_nil (h : Q b s) : wpAny M A (forIn ([] : List α) b f) Q E s := by rw [List.forIn_nil]; exact wpAny_pure h
theorem fi_cons (h : wpAny M A (f x b) (fun r s' => match r with | .done b => Q b s' | .yield b => wpAny M A (forIn xs b f) Q E s') E s) : wpAny M A (forIn (x :: xs) b f) Q E s := by
  rw [List.forIn_cons]
  refine wpAny_bind (wpAny_mono h (fun r s' h => ?_) fun _ _ x => x)
  cases r with
  | done b => exact wpAny_pure h
  | yield b => exact h
end
abbrev seqObj (c : String) (vs : List Value) : Obj := { cls := .type c, data := .seq vs.toArray }
theorem t3_eq (l b : Addr) (c1 c2 : String) (x y z x' y' z' : Int) (t u v t' u' v' : Tok) (hs : isSubtype (.type c2) (.type "tuple") = pure true) :
    Meets (Builtin.«tuple.__eq__» ⟨[.ref l, .ref b], []⟩) (fun _ R s => s.heap.get? l = some (seqObj c1 [.int x t, .int y u, .int z v]) ∧ s.heap.get? b = some (seqObj c2 [.int x' t', .int y' u', .int z' v']) ∧
      R (.ok (.ret (.bool (decide (x = x' ∧ y = y' ∧ z = z'))))) s) :=
  .of_wp fun prog w A R s h => by
    obtain ⟨hl, hb, h⟩ := h
    show wpAny _ _ (isInstance (.ref b) (.type "tuple") >>= _) _ _ s
    refine wpAny_bind (wpAny_isInstance ⟨_, hb, rfl⟩ hs ?_)
    simp only [Bool.not_true, Bool.false_eq_true, if_false]
    refine wpAny_bind (wpAny_tupleItemsOf hl rfl ?_)
    refine wpAny_bind (wpAny_tupleItemsOf hb rfl ?_)
    refine wpAny_bind ?_
    refine fi_cons ?_
    dsimp only
    refine wpAny_bind (eqBool_ints ?_)
    by_cases hx : x = x'
    rotate_left
    · rw [if_pos (by simp [hx])]
      refine wpAny_bind (wpAny_pure (wpAny_pure (wpAny_pure ⟨_, rfl, ?_⟩)))
      simpa [hx] using h
    subst hx
    rw [if_neg (by simp)]
    refine wpAny_pure ?_
    dsimp only
    refine fi_cons ?_
    dsimp only
    refine wpAny_bind (eqBool_ints ?_)
    by_cases hy : y = y'
    rotate_left
    · rw [if_pos (by simp [hy])]
      refine wpAny_bind (wpAny_pure (wpAny_pure (wpAny_pure ⟨_, rfl, ?_⟩)))
      simpa [hy] using h
    subst hy
    rw [if_neg (by simp)]
    refine wpAny_pure ?_
    dsimp only
    refine fi_cons ?_
    dsimp only
    refine wpAny_bind (eqBool_ints ?_)
    by_cases hz : z = z'
    rotate_left
    · rw [if_pos (by simp [hz])]
      refine wpAny_bind (wpAny_pure (wpAny_pure (wpAny_pure ⟨_, rfl, ?_⟩)))
      simpa [hz] using h
    subst hz
    rw [if_neg (by simp)]
    refine wpAny_pure ?_
    dsimp only
    exact fi_nil (wpAny_pure ⟨_, rfl, by simpa [Builtin.Tuple.tupleCompareSizes] using h⟩)
theorem t3_ne (l b : Addr) (c1 c2 : String) (x y z x' y' z' : Int) (t u v t' u' v' : Tok) (hs : isSubtype (.type c2) (.type "tuple") = pure true) :
    Meets (Builtin.«tuple.__ne__» ⟨[.ref l, .ref b], []⟩) (fun _ R s => s.heap.get? l = some (seqObj c1 [.int x t, .int y u, .int z v]) ∧ s.heap.get? b = some (seqObj c2 [.int x' t', .int y' u', .int z' v']) ∧
      R (.ok (.ret (.bool (decide (¬ (x = x' ∧ y = y' ∧ z = z')))))) s) :=
  .of_wp fun prog w A R s h => by
    obtain ⟨hl, hb, h⟩ := h
    show wpAny _ _ (isInstance (.ref b) (.type "tuple") >>= _) _ _ s
    refine wpAny_bind (wpAny_isInstance ⟨_, hb, rfl⟩ hs ?_)
    simp only [Bool.not_true, Bool.false_eq_true, if_false]
    refine wpAny_bind (wpAny_tupleItemsOf hl rfl ?_)
    refine wpAny_bind (wpAny_tupleItemsOf hb rfl ?_)
    refine wpAny_bind ?_
    refine fi_cons ?_
    dsimp only
    refine wpAny_bind (eqBool_ints ?_)
    by_cases hx : x = x'
    rotate_left
    · rw [if_pos (by simp [hx])]
      refine wpAny_bind (wpAny_pure (wpAny_pure (wpAny_pure ⟨_, rfl, ?_⟩)))
      simpa [hx] using h
    subst hx
    rw [if_neg (by simp)]
    refine wpAny_pure ?_
    dsimp only
    refine fi_cons ?_
    dsimp only
    refine wpAny_bind (eqBool_ints ?_)
    by_cases hy : y = y'
    rotate_left
    · rw [if_pos (by simp [hy])]
      refine wpAny_bind (wpAny_pure (wpAny_pure (wpAny_pure ⟨_, rfl, ?_⟩)))
      simpa [hy] using h
    subst hy
    rw [if_neg (by simp)]
    refine wpAny_pure ?_
    dsimp only
    refine fi_cons ?_
    dsimp only
    refine wpAny_bind (eqBool_ints ?_)
    by_cases hz : z = z'
    rotate_left
    · rw [if_pos (by simp [hz])]
      refine wpAny_bind (wpAny_pure (wpAny_pure (wpAny_pure ⟨_, rfl, ?_⟩)))
      simpa [hz] using h
    subst hz
    rw [if_neg (by simp)]
    refine wpAny_pure ?_
    dsimp only
    exact fi_nil (wpAny_pure ⟨_, rfl, by simpa [Builtin.Tuple.tupleCompareSizes] using h⟩)
theorem t3_lt (l b : Addr) (c1 c2 : String) (x y z x' y' z' : Int) (t u v t' u' v' : Tok) (hs : isSubtype (.type c2) (.type "tuple") = pure true) :
    Meets (Builtin.«tuple.__lt__» ⟨[.ref l, .ref b], []⟩) (fun _ R s => s.heap.get? l = some (seqObj c1 [.int x t, .int y u, .int z v]) ∧ s.heap.get? b = some (seqObj c2 [.int x' t', .int y' u', .int z' v']) ∧
      R (.ok (.ret (.bool (decide (x < x' ∨ x = x' ∧ (y < y' ∨ y = y' ∧ z < z')))))) s) :=
  .of_wp fun prog w A R s h => by
    obtain ⟨hl, hb, h⟩ := h
    show wpAny _ _ (isInstance (.ref b) (.type "tuple") >>= _) _ _ s
    refine wpAny_bind (wpAny_isInstance ⟨_, hb, rfl⟩ hs ?_)
    simp only [Bool.not_true, Bool.false_eq_true, if_false]
    refine wpAny_bind (wpAny_tupleItemsOf hl rfl ?_)
    refine wpAny_bind (wpAny_tupleItemsOf hb rfl ?_)
    refine wpAny_bind ?_
    refine fi_cons ?_
    dsimp only
    refine wpAny_bind (eqBool_ints ?_)
    by_cases hx : x = x'
    rotate_left
    · rw [if_pos (by simp [hx])]
      refine wpAny_bind (wpAny_rule (wpAny_bind (richLt_ints (wpAny_bind (wpAny_pure (wpAny_pure (wpAny_pure ⟨_, rfl, ?_⟩)))))))
      simpa [hx] using h
    subst hx
    rw [if_neg (by simp)]
    refine wpAny_pure ?_
    dsimp only
    refine fi_cons ?_
    dsimp only
    refine wpAny_bind (eqBool_ints ?_)
    by_cases hy : y = y'
    rotate_left
    · rw [if_pos (by simp [hy])]
      refine wpAny_bind (wpAny_rule (wpAny_bind (richLt_ints (wpAny_bind (wpAny_pure (wpAny_pure (wpAny_pure ⟨_, rfl, ?_⟩)))))))
      simpa [hy] using h
    subst hy
    rw [if_neg (by simp)]
    refine wpAny_pure ?_
    dsimp only
    refine fi_cons ?_
    dsimp only
    refine wpAny_bind (eqBool_ints ?_)
    by_cases hz : z = z'
    rotate_left
    · rw [if_pos (by simp [hz])]
      refine wpAny_bind (wpAny_rule (wpAny_bind (richLt_ints (wpAny_bind (wpAny_pure (wpAny_pure (wpAny_pure ⟨_, rfl, ?_⟩)))))))
      simpa [hz] using h
    subst hz
    rw [if_neg (by simp)]
    refine wpAny_pure ?_
    dsimp only
    exact fi_nil (wpAny_pure ⟨_, rfl, by simpa [Builtin.Tuple.tupleCompareSizes] using h⟩)
theorem t3_gt (l b : Addr) (c1 c2 : String) (x y z x' y' z' : Int) (t u v t' u' v' : Tok) (hs : isSubtype (.type c2) (.type "tuple") = pure true) :
    Meets (Builtin.«tuple.__gt__» ⟨[.ref l, .ref b], []⟩) (fun _ R s => s.heap.get? l = some (seqObj c1 [.int x t, .int y u, .int z v]) ∧ s.heap.get? b = some (seqObj c2 [.int x' t', .int y' u', .int z' v']) ∧
      R (.ok (.ret (.bool (decide (x > x' ∨ x = x' ∧ (y > y' ∨ y = y' ∧ z > z')))))) s) :=
  .of_wp fun prog w A R s h => by
    obtain ⟨hl, hb, h⟩ := h
    show wpAny _ _ (isInstance (.ref b) (.type "tuple") >>= _) _ _ s
    refine wpAny_bind (wpAny_isInstance ⟨_, hb, rfl⟩ hs ?_)
    simp only [Bool.not_true, Bool.false_eq_true, if_false]
    refine wpAny_bind (wpAny_tupleItemsOf hl rfl ?_)
    refine wpAny_bind (wpAny_tupleItemsOf hb rfl ?_)
    refine wpAny_bind ?_
    refine fi_cons ?_
    dsimp only
    refine wpAny_bind (eqBool_ints ?_)
    by_cases hx : x = x'
    rotate_left
    · rw [if_pos (by simp [hx])]
      refine wpAny_bind (wpAny_rule (wpAny_bind (richGt_ints (wpAny_bind (wpAny_pure (wpAny_pure (wpAny_pure ⟨_, rfl, ?_⟩)))))))
      simpa [hx] using h
    subst hx
    rw [if_neg (by simp)]
    refine wpAny_pure ?_
    dsimp only
    refine fi_cons ?_
    dsimp only
    refine wpAny_bind (eqBool_ints ?_)
    by_cases hy : y = y'
    rotate_left
    · rw [if_pos (by simp [hy])]
      refine wpAny_bind (wpAny_rule (wpAny_bind (richGt_ints (wpAny_bind (wpAny_pure (wpAny_pure (wpAny_pure ⟨_, rfl, ?_⟩)))))))
      simpa [hy] using h
    subst hy
    rw [if_neg (by simp)]
    refine wpAny_pure ?_
    dsimp only
    refine fi_cons ?_
    dsimp only
    refine wpAny_bind (eqBool_ints ?_)
    by_cases hz : z = z'
    rotate_left
    · rw [if_pos (by simp [hz])]
      refine wpAny_bind (wpAny_rule (wpAny_bind (richGt_ints (wpAny_bind (wpAny_pure (wpAny_pure (wpAny_pure ⟨_, rfl, ?_⟩)))))))
      simpa [hz] using h
    subst hz
    rw [if_neg (by simp)]
    refine wpAny_pure ?_
    dsimp only
    exact fi_nil (wpAny_pure ⟨_, rfl, by simpa [Builtin.Tuple.tupleCompareSizes] using h⟩)
theorem t2_eq (l b : Addr) (c1 c2 : String) (x y x' y' : Int) (t u t' u' : Tok) (hs : isSubtype (.type c2) (.type "tuple") = pure true) :
    Meets (Builtin.«tuple.__eq__» ⟨[.ref l, .ref b], []⟩) (fun _ R s => s.heap.get? l = some (seqObj c1 [.int x t, .int y u]) ∧ s.heap.get? b = some (seqObj c2 [.int x' t', .int y' u']) ∧
      R (.ok (.ret (.bool (decide (x = x' ∧ y = y'))))) s) :=
  .of_wp fun prog w A R s h => by
    obtain ⟨hl, hb, h⟩ := h
    show wpAny _ _ (isInstance (.ref b) (.type "tuple") >>= _) _ _ s
    refine wpAny_bind (wpAny_isInstance ⟨_, hb, rfl⟩ hs ?_)
    simp only [Bool.not_true, Bool.false_eq_true, if_false]
    refine wpAny_bind (wpAny_tupleItemsOf hl rfl ?_)
    refine wpAny_bind (wpAny_tupleItemsOf hb rfl ?_)
    refine wpAny_bind ?_
    refine fi_cons ?_
    dsimp only
    refine wpAny_bind (eqBool_ints ?_)
    by_cases hx : x = x'
    rotate_left
    · rw [if_pos (by simp [hx])]
      refine wpAny_bind (wpAny_pure (wpAny_pure (wpAny_pure ⟨_, rfl, ?_⟩)))
      simpa [hx] using h
    subst hx
    rw [if_neg (by simp)]
    refine wpAny_pure ?_
    dsimp only
    refine fi_cons ?_
    dsimp only
    refine wpAny_bind (eqBool_ints ?_)
    by_cases hy : y = y'
    rotate_left
    · rw [if_pos (by simp [hy])]
      refine wpAny_bind (wpAny_pure (wpAny_pure (wpAny_pure ⟨_, rfl, ?_⟩)))
      simpa [hy] using h
    subst hy
    rw [if_neg (by simp)]
    refine wpAny_pure ?_
    dsimp only
    exact fi_nil (wpAny_pure ⟨_, rfl, by simpa [Builtin.Tuple.tupleCompareSizes] using h⟩)
theorem t2_ne (l b : Addr) (c1 c2 : String) (x y x' y' : Int) (t u t' u' : Tok) (hs : isSubtype (.type c2) (.type "tuple") = pure true) :
    Meets (Builtin.«tuple.__ne__» ⟨[.ref l, .ref b], []⟩) (fun _ R s => s.heap.get? l = some (seqObj c1 [.int x t, .int y u]) ∧ s.heap.get? b = some (seqObj c2 [.int x' t', .int y' u']) ∧
      R (.ok (.ret (.bool (decide (¬ (x = x' ∧ y = y')))))) s) :=
  .of_wp fun prog w A R s h => by
    obtain ⟨hl, hb, h⟩ := h
    show wpAny _ _ (isInstance (.ref b) (.type "tuple") >>= _) _ _ s
    refine wpAny_bind (wpAny_isInstance ⟨_, hb, rfl⟩ hs ?_)
    simp only [Bool.not_true, Bool.false_eq_true, if_false]
    refine wpAny_bind (wpAny_tupleItemsOf hl rfl ?_)
    refine wpAny_bind (wpAny_tupleItemsOf hb rfl ?_)
    refine wpAny_bind ?_
    refine fi_cons ?_
    dsimp only
    refine wpAny_bind (eqBool_ints ?_)
    by_cases hx : x = x'
    rotate_left
    · rw [if_pos (by simp [hx])]
      refine wpAny_bind (wpAny_pure (wpAny_pure (wpAny_pure ⟨_, rfl, ?_⟩)))
      simpa [hx] using h
    subst hx
    rw [if_neg (by simp)]
    refine wpAny_pure ?_
    dsimp only
    refine fi_cons ?_
    dsimp only
    refine wpAny_bind (eqBool_ints ?_)
    by_cases hy : y = y'
    rotate_left
    · rw [if_pos (by simp [hy])]
      refine wpAny_bind (wpAny_pure (wpAny_pure (wpAny_pure ⟨_, rfl, ?_⟩)))
      simpa [hy] using h
    subst hy
    rw [if_neg (by simp)]
    refine wpAny_pure ?_
    dsimp only
    exact fi_nil (wpAny_pure ⟨_, rfl, by simpa [Builtin.Tuple.tupleCompareSizes] using h⟩)
theorem t2_lt (l b : Addr) (c1 c2 : String) (x y x' y' : Int) (t u t' u' : Tok) (hs : isSubtype (.type c2) (.type "tuple") = pure true) :
    Meets (Builtin.«tuple.__lt__» ⟨[.ref l, .ref b], []⟩) (fun _ R s => s.heap.get? l = some (seqObj c1 [.int x t, .int y u]) ∧ s.heap.get? b = some (seqObj c2 [.int x' t', .int y' u']) ∧
      R (.ok (.ret (.bool (decide (x < x' ∨ x = x' ∧ y < y'))))) s) :=
  .of_wp fun prog w A R s h => by
    obtain ⟨hl, hb, h⟩ := h
    show wpAny _ _ (isInstance (.ref b) (.type "tuple") >>= _) _ _ s
    refine wpAny_bind (wpAny_isInstance ⟨_, hb, rfl⟩ hs ?_)
    simp only [Bool.not_true, Bool.false_eq_true, if_false]
    refine wpAny_bind (wpAny_tupleItemsOf hl rfl ?_)
    refine wpAny_bind (wpAny_tupleItemsOf hb rfl ?_)
    refine wpAny_bind ?_
    refine fi_cons ?_
    dsimp only
    refine wpAny_bind (eqBool_ints ?_)
    by_cases hx : x = x'
    rotate_left
    · rw [if_pos (by simp [hx])]
      refine wpAny_bind (wpAny_rule (wpAny_bind (richLt_ints (wpAny_bind (wpAny_pure (wpAny_pure (wpAny_pure ⟨_, rfl, ?_⟩)))))))
      simpa [hx] using h
    subst hx
    rw [if_neg (by simp)]
    refine wpAny_pure ?_
    dsimp only
    refine fi_cons ?_
    dsimp only
    refine wpAny_bind (eqBool_ints ?_)
    by_cases hy : y = y'
    rotate_left
    · rw [if_pos (by simp [hy])]
      refine wpAny_bind (wpAny_rule (wpAny_bind (richLt_ints (wpAny_bind (wpAny_pure (wpAny_pure (wpAny_pure ⟨_, rfl, ?_⟩)))))))
      simpa [hy] using h
    subst hy
    rw [if_neg (by simp)]
    refine wpAny_pure ?_
    dsimp only
    exact fi_nil (wpAny_pure ⟨_, rfl, by simpa [Builtin.Tuple.tupleCompareSizes] using h⟩)
end
-- D4
section
theorem sub_iso_tuple : isSubtype (.type "datetime.IsoCalendarDate") (.type "tuple") = pure true := by rw [isSubtype_type]; kernel_rfl
theorem sub_tuple_iso : isSubtype (.type "tuple") (.type "datetime.IsoCalendarDate") = pure false := by rw [isSubtype_type]; kernel_rfl
theorem sub_tuple_tuple' : isSubtype (.type "tuple") (.type "tuple") = pure true := by rw [isSubtype_type]; kernel_rfl
theorem slot_iso_eq : Slot "datetime.IsoCalendarDate" "__eq__" "tuple.__eq__" :=
  .of (owner := "tuple") (n := "__eq__") (by rw [typeLookup_type, builtinLookup_eq_fast]; kernel_rfl) (by decide +kernel) (by decide +kernel) (by decide +kernel)
    (by first | exact .inl (by decide +kernel) | exact .inr (by decide +kernel)) (by rw [isSubtype_type]; kernel_rfl)
theorem slot_iso_ne : Slot "datetime.IsoCalendarDate" "__ne__" "tuple.__ne__" :=
  .of (owner := "tuple") (n := "__ne__") (by rw [typeLookup_type, builtinLookup_eq_fast]; kernel_rfl) (by decide +kernel) (by decide +kernel) (by decide +kernel)
    (by first | exact .inl (by decide +kernel) | exact .inr (by decide +kernel)) (by rw [isSubtype_type]; kernel_rfl)
theorem slot_iso_gt : Slot "datetime.IsoCalendarDate" "__gt__" "tuple.__gt__" :=
  .of (owner := "tuple") (n := "__gt__") (by rw [typeLookup_type, builtinLookup_eq_fast]; kernel_rfl) (by decide +kernel) (by decide +kernel) (by decide +kernel)
    (by first | exact .inl (by decide +kernel) | exact .inr (by decide +kernel)) (by rw [isSubtype_type]; kernel_rfl)
section
variable {prog : Program} {w : World} {A : Around} {E : Value → Shared → Prop} {s : Shared} {Q : Value → Shared → Prop} {h₀ : Heap} {L : Addr} {news : List (Addr × Obj)} {D1 D2 : Addr} {x y z x' y' z' : Int} {t u v t' u' v' : Tok}
theorem w_ne_tt3 (N : News h₀ L s.heap news) (h1 : (D1, ({ cls := .type "tuple", data := .seq [Value.int x t, .int y u, .int z v].toArray } : Obj)) ∈ news) (h2 : (D2, ({ cls := .type "tuple", data := .seq [Value.int x t', .int y u', .int z v'].toArray } : Obj)) ∈ news) (hu : A.units < cLine) (h : Q (.bool false) s) : wpAny (model prog w) A (compareOp .NotEq (.ref D1) (.ref D2)) Q E s :=
  show wpAny (model prog w) A (richCompare .NotEq (.ref D1) (.ref D2)) Q E s from
  richCompare_meets_room (T := "tuple") ⟨_, (N _ h1).1, rfl⟩ ⟨_, (N _ h2).1, rfl⟩ PySem.F.slot_tuple_ne PySem.F.entry_tuple_ne (PySem.F.args_tuple_ne_2 _ _) (t3_ne D1 D2 "tuple" "tuple" x y z x y z t u v t' u' v' sub_tuple_tuple')
    ⟨(N _ h1).1, (N _ h2).1, ⟨nofun, by simpa using h⟩⟩ hu
theorem w_ne_tt2 (N : News h₀ L s.heap news) (h1 : (D1, ({ cls := .type "tuple", data := .seq [Value.int x t, .int y u].toArray } : Obj)) ∈ news) (h2 : (D2, ({ cls := .type "tuple", data := .seq [Value.int x t', .int y u'].toArray } : Obj)) ∈ news) (hu : A.units < cLine) (h : Q (.bool false) s) : wpAny (model prog w) A (compareOp .NotEq (.ref D1) (.ref D2)) Q E s :=
  show wpAny (model prog w) A (richCompare .NotEq (.ref D1) (.ref D2)) Q E s from
  richCompare_meets_room (T := "tuple") ⟨_, (N _ h1).1, rfl⟩ ⟨_, (N _ h2).1, rfl⟩ PySem.F.slot_tuple_ne PySem.F.entry_tuple_ne (PySem.F.args_tuple_ne_2 _ _) (t2_ne D1 D2 "tuple" "tuple" x y x y t u t' u' sub_tuple_tuple')
    ⟨(N _ h1).1, (N _ h2).1, ⟨nofun, by simpa using h⟩⟩ hu
theorem w_eq_tt3 {c : Prop} [Decidable c] (hc : (x = x' ∧ y = y' ∧ z = z') ↔ c) (N : News h₀ L s.heap news) (h1 : (D1, ({ cls := .type "tuple", data := .seq [Value.int x t, .int y u, .int z v].toArray } : Obj)) ∈ news) (h2 : (D2, ({ cls := .type "tuple", data := .seq [Value.int x' t', .int y' u', .int z' v'].toArray } : Obj)) ∈ news) (hu : A.units < cLine) (h : Q (.bool (decide c)) s) : wpAny (model prog w) A (compareOp .Eq (.ref D1) (.ref D2)) Q E s :=
  show wpAny (model prog w) A (richCompare .Eq (.ref D1) (.ref D2)) Q E s from
  richCompare_meets_room (T := "tuple") ⟨_, (N _ h1).1, rfl⟩ ⟨_, (N _ h2).1, rfl⟩ PySem.F.slot_tuple_eq PySem.F.entry_tuple_eq (PySem.F.args_tuple_eq_2 _ _) (t3_eq D1 D2 "tuple" "tuple" x y z x' y' z' t u v t' u' v' sub_tuple_tuple')
    ⟨(N _ h1).1, (N _ h2).1, ⟨nofun, by rw [decide_eq_decide.mpr hc]; exact h⟩⟩ hu
theorem w_lt_tt3 {c : Prop} [Decidable c] (hc : (x < x' ∨ x = x' ∧ (y < y' ∨ y = y' ∧ z < z')) ↔ c) (N : News h₀ L s.heap news) (h1 : (D1, ({ cls := .type "tuple", data := .seq [Value.int x t, .int y u, .int z v].toArray } : Obj)) ∈ news) (h2 : (D2, ({ cls := .type "tuple", data := .seq [Value.int x' t', .int y' u', .int z' v'].toArray } : Obj)) ∈ news) (hu : A.units < cLine) (h : Q (.bool (decide c)) s) : wpAny (model prog w) A (compareOp .Lt (.ref D1) (.ref D2)) Q E s :=
  show wpAny (model prog w) A (richCompare .Lt (.ref D1) (.ref D2)) Q E s from
  richCompare_meets_room (T := "tuple") ⟨_, (N _ h1).1, rfl⟩ ⟨_, (N _ h2).1, rfl⟩ PySem.F.slot_tuple_lt PySem.F.entry_tuple_lt (PySem.F.args_tuple_lt_2 _ _) (t3_lt D1 D2 "tuple" "tuple" x y z x' y' z' t u v t' u' v' sub_tuple_tuple')
    ⟨(N _ h1).1, (N _ h2).1, ⟨nofun, by rw [decide_eq_decide.mpr hc]; exact h⟩⟩ hu
theorem w_eq_tt2 {c : Prop} [Decidable c] (hc : (x = x' ∧ y = y') ↔ c) (N : News h₀ L s.heap news) (h1 : (D1, ({ cls := .type "tuple", data := .seq [Value.int x t, .int y u].toArray } : Obj)) ∈ news) (h2 : (D2, ({ cls := .type "tuple", data := .seq [Value.int x' t', .int y' u'].toArray } : Obj)) ∈ news) (hu : A.units < cLine) (h : Q (.bool (decide c)) s) : wpAny (model prog w) A (compareOp .Eq (.ref D1) (.ref D2)) Q E s :=
  show wpAny (model prog w) A (richCompare .Eq (.ref D1) (.ref D2)) Q E s from
  richCompare_meets_room (T := "tuple") ⟨_, (N _ h1).1, rfl⟩ ⟨_, (N _ h2).1, rfl⟩ PySem.F.slot_tuple_eq PySem.F.entry_tuple_eq (PySem.F.args_tuple_eq_2 _ _) (t2_eq D1 D2 "tuple" "tuple" x y x' y' t u t' u' sub_tuple_tuple')
    ⟨(N _ h1).1, (N _ h2).1, ⟨nofun, by rw [decide_eq_decide.mpr hc]; exact h⟩⟩ hu
theorem w_lt_tt2 {c : Prop} [Decidable c] (hc : (x < x' ∨ x = x' ∧ y < y') ↔ c) (N : News h₀ L s.heap news) (h1 : (D1, ({ cls := .type "tuple", data := .seq [Value.int x t, .int y u].toArray } : Obj)) ∈ news) (h2 : (D2, ({ cls := .type "tuple", data := .seq [Value.int x' t', .int y' u'].toArray } : Obj)) ∈ news) (hu : A.units < cLine) (h : Q (.bool (decide c)) s) : wpAny (model prog w) A (compareOp .Lt (.ref D1) (.ref D2)) Q E s :=
  show wpAny (model prog w) A (richCompare .Lt (.ref D1) (.ref D2)) Q E s from
  richCompare_meets_room (T := "tuple") ⟨_, (N _ h1).1, rfl⟩ ⟨_, (N _ h2).1, rfl⟩ PySem.F.slot_tuple_lt PySem.F.entry_tuple_lt (PySem.F.args_tuple_lt_2 _ _) (t2_lt D1 D2 "tuple" "tuple" x y x' y' t u t' u' sub_tuple_tuple')
    ⟨(N _ h1).1, (N _ h2).1, ⟨nofun, by rw [decide_eq_decide.mpr hc]; exact h⟩⟩ hu
theorem w_ne_it (N : News h₀ L s.heap news) (h1 : (D1, isoObj x y z t) ∈ news) (h2 : (D2, ({ cls := .type "tuple", data := .seq [Value.int x t', .int y u', .int z v'].toArray } : Obj)) ∈ news) (hu : A.units < cLine) (h : Q (.bool false) s) : wpAny (model prog w) A (compareOp .NotEq (.ref D1) (.ref D2)) Q E s :=
  show wpAny (model prog w) A (richCompare .NotEq (.ref D1) (.ref D2)) Q E s from
  PySem.SeqAt.rc_left_or (Ta := "datetime.IsoCalendarDate") (Tb := "tuple") ⟨_, (N _ h1).1, rfl⟩ ⟨_, (N _ h2).1, rfl⟩ (by decide) sub_tuple_iso slot_iso_ne
    (call_meets slot_iso_ne ⟨_, (N _ h1).1, rfl⟩ PySem.F.entry_tuple_ne (PySem.F.args_tuple_ne_2 _ _) (t3_ne D1 D2 "datetime.IsoCalendarDate" "tuple" x y z x y z t (t + 1) (t + 1 + 1) t' u' v' sub_tuple_tuple')
      ⟨(N _ h1).1, (N _ h2).1, ⟨nofun, by simpa using h⟩⟩) (.inr hu)
theorem w_eq_it (N : News h₀ L s.heap news) (h1 : (D1, isoObj x y z t) ∈ news) (h2 : (D2, ({ cls := .type "tuple", data := .seq [Value.int x t', .int y u', .int z v'].toArray } : Obj)) ∈ news) (hu : A.units < cLine) (h : Q (.bool true) s) : wpAny (model prog w) A (compareOp .Eq (.ref D1) (.ref D2)) Q E s :=
  show wpAny (model prog w) A (richCompare .Eq (.ref D1) (.ref D2)) Q E s from
  PySem.SeqAt.rc_left_or (Ta := "datetime.IsoCalendarDate") (Tb := "tuple") ⟨_, (N _ h1).1, rfl⟩ ⟨_, (N _ h2).1, rfl⟩ (by decide) sub_tuple_iso slot_iso_eq
    (call_meets slot_iso_eq ⟨_, (N _ h1).1, rfl⟩ PySem.F.entry_tuple_eq (PySem.F.args_tuple_eq_2 _ _) (t3_eq D1 D2 "datetime.IsoCalendarDate" "tuple" x y z x y z t (t + 1) (t + 1 + 1) t' u' v' sub_tuple_tuple')
      ⟨(N _ h1).1, (N _ h2).1, ⟨nofun, by simpa using h⟩⟩) (.inr hu)
theorem w_eq_ti {c : Prop} [Decidable c] (hc : (x' = x ∧ y' = y ∧ z' = z) ↔ c) (N : News h₀ L s.heap news) (h1 : (D1, ({ cls := .type "tuple", data := .seq [Value.int x t, .int y u, .int z v].toArray } : Obj)) ∈ news) (h2 : (D2, isoObj x' y' z' t') ∈ news) (hu : A.units < cLine) (h : Q (.bool (decide c)) s) : wpAny (model prog w) A (compareOp .Eq (.ref D1) (.ref D2)) Q E s :=
  show wpAny (model prog w) A (richCompare .Eq (.ref D1) (.ref D2)) Q E s from
  PySem.SeqAt.rc_sub_first_or (Ta := "tuple") (Tb := "datetime.IsoCalendarDate") ⟨_, (N _ h1).1, rfl⟩ ⟨_, (N _ h2).1, rfl⟩ (by decide) sub_iso_tuple slot_iso_eq
    (call_meets slot_iso_eq ⟨_, (N _ h2).1, rfl⟩ PySem.F.entry_tuple_eq (PySem.F.args_tuple_eq_2 _ _) (t3_eq D2 D1 "datetime.IsoCalendarDate" "tuple" x' y' z' x y z t' (t' + 1) (t' + 1 + 1) t u v sub_tuple_tuple')
      ⟨(N _ h2).1, (N _ h1).1, ⟨nofun, by rw [decide_eq_decide.mpr hc]; exact h⟩⟩) (.inr hu)
theorem w_lt_ti {c : Prop} [Decidable c] (hc : (x' > x ∨ x' = x ∧ (y' > y ∨ y' = y ∧ z' > z)) ↔ c) (N : News h₀ L s.heap news) (h1 : (D1, ({ cls := .type "tuple", data := .seq [Value.int x t, .int y u, .int z v].toArray } : Obj)) ∈ news) (h2 : (D2, isoObj x' y' z' t') ∈ news) (hu : A.units < cLine) (h : Q (.bool (decide c)) s) : wpAny (model prog w) A (compareOp .Lt (.ref D1) (.ref D2)) Q E s :=
  show wpAny (model prog w) A (richCompare .Lt (.ref D1) (.ref D2)) Q E s from
  PySem.SeqAt.rc_sub_first_or (Ta := "tuple") (Tb := "datetime.IsoCalendarDate") ⟨_, (N _ h1).1, rfl⟩ ⟨_, (N _ h2).1, rfl⟩ (by decide) sub_iso_tuple slot_iso_gt
    (call_meets slot_iso_gt ⟨_, (N _ h2).1, rfl⟩ PySem.F.entry_tuple_gt (PySem.F.args_tuple_gt_2 _ _) (t3_gt D2 D1 "datetime.IsoCalendarDate" "tuple" x' y' z' x y z t' (t' + 1) (t' + 1 + 1) t u v sub_tuple_tuple')
      ⟨(N _ h2).1, (N _ h1).1, ⟨nofun, by rw [decide_eq_decide.mpr hc]; exact h⟩⟩) (.inr hu)
end
end
-- Cal5
section
open PySem.Builtin._datetime PySem.Builtin.Time
open PySem.Builtin._datetime PySem.Builtin.Time
theorem leap_lp (y : Int) : timeIsLeap y = lp y := by
  unfold timeIsLeap lp
  rw [Bool.eq_iff_iff]
  simp
theorem before_dbm {w : Bool} {m : Int} (h : 1 ≤ m ∧ m ≤ 12) : timeDaysBefore w m = dbm w m := by
  have hm : m = 1 ∨ m = 2 ∨ m = 3 ∨ m = 4 ∨ m = 5 ∨ m = 6 ∨ m = 7 ∨ m = 8 ∨ m = 9 ∨ m = 10 ∨ m = 11 ∨ m = 12 := by omega
  rcases hm with rfl | rfl | rfl | rfl | rfl | rfl | rfl | rfl | rfl | rfl | rfl | rfl <;> cases w <;> decide
theorem days_dm {y m : Int} (h : 1 ≤ m ∧ m ≤ 12) : daysInMonth y m = dm (lp y) m := by
  have hm : m = 1 ∨ m = 2 ∨ m = 3 ∨ m = 4 ∨ m = 5 ∨ m = 6 ∨ m = 7 ∨ m = 8 ∨ m = 9 ∨ m = 10 ∨ m = 11 ∨ m = 12 := by omega
  unfold daysInMonth
  rw [leap_lp]
  generalize lp y = w
  rcases hm with rfl | rfl | rfl | rfl | rfl | rfl | rfl | rfl | rfl | rfl | rfl | rfl <;> cases w <;> decide
theorem ord_jd {y m d : Int} (h : 1 ≤ m ∧ m ≤ 12) : toOrdinal y m d = jdG y m d - 1721425 := by
  unfold toOrdinal jdG fy
  simp only
  rw [leap_lp, before_dbm h]
  omega
theorem week1 (y : Int) : isoWeek1Monday y = fy y - 1721425 - (fy y - 1721425 + 6) % 7 + (if (fy y - 1721425 + 6) % 7 > 3 then 7 else 0) := by
  unfold isoWeek1Monday
  simp only
  rw [ord_jd (by decide), jdG_11']
  unfold weekdayOf
  split <;> omega
where
  jdG_11' : jdG y 1 1 = fy y := by unfold jdG dbm; simp
theorem gy_step (N y : Int) (h0 : fy y ≤ N) (h1 : N < fy (y + 1)) : gy N = y := by
  rw [fy_next] at h1
  exact gy_eq (p := N - fy y) (by omega) (by omega) (by omega)
theorem iso_cal (N : Int) : isoCalendarOf (gy N) (gm N) (gd N) = (iy N, iw N, idy N) := by
  have hg := G_ok N
  have hin := gy_in N
  have hb := b2_01 (lp (gy N))
  have hb0 := b2_01 (lp (gy N - 1))
  have hb1 := b2_01 (lp (gy N + 1))
  have f1 := fy_next (gy N)
  have f2 := fy_next (gy N + 1)
  have f0 := fy_next (gy N - 1)
  have e0 : gy N - 1 + 1 = gy N := by omega
  rw [e0] at f0
  unfold pl at hin
  have hth : th N = N - wd N + 3 := rfl
  have hwd : wd N = (N - 2451547) % 7 := rfl
  unfold isoCalendarOf
  simp only
  rw [ord_jd ⟨hg.1, hg.2.1⟩, G_jd, week1, week1, week1, Int.fdiv_eq_ediv_of_nonneg _ (by decide), Int.fmod_eq_emod_of_nonneg _ (by decide), Int.fdiv_eq_ediv_of_nonneg _ (by decide)]
  have hiw : iw N = (th N - fy (iy N)) / 7 + 1 := rfl
  have hid : idy N = wd N + 1 := rfl
  have hiy : iy N = gy (th N) := rfl
  by_cases c1 : th N < fy (gy N)
  · have e : iy N = gy N - 1 := by rw [hiy]; exact gy_step _ _ (by omega) (by rw [e0]; exact c1)
    rw [e] at hiw
    rw [e]
    generalize fy (gy N) = F at *
    generalize fy (gy N - 1) = F0 at *
    generalize fy (gy N + 1) = F1 at *
    rw [if_pos (by split <;> omega)]
    refine Prod.ext rfl (Prod.ext ?_ ?_)
    · show _ = iw N
      rw [hiw]; simp only; split <;> omega
    · show _ = idy N
      rw [hid]; simp only; split <;> omega
  · by_cases c2 : fy (gy N + 1) ≤ th N
    · have e : iy N = gy N + 1 := by rw [hiy]; exact gy_step _ _ c2 (by omega)
      rw [e] at hiw
      rw [e]
      generalize fy (gy N) = F at *
      generalize fy (gy N - 1) = F0 at *
      generalize fy (gy N + 1) = F1 at *
      rw [if_neg (by split <;> omega), if_pos (by simp; constructor <;> (repeat' split) <;> omega)]
      refine Prod.ext rfl (Prod.ext ?_ ?_)
      · show _ = iw N
        rw [hiw]; simp only; omega
      · show _ = idy N
        rw [hid]; simp only; split <;> omega
    · have e : iy N = gy N := by rw [hiy]; exact gy_step _ _ (by omega) (by omega)
      rw [e] at hiw
      rw [e]
      generalize fy (gy N) = F at *
      generalize fy (gy N - 1) = F0 at *
      generalize fy (gy N + 1) = F1 at *
      rw [if_neg (by split <;> omega), if_neg (by simp; intro h; (repeat' split at h) <;> (repeat' split) <;> omega)]
      refine Prod.ext rfl (Prod.ext ?_ ?_)
      · show _ = iw N
        rw [hiw]; simp only; split <;> omega
      · show _ = idy N
        rw [hid]; simp only; split <;> omega
end
-- Cal6
section
theorem fy_mono {a b : Int} (h : a < b) : fy (a + 1) ≤ fy b := by unfold fy; omega
theorem fj_mono {a b : Int} (h : a < b) : fj (a + 1) ≤ fj b := by unfold fj; omega
theorem fy_mono1 {a b : Int} (h : a < b) : fy a + 365 + b2 (lp a) ≤ fy b := by rw [← fy_next]; exact fy_mono h
theorem fj_mono1 {a b : Int} (h : a < b) : fj a + 365 + b2 (lj a) ≤ fj b := by rw [← fj_next]; exact fj_mono h
/-- months and days rise with the place -/
theorem mo_lt {w : Bool} {p q : Int} (h0 : 0 ≤ p) (h : p < q) (h1 : q < 365 + b2 w) : mo w p < mo w q ∨ mo w p = mo w q ∧ p - dbm w (mo w p) + 1 < q - dbm w (mo w q) + 1 := by
  have hle : mo w p ≤ mo w q := by
    unfold mo adj b2 at *
    cases w <;> simp at * <;> split <;> split <;> omega
  by_cases e : mo w p = mo w q
  · right; rw [e]; exact ⟨rfl, by omega⟩
  · left; omega
def Lex3 (a b c a' b' c' : Int) : Prop := a < a' ∨ a = a' ∧ (b < b' ∨ b = b' ∧ c < c')
theorem gd_eq' (N : Int) : gd N = pl N - dbm (lp (gy N)) (mo (lp (gy N)) (pl N)) + 1 := by rw [gd_pl, gm_mo]
theorem G_up {N M : Int} (h : N < M) : Lex3 (gy N) (gm N) (gd N) (gy M) (gm M) (gd M) := by
  have a := gy_in N
  have b := gy_in M
  have en : pl N = N - fy (gy N) := rfl
  have em : pl M = M - fy (gy M) := rfl
  unfold Lex3
  rcases Int.lt_trichotomy (gy N) (gy M) with c | c | c
  · exact Or.inl c
  · right
    refine ⟨c, ?_⟩
    rw [gm_mo, gm_mo, gd_eq', gd_eq', c]
    rw [c] at a en
    exact mo_lt a.1 (by omega) b.2
  · have := fy_mono1 c; omega
theorem lex_iff {a b c a' b' c' : Int} {N M : Int} (h1 : N < M → Lex3 a b c a' b' c') (h2 : M < N → Lex3 a' b' c' a b c) (h3 : N = M → a = a' ∧ b = b' ∧ c = c') :
    ((a = a' ∧ b = b' ∧ c = c') ↔ N = M) ∧ ((a < a' ∨ a = a' ∧ (b < b' ∨ b = b' ∧ c < c')) ↔ N < M) := by
  unfold Lex3 at *
  rcases Int.lt_trichotomy N M with k | k | k
  · have := h1 k; omega
  · have := h3 k; omega
  · have := h2 k; omega
theorem G_iff (N M : Int) : ((gy N = gy M ∧ gm N = gm M ∧ gd N = gd M) ↔ N = M) ∧ ((gy N < gy M ∨ gy N = gy M ∧ (gm N < gm M ∨ gm N = gm M ∧ gd N < gd M)) ↔ N < M) :=
  lex_iff G_up G_up (fun h => by subst h; exact ⟨rfl, rfl, rfl⟩)
theorem O_iff (N M : Int) : ((gy N = gy M ∧ pl N + 1 = pl M + 1) ↔ N = M) ∧ ((gy N < gy M ∨ gy N = gy M ∧ pl N + 1 < pl M + 1) ↔ N < M) := by
  have a := gy_in N
  have b := gy_in M
  have en : pl N = N - fy (gy N) := rfl
  have em : pl M = M - fy (gy M) := rfl
  rcases Int.lt_trichotomy (gy N) (gy M) with c | c | c
  · have := fy_mono1 c; omega
  · rw [c] at a en; rw [c]; omega
  · have := fy_mono1 c; omega
theorem J_up {N M : Int} (h : N < M) : Lex3 (jy N) (jm N) (jdy N) (jy M) (jm M) (jdy M) := by
  obtain ⟨y, p, a, a0, a1⟩ := J_in N
  obtain ⟨z, q, b, b0, b1⟩ := J_in M
  have ea := J_eq a a0 a1
  have eb := J_eq b b0 b1
  rw [ea.1, ea.2.1, ea.2.2, eb.1, eb.2.1, eb.2.2]
  unfold Lex3
  rcases Int.lt_trichotomy y z with c | c | c
  · exact Or.inl c
  · right
    subst c
    exact ⟨rfl, mo_lt a0 (by omega) b1⟩
  · have := fj_mono1 c; omega
theorem J_iff (N M : Int) : ((jy N = jy M ∧ jm N = jm M ∧ jdy N = jdy M) ↔ N = M) ∧ ((jy N < jy M ∨ jy N = jy M ∧ (jm N < jm M ∨ jm N = jm M ∧ jdy N < jdy M)) ↔ N < M) :=
  lex_iff J_up J_up (fun h => by subst h; exact ⟨rfl, rfl, rfl⟩)
theorem W_up {N M : Int} (h : N < M) : Lex3 (iy N) (iw N) (idy N) (iy M) (iw M) (idy M) := by
  have a := gy_in (th N)
  have b := gy_in (th M)
  unfold pl at a b
  have hn : iy N = gy (th N) := rfl
  have hm : iy M = gy (th M) := rfl
  rw [← hn] at a
  rw [← hm] at b
  have wn : wd N = (N - 2451547) % 7 := rfl
  have wm : wd M = (M - 2451547) % 7 := rfl
  have tn : th N = N - wd N + 3 := rfl
  have tm : th M = M - wd M + 3 := rfl
  have in' : iw N = (th N - fy (iy N)) / 7 + 1 := rfl
  have im' : iw M = (th M - fy (iy M)) / 7 + 1 := rfl
  have dn : idy N = wd N + 1 := rfl
  have dm' : idy M = wd M + 1 := rfl
  unfold Lex3
  rcases Int.lt_trichotomy (iy N) (iy M) with c | c | c
  · exact Or.inl c
  · right
    refine ⟨c, ?_⟩
    rw [c] at in'
    generalize fy (iy M) = F at *
    have hq : th N ≤ th M := by omega
    by_cases e : th N = th M
    · right; rw [in', im', e]; exact ⟨rfl, by omega⟩
    · left
      have h7 : th N + 7 ≤ th M := by omega
      omega
  · have := fy_mono1 c; omega
theorem W_iff (N M : Int) : ((iy N = iy M ∧ iw N = iw M ∧ idy N = idy M) ↔ N = M) ∧ ((iy N < iy M ∨ iy N = iy M ∧ (iw N < iw M ∨ iw N = iw M ∧ idy N < idy M)) ↔ N < M) :=
  lex_iff W_up W_up (fun h => by subst h; exact ⟨rfl, rfl, rfl⟩)
/-- the next place -/
theorem mo_next {w : Bool} {p : Int} (h0 : 0 ≤ p) (h1 : p < 365 + b2 w) :
    (p - dbm w (mo w p) + 1 < dm w (mo w p) → p + 1 < 365 + b2 w ∧ mo w (p + 1) = mo w p) ∧
    (¬ p - dbm w (mo w p) + 1 < dm w (mo w p) → mo w p < 12 → p + 1 < 365 + b2 w ∧ mo w (p + 1) = mo w p + 1 ∧ p + 1 - dbm w (mo w p + 1) + 1 = 1) ∧
    (¬ p - dbm w (mo w p) + 1 < dm w (mo w p) → ¬ mo w p < 12 → p + 1 = 365 + b2 w) := by
  have hk := mo_in h0 h1
  have hv : mo w p = ((p + (if p < 58 + b2 w then 0 else -(adj w))) * 12 + 373) / 367 := rfl
  have hv1 : mo w (p + 1) = ((p + 1 + (if p + 1 < 58 + b2 w then 0 else -(adj w))) * 12 + 373) / 367 := rfl
  generalize mo w (p + 1) = m1 at *
  generalize mo w p = m at *
  have hm : m = 1 ∨ m = 2 ∨ m = 3 ∨ m = 4 ∨ m = 5 ∨ m = 6 ∨ m = 7 ∨ m = 8 ∨ m = 9 ∨ m = 10 ∨ m = 11 ∨ m = 12 := by omega
  cases w
  · simp only [b2, adj, dbm, dm, Bool.false_eq_true, if_false] at *
    rcases hm with rfl | rfl | rfl | rfl | rfl | rfl | rfl | rfl | rfl | rfl | rfl | rfl <;> simp at * <;> split at hv <;> split at hv1 <;> omega
  · simp only [b2, adj, dbm, dm, if_true] at *
    rcases hm with rfl | rfl | rfl | rfl | rfl | rfl | rfl | rfl | rfl | rfl | rfl | rfl <;> simp at * <;> split at hv <;> split at hv1 <;> omega
theorem mo_0 (w : Bool) : mo w 0 = 1 ∧ dbm w 1 = 0 := by cases w <;> decide
theorem G_of {y p N : Int} (h : N = fy y + p) (h0 : 0 ≤ p) (h1 : p < 365 + b2 (lp y)) : gy N = y ∧ gm N = mo (lp y) p ∧ gd N = p - dbm (lp y) (mo (lp y) p) + 1 := by
  have e := gy_eq h h0 h1
  have ep : pl N = p := by unfold pl; rw [e]; omega
  rw [gm_mo, gd_eq', e, ep]
  exact ⟨rfl, rfl, rfl⟩
/-- the next day's date by the calendar's own rule -/
theorem G_next (N : Int) :
    (gd N < dm (lp (gy N)) (gm N) → gy (N + 1) = gy N ∧ gm (N + 1) = gm N ∧ gd (N + 1) = gd N + 1) ∧
    (¬ gd N < dm (lp (gy N)) (gm N) → gm N < 12 → gy (N + 1) = gy N ∧ gm (N + 1) = gm N + 1 ∧ gd (N + 1) = 1) ∧
    (¬ gd N < dm (lp (gy N)) (gm N) → ¬ gm N < 12 → gy (N + 1) = gy N + 1 ∧ gm (N + 1) = 1 ∧ gd (N + 1) = 1) := by
  have a := gy_in N
  have k := mo_next a.1 a.2
  have en : pl N = N - fy (gy N) := rfl
  have f := fy_next (gy N)
  rw [gd_eq' N, gm_mo N]
  refine ⟨fun h => ?_, fun h1 h2 => ?_, fun h1 h2 => ?_⟩
  · obtain ⟨k1, k2⟩ := k.1 h
    have e := G_of (y := gy N) (p := pl N + 1) (N := N + 1) (by omega) (by omega) k1
    rw [e.1, e.2.1, e.2.2, k2]; omega
  · obtain ⟨k1, k2, k3⟩ := k.2.1 h1 h2
    have e := G_of (y := gy N) (p := pl N + 1) (N := N + 1) (by omega) (by omega) k1
    rw [e.1, e.2.1, e.2.2, k2]; omega
  · have k1 := k.2.2 h1 h2
    have e := G_of (y := gy N + 1) (p := 0) (N := N + 1) (by omega) (by omega) (by have := b2_01 (lp (gy N + 1)); omega)
    have z := mo_0 (lp (gy N + 1))
    rw [e.1, e.2.1, e.2.2, z.1, z.2]; omega
theorem J_next (N : Int) :
    (jdy N < dm (lj (jy N)) (jm N) → jy (N + 1) = jy N ∧ jm (N + 1) = jm N ∧ jdy (N + 1) = jdy N + 1) ∧
    (¬ jdy N < dm (lj (jy N)) (jm N) → jm N < 12 → jy (N + 1) = jy N ∧ jm (N + 1) = jm N + 1 ∧ jdy (N + 1) = 1) ∧
    (¬ jdy N < dm (lj (jy N)) (jm N) → ¬ jm N < 12 → jy (N + 1) = jy N + 1 ∧ jm (N + 1) = 1 ∧ jdy (N + 1) = 1) := by
  obtain ⟨y, p, a, a0, a1⟩ := J_in N
  have ea := J_eq a a0 a1
  have k := mo_next a0 a1
  have f := fj_next y
  rw [ea.1, ea.2.1, ea.2.2]
  refine ⟨fun h => ?_, fun h1 h2 => ?_, fun h1 h2 => ?_⟩
  · obtain ⟨k1, k2⟩ := k.1 h
    have e := J_eq (y := y) (p := p + 1) (N := N + 1) (by omega) (by omega) k1
    rw [e.1, e.2.1, e.2.2, k2]; omega
  · obtain ⟨k1, k2, k3⟩ := k.2.1 h1 h2
    have e := J_eq (y := y) (p := p + 1) (N := N + 1) (by omega) (by omega) k1
    rw [e.1, e.2.1, e.2.2, k2]; omega
  · have k1 := k.2.2 h1 h2
    have e := J_eq (y := y + 1) (p := 0) (N := N + 1) (by omega) (by omega) (by have := b2_01 (lj (y + 1)); omega)
    have z := mo_0 (lj (y + 1))
    rw [e.1, e.2.1, e.2.2, z.1, z.2]; omega
end
-- W5
section
variable {prog : Program} {w : World} {A : Around} {E : Value → Shared → Prop} {s : Shared} {Q : Value → Shared → Prop} {h₀ : Heap} {L : Addr} {m₀ : Str → Option Value} {news : List (Addr × Obj)} {t1 t2 t3 : Tok}
theorem w_dateN {N : Int} (F : Fr h₀ L s.heap m₀) (Nw : News h₀ L s.heap news) (hr : 1 ≤ gy N ∧ gy N ≤ 9999)
    (h : ∀ D h', Fr h₀ L h' m₀ → News h₀ L h' ((D, dateObj (gy N) (gm N) (gd N)) :: news) → Q (.ref D) { s with heap := h' }) :
    wpAny (model prog w) A (call (.type "datetime.date") [.int (gy N) t1, .int (gm N) t2, .int (gd N) t3]) Q E s :=
  have g := G_ok N
  w_date F Nw hr ⟨g.1, g.2.1⟩ ⟨g.2.2.1, (dm_facts g.2.2.2).1⟩ (by rw [days_dm ⟨g.1, g.2.1⟩]; exact g.2.2.2) h
theorem w_date_noN {N : Int} (hA : A.handled = none) (hy0 : -600000 ≤ gy N ∧ gy N ≤ 600000) (hr : ¬ (1 ≤ gy N ∧ gy N ≤ 9999))
    (h : ∀ h' tk e, Heap.NewExc s.heap h' e "ValueError" → E (.ref e) { s with heap := h', toks := tk }) :
    wpAny (model prog w) A (call (.type "datetime.date") [.int (gy N) t1, .int (gm N) t2, .int (gd N) t3]) Q E s :=
  have g := G_ok N
  w_date_no hA hy0 hr ⟨g.1, g.2.1⟩ ⟨g.2.2.1, (dm_facts g.2.2.2).1⟩ h
end
local macro_rules | `(tactic| walk_at "my room") => `(tactic| first | ktr_units | ke_room)
local macro_rules | `(tactic| walk_at "call type:datetime.date") => `(tactic| (k_here; with_reducible (refine' w_dateN ?k1 ?k2 ?k3 ?_; (case k1 => assumption); (case k2 => assumption); (case k3 => assumption)); intro D9 h9 F9 N9; (try k_sweep); (try dsimp only)))
local macro_rules | `(tactic| walk_at "call type:datetime.date") => `(tactic| (k_here; with_reducible (refine' w_date_noN ?k1 ?k2 ?k3 ?_; (case k2 => assumption); (case k3 => assumption)); k_dflt (case k1 => exact rfl); intro h9 tk9 e9 X9; (try dsimp only)))
local macro_rules | `(tactic| walk_at "getMethod ref") => `(tactic| (k_here; (with_reducible show wpAny _ _ (getMethod (Value.ref _) (PySem.Str.ofString "isocalendar") _) _ _ _); k_dflt (refine' w_date_method ?k1 ?k2 ?_; (case k1 => k_asm); (case k2 => k_mem))))
local macro_rules | `(tactic| walk_at "call builtin:datetime.date.isocalendar") => `(tactic| (k_here; k_dflt (refine' w_date_iso ?k1 ?k2 ?k3 ?k4 ?_; (case k1 => k_asm); (case k2 => k_asm); (case k3 => k_mem); (case k4 => exact iso_cal _)); intro D9 t9 tk9 h9 F9 N9; (try k_sweep); (try dsimp only)))
local macro_rules | `(tactic| walk_at "compareOp NotEq ref ref") => `(tactic| (k_here; (with_reducible show wpAny _ _ (compareOp _ (Value.ref _) (Value.ref _)) _ _ _); k_dflt (first | (refine' w_ne_tt3 ?k1 ?k2 ?k3 ?k4 ?_; (case k1 => k_asm); (case k2 => k_mem); (case k3 => k_mem); (case k4 => walk_at "my room")) | (refine' w_ne_tt2 ?k1 ?k2 ?k3 ?k4 ?_; (case k1 => k_asm); (case k2 => k_mem); (case k3 => k_mem); (case k4 => walk_at "my room")) | (refine' w_ne_it ?k1 ?k2 ?k3 ?k4 ?_; (case k1 => k_asm); (case k2 => k_mem); (case k3 => k_mem); (case k4 => walk_at "my room")))))
local macro_rules | `(tactic| walk_at "compareOp Eq ref ref") => `(tactic| (k_here; (with_reducible show wpAny _ _ (compareOp _ (Value.ref _) (Value.ref _)) _ _ _); k_dflt (first | (refine' w_eq_tt3 ?kc ?k1 ?k2 ?k3 ?k4 ?_; (case k1 => k_asm); (case k2 => k_mem); (case k3 => k_mem); (case kc => assumption); (case k4 => walk_at "my room")) | (refine' w_eq_tt2 ?kc ?k1 ?k2 ?k3 ?k4 ?_; (case k1 => k_asm); (case k2 => k_mem); (case k3 => k_mem); (case kc => assumption); (case k4 => walk_at "my room")) | (refine' w_eq_ti ?kc ?k1 ?k2 ?k3 ?k4 ?_; (case k1 => k_asm); (case k2 => k_mem); (case k3 => k_mem); (case kc => assumption); (case k4 => walk_at "my room")))))
local macro_rules | `(tactic| walk_at "compareOp Eq ref ref") => `(tactic| (k_here; (with_reducible show wpAny _ _ (compareOp _ (Value.ref _) (Value.ref _)) _ _ _); k_dflt (first | (refine' w_eq_it ?k1 ?k2 ?k3 ?k4 ?_; (case k1 => k_asm); (case k2 => k_mem); (case k3 => k_mem); (case k4 => walk_at "my room")))))
local macro_rules | `(tactic| walk_at "compareOp Lt ref ref") => `(tactic| (k_here; (with_reducible show wpAny _ _ (compareOp _ (Value.ref _) (Value.ref _)) _ _ _); k_dflt (first | (refine' w_lt_tt3 ?kc ?k1 ?k2 ?k3 ?k4 ?_; (case k1 => k_asm); (case k2 => k_mem); (case k3 => k_mem); (case kc => assumption); (case k4 => walk_at "my room")) | (refine' w_lt_tt2 ?kc ?k1 ?k2 ?k3 ?k4 ?_; (case k1 => k_asm); (case k2 => k_mem); (case k3 => k_mem); (case kc => assumption); (case k4 => walk_at "my room")) | (refine' w_lt_ti ?kc ?k1 ?k2 ?k3 ?k4 ?_; (case k1 => k_asm); (case k2 => k_mem); (case k3 => k_mem); (case kc => assumption); (case k4 => walk_at "my room")))))
-- U1
local macro_rules | `(tactic| walk_at "call ref") => `(tactic| ((with_reducible show wpAny _ _ (call (Value.ref 306) [Value.int (gy _) _, Value.int (pl _ + 1) _] _) _ _ _); k_dflt (refine' ct_use (C_to_jdO_N _ _ _ _ ?l1) ?k1 ?k2 ?k3 ?k4 ?k5 ?kK ?kd ?ku ?_; (case k1 => k_asm); (case k2 => k_asm); (case k3 => k_asm); (case k4 => k_asm); (case k5 => k_asm); (case kK => first | exact rfl | assumption); (case kd => ktr_room); (case ku => ktr_units); (case l1 => walk_at "my om")); intro v9 nw9 h9 tk9 hP9 F9 N9; k_dflt (obtain ⟨e8, x9, t9, e9, B9⟩ := hP9; subst e9; subst e8); (try simp only [List.nil_append, List.cons_append] at N9); (try k_sweep); (try dsimp only); (try k_fold)))
local macro_rules | `(tactic| walk_at "call ref") => `(tactic| ((with_reducible show wpAny _ _ (call (Value.ref 313) [Value.float _ _] _) _ _ _); k_dflt (refine' ct_use (C_from_jdO _ _ _ _ _ _ ?l0 ?l1 ?l2 ?l3 ?l4) ?k1 ?k2 ?k3 ?k4 ?k5 ?kK ?kd ?ku ?_; (case k1 => k_asm); (case k2 => k_asm); (case k3 => k_asm); (case k4 => k_asm); (case k5 => k_asm); (case kK => first | exact rfl | assumption); (case kd => ktr_room); (case ku => ktr_units); (case l0 => assumption); (case l1 => with_reducible assumption); (case l2 => walk_at "my om"); (case l3 => walk_at "my om"); (case l4 => walk_at "my om")); intro v9 nw9 h9 tk9 hP9 F9 N9; k_dflt (obtain ⟨D9, t9, u9, e9, e8⟩ := hP9; subst e9; subst e8); (try simp only [List.nil_append, List.cons_append] at N9); (try k_sweep); (try dsimp only); (try k_fold)))
local macro_rules | `(tactic| walk_at "call ref") => `(tactic| ((with_reducible show wpAny _ _ (call (Value.ref 320) [Value.int (gy _) _, Value.int (gm _) _, Value.int (gd _) _] _) _ _ _); k_dflt (refine' ct_use (C_from_gO_N _ _ _ _ _) ?k1 ?k2 ?k3 ?k4 ?k5 ?kK ?kd ?ku ?_; (case k1 => k_asm); (case k2 => k_asm); (case k3 => k_asm); (case k4 => k_asm); (case k5 => k_asm); (case kK => first | exact rfl | assumption); (case kd => ktr_room); (case ku => ktr_units)); intro v9 nw9 h9 tk9 hP9 F9 N9; k_dflt (obtain ⟨D9, t9, u9, e9, e8⟩ := hP9; subst e9; subst e8); (try simp only [List.nil_append, List.cons_append] at N9); (try k_sweep); (try dsimp only); (try k_fold)))
local macro_rules | `(tactic| walk_at "call ref") => `(tactic| ((with_reducible show wpAny _ _ (call (Value.ref 327) [Value.int (gy _) _, Value.int (pl _ + 1) _] _) _ _ _); k_dflt (refine' ct_use (C_to_gO _ _ _ _) ?k1 ?k2 ?k3 ?k4 ?k5 ?kK ?kd ?ku ?_; (case k1 => k_asm); (case k2 => k_asm); (case k3 => k_asm); (case k4 => k_asm); (case k5 => k_asm); (case kK => first | exact rfl | assumption); (case kd => ktr_room); (case ku => ktr_units)); intro v9 nw9 h9 tk9 hP9 F9 N9; k_dflt (obtain ⟨D9, t9, u9, v9, e9, e8⟩ := hP9; subst e9; subst e8); (try simp only [List.nil_append, List.cons_append] at N9); (try k_sweep); (try dsimp only); (try k_fold)))
local macro_rules | `(tactic| walk_at "call ref") => `(tactic| ((with_reducible show wpAny _ _ (call (Value.ref 250) [Value.int (iy _) _, Value.int (iw _) _, Value.int (idy _) _] _) _ _ _); k_dflt (refine' ct_use (C_to_jdI _ _ _ _ _ ?l1) ?k1 ?k2 ?k3 ?k4 ?k5 ?kK ?kd ?ku ?_; (case k1 => k_asm); (case k2 => k_asm); (case k3 => k_asm); (case k4 => k_asm); (case k5 => k_asm); (case kK => first | exact rfl | assumption); (case kd => ktr_room); (case ku => ktr_units); (case l1 => walk_at "my om")); intro v9 nw9 h9 tk9 hP9 F9 N9; k_dflt (obtain ⟨e8, x9, t9, e9, B9⟩ := hP9; subst e9; subst e8); (try simp only [List.nil_append, List.cons_append] at N9); (try k_sweep); (try dsimp only); (try k_fold)))
local macro_rules | `(tactic| walk_at "call ref") => `(tactic| ((with_reducible show wpAny _ _ (call (Value.ref 348) [Value.int _ _, Value.int _ _] _) _ _ _); k_dflt (refine' ct_use (C_jdp _ _ _ _ _ ?l1 ?l2) ?k1 ?k2 ?k3 ?k4 ?k5 ?kK ?kd ?ku ?_; (case k1 => k_asm); (case k2 => k_asm); (case k3 => k_asm); (case k4 => k_asm); (case k5 => k_asm); (case kK => first | exact rfl | assumption); (case kd => ktr_room); (case ku => ktr_units); (case l1 => walk_at "my om"); (case l2 => walk_at "my om")); intro v9 nw9 h9 tk9 hP9 F9 N9; k_dflt (obtain ⟨e8, x9, t9, e9, B9⟩ := hP9; subst e9; subst e8); (try simp only [List.nil_append, List.cons_append] at N9); (try k_sweep); (try dsimp only); (try k_fold)))
local macro_rules | `(tactic| walk_at "call ref") => `(tactic| ((with_reducible show wpAny _ _ (call (Value.ref 348) [Value.int _ _, Value.int 0 _] _) _ _ _); k_dflt (refine' ct_use (C_jd0 _ _ _ _ ?l1) ?k1 ?k2 ?k3 ?k4 ?k5 ?kK ?kd ?ku ?_; (case k1 => k_asm); (case k2 => k_asm); (case k3 => k_asm); (case k4 => k_asm); (case k5 => k_asm); (case kK => first | exact rfl | assumption); (case kd => ktr_room); (case ku => ktr_units); (case l1 => walk_at "my om")); intro v9 nw9 h9 tk9 hP9 F9 N9; k_dflt (obtain ⟨e8, x9, t9, e9, B9⟩ := hP9; subst e9; subst e8); (try simp only [List.nil_append, List.cons_append] at N9); (try k_sweep); (try dsimp only); (try k_fold)))
local macro_rules | `(tactic| walk_at "call ref") => `(tactic| ((with_reducible show wpAny _ _ (call (Value.ref 369) [Value.int _ _] _) _ _ _); k_dflt (refine' ct_use (C_newyear _ _ _) ?k1 ?k2 ?k3 ?k4 ?k5 ?kK ?kd ?ku ?_; (case k1 => k_asm); (case k2 => k_asm); (case k3 => k_asm); (case k4 => k_asm); (case k5 => k_asm); (case kK => first | exact rfl | assumption); (case kd => ktr_room); (case ku => ktr_units)); intro v9 nw9 h9 tk9 hP9 F9 N9; k_dflt (obtain ⟨t9, e9, e8⟩ := hP9; subst e9; subst e8); (try simp only [List.nil_append, List.cons_append] at N9); (try k_sweep); (try dsimp only); (try k_fold)))
local macro_rules | `(tactic| walk_at "call ref") => `(tactic| ((with_reducible show wpAny _ _ (call (Value.ref 362) [Value.bool _] _) _ _ _); k_dflt (refine' ct_use (C_lengths _ _) ?k1 ?k2 ?k3 ?k4 ?k5 ?kK ?kd ?ku ?_; (case k1 => k_asm); (case k2 => k_asm); (case k3 => k_asm); (case k4 => k_asm); (case k5 => k_asm); (case kK => first | exact rfl | assumption); (case kd => ktr_room); (case ku => ktr_units)); intro v9 nw9 h9 tk9 hP9 F9 N9; k_dflt (obtain ⟨D9, t0, t1, t2, t3, t4, t5, t6, t7, t8, t9, t10, t11, e9, e8⟩ := hP9; subst e9; subst e8); (try simp only [List.nil_append, List.cons_append] at N9); (try k_sweep); (try dsimp only); (try k_fold)))
-- L1
abbrev o2 (a b : Int) (t u : Tok) : Obj := { cls := .type "tuple", data := .seq [Value.int a t, .int b u].toArray }
abbrev o3 (a b c : Int) (t u v : Tok) : Obj := { cls := .type "tuple", data := .seq [Value.int a t, .int b u, .int c v].toArray }
/-- a def that the law itself calls, within which an exception may be caught -/
def CtL (w : World) (p : Program) (loose : List Str) (mean : ExcName → Option Value) (mg mb : Str → Option Value) (f : Addr) (d : Nat) (vs : List Value) (news : List (Addr × Obj)) (P : Value → Prop) : Prop :=
  ∀ (dp un : Nat) (gd : Option (List Code)) (cn : Str) (cs : Scope) (a : Addr) (ccd : Value) (A₀ : Around) (base h₀ : Heap) (L : Addr) (m : Str → Option Value) (s : Shared) (Q E : Value → Shared → Prop),
    Below A₀ base [] h₀ → Fr h₀ L s.heap m → (hd.heap_39 w.params).In h₀ → News h₀ L s.heap news → Top p loose mean mg mb h₀ → cs.kind = .function →
    (hd.heap_39 w.params).In base → Top p loose mean mg mb base →
    dp + d < recursionLimit → un + (64 + 8 * d) < cLine →
    (∀ v h' tk', P v → Fr h₀ L h' m → News h₀ L h' news → Q v { s with heap := h', toks := tk' }) →
    wpAny (model PySem.Challenge.rw_ad5033_01.row.prog w) (ktrTop dp un gd cn cs L a ccd [] []) (call (.ref f) vs) Q E s
theorem News.sub {h₀ h : Heap} {L : Addr} {news news' : List (Addr × Obj)} (N : News h₀ L h news) (k : ∀ q, q ∈ news' → q ∈ news) : News h₀ L h news' := fun q hq => N q (k q hq)
local macro_rules | `(tactic| walk_at "my sub") => `(tactic| (refine' News.sub ?kN ?kk; (case kN => with_reducible assumption); (case kk => (intro q hq; (repeat (first | exact hq | refine List.Mem.tail _ ?_)))))) 
local macro_rules | `(tactic| walk_at "my inL") => `(tactic| (unfold CtL; k_fill; intros))
local macro_rules | `(tactic| walk_at "my enterL") => `(tactic| (refine wpAny_call ?_; k_dflt (refine' code_defS0 ?k1 ?k2 ?k3 ?k4 ?k5 ?kA ?k6 ?k7 ?k8 ?k9 ?kB ?_ ?cK ?c2 ?c3 ?c4 ?c5; (case kA => exact rfl); (case k2 => k_asm); (case k1 => k_asm); (case k3 => k_asm); (case k4 => k_asm); (case k5 => k_asm); (case k6 => k_is); (case k7 => k_is); (case k8 => ktr_room); (case k9 => first | exact BindsTo.of_eq rfl | exact binds_K (by k_in) rfl (by k_is) rfl rfl rfl); (case kB => exact locs rfl); (case cK => first | exact rfl | assumption); (case c2 => exact rfl); (case c3 => exact rfl); (case c4 => exact rfl); (case c5 => decide); k_whole; intro g' L' h' FG' F' N' B' X' T' D'; (try dsimp only); (try k_lift B'); (try k_fold))))
local macro_rules | `(tactic| walk_at "my raising") => `(tactic| (first
  | (with_reducible show wpAny _ _ (call (Value.ref 404) _ _) _ _ _)
  | (with_reducible show wpAny _ _ (call (Value.ref 411) _ _) _ _ _)))
local macro_rules | `(tactic| walk_at "call ref") => `(tactic| (k_here; walk_at "my raising"; refine wpAny_call ?_; k_dflt (refine' code_defS ?k1 ?k2 ?k3 ?k4 ?k5 ?XB ?TB ?D ?T0 ?kA ?k6 ?k7 ?k8 ?k9 ?kB ?_ ?cK ?c2 ?c3 ?c4 ?c5; (case kA => exact rfl); (case k2 => k_asm); (case k1 => k_asm); (case XB => assumption); (case TB => assumption); (case D => assumption); (case T0 => first | assumption | exact KtsTurn.refl); (case k3 => k_asm); (case k4 => k_asm); (case k5 => k_asm); (case k6 => k_is); (case k7 => k_is); (case k8 => ktr_room); (case k9 => first | exact BindsTo.of_eq rfl | exact binds_K (by k_in) rfl (by k_is) rfl rfl rfl); (case kB => exact locs rfl); (case cK => exact rfl); (case c2 => exact rfl); (case c3 => exact rfl); (case c4 => exact rfl); (case c5 => decide); k_whole; intro g' L' h' FG' F' N' B' X' T' D'; (try dsimp only); (try k_lift B'); (try k_fold))))
theorem L_dayis (N e : Int) (A1 A2 A3 A4 : Addr) (t1 t2 u1 u2 u3 u4 u5 u6 u7 u8 u9 u0 ua : Tok) (hN : -190000000 ≤ N ∧ N ≤ 190000000) (he : 0 ≤ e ∧ e < 8) (hy : (1 ≤ gy N ∧ gy N ≤ 9999) ∨ ¬ (1 ≤ gy N ∧ gy N ≤ 9999)) :
    CtL w p loose mean mg mb 418 24 [.int N t1, .int e t2, .ref A1, .ref A2, .ref A3, .ref A4] [(A1, o3 (gy N) (gm N) (gd N) u1 u2 u3), (A2, o2 (gy N) (pl N + 1) u4 u5), (A3, o3 (jy N) (jm N) (jdy N) u6 u7 u8), (A4, o3 (iy N) (iw N) (idy N) u9 u0 ua)] (fun v => v = .bool true) := by
  have g0 : GTag (PySem.Str.ofString "_law_jd") := trivial
  have g1 : GTag (PySem.Str.ofString "from_jd_gregorian") := trivial
  have g2 : GTag (PySem.Str.ofString "to_jd_gregorian") := trivial
  have g3 : GTag (PySem.Str.ofString "_law_read_week") := trivial
  have g4 : GTag (PySem.Str.ofString "from_jd_ordinal") := trivial
  have g5 : GTag (PySem.Str.ofString "to_jd_ordinal") := trivial
  have g6 : GTag (PySem.Str.ofString "from_jd_julian") := trivial
  have g7 : GTag (PySem.Str.ofString "to_jd_julian") := trivial
  have g8 : GTag (PySem.Str.ofString "to_jd_iso") := trivial
  have g9 : GTag (PySem.Str.ofString "date") := trivial
  have ga : GTag (PySem.Str.ofString "from_gregorian_iso") := trivial
  have gb : GTag (PySem.Str.ofString "from_jd_iso") := trivial
  have tag : NTag N e := trivial
  have hB := gy_bounds hN
  walk_at "my inL"; rename_i hret
  rcases hy with hy | hy
  · walk_at "my enterL"
    k_steps
    all_goals (refine' hret _ _ _ rfl ?kF ?kS; (case kF => k_asm); (case kS => walk_at "my sub"))
  · walk_at "my enterL"
    k_steps
    all_goals (refine' hret _ _ _ rfl ?kF ?kS; (case kF => k_asm); (case kS => walk_at "my sub"))
-- S1
section
variable {prog : Program} {w : World} {A : Around} {E : Value → Shared → Prop} {s : Shared} {Q : Value → Shared → Prop} {h₀ : Heap} {L : Addr} {news : List (Addr × Obj)} {D1 D2 : Addr} {x y z x' y' z' : Int} {t u v t' u' v' : Tok} {n m : Int}
theorem v_eq3 (hc : (x = x' ∧ y = y' ∧ z = z') ↔ n = m) (N : News h₀ L s.heap news) (h1 : (D1, ({ cls := .type "tuple", data := .seq [Value.int x t, .int y u, .int z v].toArray } : Obj)) ∈ news) (h2 : (D2, ({ cls := .type "tuple", data := .seq [Value.int x' t', .int y' u', .int z' v'].toArray } : Obj)) ∈ news) (hu : A.units < cLine) (h : Q (.bool (decide (n = m))) s) : wpAny (model prog w) A (compareOp .Eq (.ref D1) (.ref D2)) Q E s := w_eq_tt3 hc N h1 h2 hu h
theorem v_lt3 (hc : (x < x' ∨ x = x' ∧ (y < y' ∨ y = y' ∧ z < z')) ↔ n < m) (N : News h₀ L s.heap news) (h1 : (D1, ({ cls := .type "tuple", data := .seq [Value.int x t, .int y u, .int z v].toArray } : Obj)) ∈ news) (h2 : (D2, ({ cls := .type "tuple", data := .seq [Value.int x' t', .int y' u', .int z' v'].toArray } : Obj)) ∈ news) (hu : A.units < cLine) (h : Q (.bool (decide (n < m))) s) : wpAny (model prog w) A (compareOp .Lt (.ref D1) (.ref D2)) Q E s := w_lt_tt3 hc N h1 h2 hu h
theorem v_eq2 (hc : (x = x' ∧ y = y') ↔ n = m) (N : News h₀ L s.heap news) (h1 : (D1, ({ cls := .type "tuple", data := .seq [Value.int x t, .int y u].toArray } : Obj)) ∈ news) (h2 : (D2, ({ cls := .type "tuple", data := .seq [Value.int x' t', .int y' u'].toArray } : Obj)) ∈ news) (hu : A.units < cLine) (h : Q (.bool (decide (n = m))) s) : wpAny (model prog w) A (compareOp .Eq (.ref D1) (.ref D2)) Q E s := w_eq_tt2 hc N h1 h2 hu h
theorem v_lt2 (hc : (x < x' ∨ x = x' ∧ y < y') ↔ n < m) (N : News h₀ L s.heap news) (h1 : (D1, ({ cls := .type "tuple", data := .seq [Value.int x t, .int y u].toArray } : Obj)) ∈ news) (h2 : (D2, ({ cls := .type "tuple", data := .seq [Value.int x' t', .int y' u'].toArray } : Obj)) ∈ news) (hu : A.units < cLine) (h : Q (.bool (decide (n < m))) s) : wpAny (model prog w) A (compareOp .Lt (.ref D1) (.ref D2)) Q E s := w_lt_tt2 hc N h1 h2 hu h
theorem v_eqw (hc : (x' = x ∧ y' = y ∧ z' = z) ↔ n = m) (N : News h₀ L s.heap news) (h1 : (D1, ({ cls := .type "tuple", data := .seq [Value.int x t, .int y u, .int z v].toArray } : Obj)) ∈ news) (h2 : (D2, isoObj x' y' z' t') ∈ news) (hu : A.units < cLine) (h : Q (.bool (decide (n = m))) s) : wpAny (model prog w) A (compareOp .Eq (.ref D1) (.ref D2)) Q E s := w_eq_ti hc N h1 h2 hu h
theorem v_ltw (hc : (x' > x ∨ x' = x ∧ (y' > y ∨ y' = y ∧ z' > z)) ↔ n < m) (N : News h₀ L s.heap news) (h1 : (D1, ({ cls := .type "tuple", data := .seq [Value.int x t, .int y u, .int z v].toArray } : Obj)) ∈ news) (h2 : (D2, isoObj x' y' z' t') ∈ news) (hu : A.units < cLine) (h : Q (.bool (decide (n < m))) s) : wpAny (model prog w) A (compareOp .Lt (.ref D1) (.ref D2)) Q E s := w_lt_ti hc N h1 h2 hu h
end
local macro_rules | `(tactic| walk_at "compareOp Eq ref ref") => `(tactic| (k_here; (with_reducible show wpAny _ _ (compareOp _ (Value.ref _) (Value.ref _)) _ _ _); k_dflt (first | (refine' v_eq3 ?kc ?k1 ?k2 ?k3 ?k4 ?_; (case k1 => k_asm); (case k2 => k_mem); (case k3 => k_mem); (case kc => with_reducible assumption); (case k4 => walk_at "my room")) | (refine' v_eq2 ?kc ?k1 ?k2 ?k3 ?k4 ?_; (case k1 => k_asm); (case k2 => k_mem); (case k3 => k_mem); (case kc => with_reducible assumption); (case k4 => walk_at "my room")) | (refine' v_eqw ?kc ?k1 ?k2 ?k3 ?k4 ?_; (case k1 => k_asm); (case k2 => k_mem); (case k3 => k_mem); (case kc => with_reducible assumption); (case k4 => walk_at "my room")))))
local macro_rules | `(tactic| walk_at "compareOp Lt ref ref") => `(tactic| (k_here; (with_reducible show wpAny _ _ (compareOp _ (Value.ref _) (Value.ref _)) _ _ _); k_dflt (first | (refine' v_lt3 ?kc ?k1 ?k2 ?k3 ?k4 ?_; (case k1 => k_asm); (case k2 => k_mem); (case k3 => k_mem); (case kc => with_reducible assumption); (case k4 => walk_at "my room")) | (refine' v_lt2 ?kc ?k1 ?k2 ?k3 ?k4 ?_; (case k1 => k_asm); (case k2 => k_mem); (case k3 => k_mem); (case kc => with_reducible assumption); (case k4 => walk_at "my room")) | (refine' v_ltw ?kc ?k1 ?k2 ?k3 ?k4 ?_; (case k1 => k_asm); (case k2 => k_mem); (case k3 => k_mem); (case kc => with_reducible assumption); (case k4 => walk_at "my room")))))
def sg (N M : Int) : Int := if N = M then 0 else if N < M then 1 else -1
theorem sg0 {N M : Int} (h : N = M) : sg N M = 0 := if_pos h
theorem sg1 {N M : Int} (h : N ≠ M) (h2 : N < M) : sg N M = 1 := (if_neg h).trans (if_pos h2)
theorem sg2 {N M : Int} (h : N ≠ M) (h2 : ¬ N < M) : sg N M = -1 := (if_neg h).trans (if_neg h2)
def Sgd (N M : Int) (v : Value) (nw : List (Addr × Obj)) : Prop := ∃ t, v = .int (sg N M) t ∧ nw = []
local macro_rules | `(tactic| walk_at "my side") => `(tactic| (first
  | (refine' hret _ [] _ _ ⟨_, congrArg (Value.int · _) ?_, rfl⟩ ?kF ?kN; (case kF => k_asm); (case kN => k_asm); first | exact (sg0 (by assumption)).symm | exact (sg1 (by assumption) (by assumption)).symm | exact (sg2 (by assumption) (by assumption)).symm)))
theorem C_side_i (N M : Int) (t1 t2 : Tok) (news : List (Addr × Obj)) : Ct w p loose mean mg mb 432 1 [.int N t1, .int M t2] news (Sgd N M) := by
  walk_at "my in"; rename_i hret; walk_at "my enter"
  k_steps
  all_goals (refine' hret _ [] _ _ ⟨_, congrArg (Value.int · _) ?_, rfl⟩ ?kF ?kN; (case kF => k_asm); (case kN => k_asm); first | exact (sg0 (by omega)).symm | exact (sg1 (by omega) (by omega)).symm | exact (sg2 (by omega) (by omega)).symm)
theorem C_side_3 (N M : Int) (D1 D2 : Addr) (x y z x' y' z' : Int) (t u v t' u' v' : Tok) (news : List (Addr × Obj)) (c1 : (x = x' ∧ y = y' ∧ z = z') ↔ N = M) (c2 : (x < x' ∨ x = x' ∧ (y < y' ∨ y = y' ∧ z < z')) ↔ N < M) :
    Ct w p loose mean mg mb 432 1 [.ref D1, .ref D2] ((D1, o3 x y z t u v) :: (D2, o3 x' y' z' t' u' v') :: news) (Sgd N M) := by
  walk_at "my in"; rename_i hret; walk_at "my enter"
  k_steps
  all_goals (refine' hret _ [] _ _ ⟨_, congrArg (Value.int · _) ?_, rfl⟩ ?kF ?kN; (case kF => k_asm); (case kN => k_asm); first | exact (sg0 (by omega)).symm | exact (sg1 (by omega) (by omega)).symm | exact (sg2 (by omega) (by omega)).symm)
theorem C_side_2 (N M : Int) (D1 D2 : Addr) (x y x' y' : Int) (t u t' u' : Tok) (news : List (Addr × Obj)) (c1 : (x = x' ∧ y = y') ↔ N = M) (c2 : (x < x' ∨ x = x' ∧ y < y') ↔ N < M) :
    Ct w p loose mean mg mb 432 1 [.ref D1, .ref D2] ((D1, o2 x y t u) :: (D2, o2 x' y' t' u') :: news) (Sgd N M) := by
  walk_at "my in"; rename_i hret; walk_at "my enter"
  k_steps
  all_goals (refine' hret _ [] _ _ ⟨_, congrArg (Value.int · _) ?_, rfl⟩ ?kF ?kN; (case kF => k_asm); (case kN => k_asm); first | exact (sg0 (by omega)).symm | exact (sg1 (by omega) (by omega)).symm | exact (sg2 (by omega) (by omega)).symm)
theorem C_side_w (N M : Int) (D1 D2 : Addr) (x y z x' y' z' : Int) (t u v t' : Tok) (news : List (Addr × Obj)) (c1 : (x' = x ∧ y' = y ∧ z' = z) ↔ N = M) (c2 : (x' > x ∨ x' = x ∧ (y' > y ∨ y' = y ∧ z' > z)) ↔ N < M) :
    Ct w p loose mean mg mb 432 1 [.ref D1, .ref D2] ((D1, o3 x y z t u v) :: (D2, isoObj x' y' z' t') :: news) (Sgd N M) := by
  walk_at "my in"; rename_i hret; walk_at "my enter"
  k_steps
  all_goals (refine' hret _ [] _ _ ⟨_, congrArg (Value.int · _) ?_, rfl⟩ ?kF ?kN; (case kF => k_asm); (case kN => k_asm); first | exact (sg0 (by omega)).symm | exact (sg1 (by omega) (by omega)).symm | exact (sg2 (by omega) (by omega)).symm)
-- L2
theorem News.add2 {h₀ h : Heap} {L : Addr} {x y : Addr × Obj} {news : List (Addr × Obj)} (N : News h₀ L h news) (h1 : x ∈ news) (h2 : y ∈ news) : News h₀ L h (x :: y :: news) := fun q hq => by
  rcases List.mem_cons.mp hq with rfl | hq
  · exact N q h1
  · rcases List.mem_cons.mp hq with rfl | hq
    · exact N q h2
    · exact N q hq
theorem News.drop2 {h₀ h : Heap} {L : Addr} {x y : Addr × Obj} {news : List (Addr × Obj)} (N : News h₀ L h (x :: y :: news)) : News h₀ L h news := fun q hq => N q (List.Mem.tail _ (List.Mem.tail _ hq))
section
variable {prog : Program} {w : World} {A : Around} {E : Value → Shared → Prop} {s : Shared} {Q : Value → Shared → Prop} {a b : Int} {t u : Tok} {P : Prop} [Decidable P]
theorem w_ne_same (h : Q (.bool false) s) : wpAny (model prog w) A (compareOp .NotEq (.int a t) (.int a u)) Q E s := PyProof.Rows.ne_int (by simpa using h)
theorem w_bb_ft (hp : P) (h : Q (.bool false) s) : wpAny (model prog w) A (compareOp .Eq (.bool false) (.bool (decide P))) Q E s := PyProof.Rows.eq_bool (by simpa [hp] using h)
theorem w_bb_tf (hp : ¬ P) (h : Q (.bool false) s) : wpAny (model prog w) A (compareOp .Eq (.bool true) (.bool (decide P))) Q E s := PyProof.Rows.eq_bool (by simpa [hp] using h)
end
local macro_rules | `(tactic| walk_at "compareOp NotEq int int") => `(tactic| (with_reducible (refine w_ne_same ?_)))
local macro_rules | `(tactic| walk_at "compareOp Eq bool bool") => `(tactic| (first | (with_reducible (refine' w_bb_ft ?kp ?_); k_dflt (case kp => walk_at "my om")) | (with_reducible (refine' w_bb_tf ?kp ?_); k_dflt (case kp => walk_at "my om"))))
local macro_rules | `(tactic| walk_at "call ref") => `(tactic| ((with_reducible show wpAny _ _ (call (Value.ref 432) [Value.int _ _, Value.int _ _] _) _ _ _); k_dflt (refine' ct_use (C_side_i _ _ _ _ _) ?k1 ?k2 ?k3 ?k4 ?k5 ?kK ?kd ?ku ?_; (case k1 => k_asm); (case k2 => k_asm); (case k3 => k_asm); (case k4 => k_asm); (case k5 => k_asm); (case kK => first | exact rfl | assumption); (case kd => ktr_room); (case ku => ktr_units)); intro v9 nw9 h9 tk9 hP9 F9 N9; k_dflt (obtain ⟨t9, e9, e8⟩ := hP9; subst e9; subst e8); (try simp only [List.nil_append, List.cons_append] at N9); (try k_sweep); (try dsimp only); (try k_fold)))
local macro_rules | `(tactic| walk_at "call ref") => `(tactic| ((with_reducible show wpAny _ _ (call (Value.ref 432) [Value.ref _, Value.ref _] _) _ _ _); k_dflt (refine' ct_use (C_side_w _ _ _ _ _ _ _ _ _ _ _ _ _ _ _ ?c1 ?c2) ?k1 ?k2 ?k3 (News.add2 ?n1 ?n2 ?n3) ?k5 ?kK ?kd ?ku ?_; (case n1 => k_asm); (case n2 => k_mem); (case n3 => k_mem); (case c1 => with_reducible assumption); (case c2 => with_reducible assumption); (case k1 => k_asm); (case k2 => k_asm); (case k3 => k_asm); (case k5 => k_asm); (case kK => first | exact rfl | assumption); (case kd => ktr_room); (case ku => ktr_units)); intro v9 nw9 h9 tk9 hP9 F9 N9; k_dflt (obtain ⟨t9, e9, e8⟩ := hP9; subst e9; subst e8); (replace N9 := News.drop2 N9); (try k_sweep); (try dsimp only); (try k_fold)))
local macro_rules | `(tactic| walk_at "call ref") => `(tactic| ((with_reducible show wpAny _ _ (call (Value.ref 432) [Value.ref _, Value.ref _] _) _ _ _); k_dflt (refine' ct_use (C_side_2 _ _ _ _ _ _ _ _ _ _ _ _ _ ?c1 ?c2) ?k1 ?k2 ?k3 (News.add2 ?n1 ?n2 ?n3) ?k5 ?kK ?kd ?ku ?_; (case n1 => k_asm); (case n2 => k_mem); (case n3 => k_mem); (case c1 => with_reducible assumption); (case c2 => with_reducible assumption); (case k1 => k_asm); (case k2 => k_asm); (case k3 => k_asm); (case k5 => k_asm); (case kK => first | exact rfl | assumption); (case kd => ktr_room); (case ku => ktr_units)); intro v9 nw9 h9 tk9 hP9 F9 N9; k_dflt (obtain ⟨t9, e9, e8⟩ := hP9; subst e9; subst e8); (replace N9 := News.drop2 N9); (try k_sweep); (try dsimp only); (try k_fold)))
local macro_rules | `(tactic| walk_at "call ref") => `(tactic| ((with_reducible show wpAny _ _ (call (Value.ref 432) [Value.ref _, Value.ref _] _) _ _ _); k_dflt (refine' ct_use (C_side_3 _ _ _ _ _ _ _ _ _ _ _ _ _ _ _ _ _ ?c1 ?c2) ?k1 ?k2 ?k3 (News.add2 ?n1 ?n2 ?n3) ?k5 ?kK ?kd ?ku ?_; (case n1 => k_asm); (case n2 => k_mem); (case n3 => k_mem); (case c1 => with_reducible assumption); (case c2 => with_reducible assumption); (case k1 => k_asm); (case k2 => k_asm); (case k3 => k_asm); (case k5 => k_asm); (case kK => first | exact rfl | assumption); (case kd => ktr_room); (case ku => ktr_units)); intro v9 nw9 h9 tk9 hP9 F9 N9; k_dflt (obtain ⟨t9, e9, e8⟩ := hP9; subst e9; subst e8); (replace N9 := News.drop2 N9); (try k_sweep); (try dsimp only); (try k_fold)))
theorem L_order (N M : Int) (A1 A2 A3 A4 : Addr) (t1 t2 u1 u2 u3 u4 u5 u6 u7 u8 u9 u0 ua : Tok) (hN : -190000000 ≤ N ∧ N ≤ 190000000) (hM : -190000000 ≤ M ∧ M ≤ 190000000) (hy : (1 ≤ gy M ∧ gy M ≤ 9999) ∨ ¬ (1 ≤ gy M ∧ gy M ≤ 9999)) :
    CtL w p loose mean mg mb 439 24 [.int N t1, .int M t2, .ref A1, .ref A2, .ref A3, .ref A4] [(A1, o3 (gy N) (gm N) (gd N) u1 u2 u3), (A2, o2 (gy N) (pl N + 1) u4 u5), (A3, o3 (jy N) (jm N) (jdy N) u6 u7 u8), (A4, o3 (iy N) (iw N) (idy N) u9 u0 ua)] (fun v => v = .bool true) := by
  have g0 : GTag (PySem.Str.ofString "_law_side") := trivial
  have g1 : GTag (PySem.Str.ofString "_law_jd") := trivial
  have g2 : GTag (PySem.Str.ofString "from_jd_gregorian") := trivial
  have g3 : GTag (PySem.Str.ofString "from_jd_ordinal") := trivial
  have g4 : GTag (PySem.Str.ofString "from_jd_julian") := trivial
  have g5 : GTag (PySem.Str.ofString "to_jd_gregorian") := trivial
  have g6 : GTag (PySem.Str.ofString "_law_read_week") := trivial
  have g7 : GTag (PySem.Str.ofString "to_jd_ordinal") := trivial
  have g8 : GTag (PySem.Str.ofString "to_jd_julian") := trivial
  have g9 : GTag (PySem.Str.ofString "date") := trivial
  have g10 : GTag (PySem.Str.ofString "from_gregorian_iso") := trivial
  have g11 : GTag (PySem.Str.ofString "from_jd_iso") := trivial
  have tag : NTag M 0 := trivial
  have hB := gy_bounds hM
  have i1 := (G_iff N M).1
  have i2 := (G_iff N M).2
  have i3 := (O_iff N M).1
  have i4 := (O_iff N M).2
  have i5 := (J_iff N M).1
  have i6 := (J_iff N M).2
  have i7 : (iy M = iy N ∧ iw M = iw N ∧ idy M = idy N) ↔ N = M := by have := (W_iff N M).1; omega
  have i8 : (iy M > iy N ∨ iy M = iy N ∧ (iw M > iw N ∨ iw M = iw N ∧ idy M > idy N)) ↔ N < M := by have := (W_iff N M).2; omega
  walk_at "my inL"; rename_i hret
  rcases hy with hy | hy
  · walk_at "my enterL"
    k_steps
    all_goals (refine' hret _ _ _ rfl ?kF ?kS; (case kF => k_asm); (case kS => walk_at "my sub"))
  · walk_at "my enterL"
    k_steps
    all_goals (refine' hret _ _ _ rfl ?kF ?kS; (case kF => k_asm); (case kS => walk_at "my sub"))
-- F1
section
/-- the list of a year's months -/
abbrev monthsObj (b : Bool) (t0 t1 t2 t3 t4 t5 t6 t7 t8 t9 t10 t11 : Tok) : Obj := { cls := .type "list", data := .seq [Value.int 31 t0, .int (if b then 29 else 28) t1, .int 31 t2, .int 30 t3, .int 31 t4, .int 30 t5, .int 31 t6, .int 31 t7, .int 30 t8, .int 31 t9, .int 30 t10, .int 31 t11].toArray }
/-- a for over the months' lengths that turns two names' ints -/
def FTag (_x _y _l : Str) (_P : Nat → Int → Int → Prop) : Prop := True
def FTurn (h₀ : Heap) (L : Addr) (s : Shared) (m₀ : Str → Option Value) (nx : List (Addr × Obj)) (x y l : Str) (P : Int → Int → Prop) (Q : Flow → Shared → Prop) (f : Flow) (s₂ : Shared) : Prop :=
  match f with
  | .ret v => Q (.ret v) s₂
  | .brk => Q .next s₂
  | _ => ∃ (a' b' : Int) (t' u' tk : Tok) (h' : Heap) (m' : Str → Option Value) (news' : List (Addr × Obj)), s₂ = { s with heap := h', toks := tk } ∧ Fr h₀ L h' m' ∧ News h₀ L h' news' ∧ (∀ p ∈ nx, p ∈ news') ∧ m' x = some (.int a' t') ∧ m' y = some (.int b' u') ∧ (∀ z, z ≠ x → z ≠ y → z ≠ l → m' z = m₀ z) ∧ P a' b'
section
variable {prog : Program} {w : World} {A : Around} {E : Value → Shared → Prop} {Q : Flow → Shared → Prop} {s : Shared} {env : Env} {h₀ : Heap} {m₀ : Str → Option Value} {news news' : List (Addr × Obj)}
theorem fturn_end {L : Addr} {x y l : Str} {P : Int → Int → Prop} {a' b' : Int} {t' u' tk : Tok} {h' : Heap} {m' : Str → Option Value} {nx : List (Addr × Obj)}
    (F : Fr h₀ L h' m') (N : News h₀ L h' news') (hn : ∀ p ∈ nx, p ∈ news') (hx : m' x = some (.int a' t')) (hy : m' y = some (.int b' u')) (hz : ∀ z, z ≠ x → z ≠ y → z ≠ l → m' z = m₀ z) (hp : P a' b') :
    FTurn h₀ L s m₀ nx x y l P Q .next { s with heap := h', toks := tk } := ⟨a', b', t', u', tk, h', m', news', rfl, F, N, hn, hx, hy, hz, hp⟩
theorem fturn_ret {L : Addr} {x y l : Str} {P : Int → Int → Prop} {nx : List (Addr × Obj)} {v : Value} {s₂ : Shared} (h : Q (.ret v) s₂) : FTurn h₀ L s m₀ nx x y l P Q (.ret v) s₂ := h
theorem months_get {b : Bool} {t0 t1 t2 t3 t4 t5 t6 t7 t8 t9 t10 t11 : Tok} {i : Nat} {v : Value}
    (h : ([Value.int 31 t0, .int (if b then 29 else 28) t1, .int 31 t2, .int 30 t3, .int 31 t4, .int 30 t5, .int 31 t6, .int 31 t7, .int 30 t8, .int 31 t9, .int 30 t10, .int 31 t11].toArray)[i]? = some v) : i < 12 ∧ ∃ t, v = .int (dm b ((i : Int) + 1)) t := by
  have hi : i < 12 := by
    by_cases hlt : i < 12
    · exact hlt
    · rw [Array.getElem?_eq_none (by simp; omega)] at h; cases h
  refine ⟨hi, ?_⟩
  match i, hi, h with
  | 0, _, h => cases h; exact ⟨_, rfl⟩
  | 1, _, h => cases h; cases b <;> exact ⟨_, rfl⟩
  | 2, _, h => cases h; exact ⟨_, rfl⟩
  | 3, _, h => cases h; exact ⟨_, rfl⟩
  | 4, _, h => cases h; exact ⟨_, rfl⟩
  | 5, _, h => cases h; exact ⟨_, rfl⟩
  | 6, _, h => cases h; exact ⟨_, rfl⟩
  | 7, _, h => cases h; exact ⟨_, rfl⟩
  | 8, _, h => cases h; exact ⟨_, rfl⟩
  | 9, _, h => cases h; exact ⟨_, rfl⟩
  | 10, _, h => cases h; exact ⟨_, rfl⟩
  | 11, _, h => cases h; exact ⟨_, rfl⟩
theorem for_months {L D : Addr} {b : Bool} {t0 t1 t2 t3 t4 t5 t6 t7 t8 t9 t10 t11 : Tok} {x y l : Str} {P : Nat → Int → Int → Prop} {target : Expr} {body : List Stmt} {a₀ c₀ : Int} {u₀ v₀ : Tok} (_tag : FTag x y l P) (hxy : y ≠ x) (hlx : l ≠ x) (hly : l ≠ y)
    (hh : A.handled = none) (hL : env.locals = L) (F : Fr h₀ L s.heap m₀) (N : News h₀ L s.heap news) (hD : (D, monthsObj b t0 t1 t2 t3 t4 t5 t6 t7 t8 t9 t10 t11) ∈ news) (hx : m₀ x = some (.int a₀ u₀)) (hy : m₀ y = some (.int c₀ v₀)) (hp : P 0 a₀ c₀)
    (turn : ∀ (i : Nat) (a c : Int) (t u v tk : Tok) (h : Heap) (nx : List (Addr × Obj)) (ov : Option Value), i < 12 → P i a c → (∀ p ∈ news, p ∈ nx) → Fr h₀ L h (fun z => if z = y then some (.int c u) else if z = x then some (.int a t) else if z = l then ov else m₀ z) → News h₀ L h nx →
      wpAny (model prog w) A (assign target env (.int (dm b ((i : Int) + 1)) v)) (fun _ s₂ => wpAny (model prog w) A (execs body env) (FTurn h₀ L s m₀ nx x y l (P (i + 1)) Q) E s₂) E { s with heap := h, toks := tk })
    (done : ∀ a c, ¬ P 12 a c) :
    wpAny (model prog w) A (pyIter (.ref D)) (fun it s₂ => UnrAt prog w A h₀ env target body Q E it s₂) E s := by
  subst hL
  have hN := N _ hD
  refine Iter_list_unr hh ⟨_, hN.1, rfl, _, rfl⟩ F N hN.2.1 ?_
  have key : ∀ (k i : Nat) (m₁ : Str → Option Value) (s' : Shared), (∃ h tk, s' = { s with heap := h, toks := tk }) → i + k = 12 → (∃ a c t u, P i a c ∧ m₁ x = some (.int a t) ∧ m₁ y = some (.int c u) ∧ ∀ z, z ≠ x → z ≠ y → z ≠ l → m₁ z = m₀ z) →
      Unr prog w A E h₀ env target body Q (fun i v => ([Value.int 31 t0, .int (if b then 29 else 28) t1, .int 31 t2, .int 30 t3, .int 31 t4, .int 30 t5, .int 31 t6, .int 31 t7, .int 30 t8, .int 31 t9, .int 30 t10, .int 31 t11].toArray)[i]? = some v) [s.heap.objs.size, D] s' k i m₁ news := by
    intro k
    induction k with
    | zero =>
      intro i m₁ s' _ hik hm
      obtain ⟨a, c, t, u, hP, _⟩ := hm
      have e : i = 12 := by omega
      subst e
      exact absurd hP (done a c)
    | succ k ih =>
      rintro i m₁ s' ⟨hs, tks, rfl⟩ hik ⟨a, c, t, u, hP, h1, h2, h3⟩
      refine Unr.succ fun v h₁ tk₁ own hv hown F₁ N₁ => ?_
      obtain ⟨hi, tv, rfl⟩ := months_get hv
      have em : (fun z => if z = y then some (Value.int c u) else if z = x then some (.int a t) else if z = l then m₁ l else m₀ z) = m₁ := by
        funext z
        by_cases hzy : z = y
        · subst hzy; simp [h2]
        · by_cases hzx : z = x
          · subst hzx; simp [hzy, h1]
          · by_cases hzl : z = l
            · subst hzl; simp [hzy, hzx]
            · simp [hzy, hzx, hzl, h3 z hzx hzy hzl]
      refine wpAny_mono (turn i a c t u tv tk₁ h₁ (own ++ news) (m₁ l) hi hP (fun p hp => List.mem_append_right _ hp) (by rw [em]; exact F₁) N₁) (fun _ s₂ h₂ => wpAny_mono h₂ (fun f s₃ q => ?_) fun _ _ e => e) fun _ _ e => e
      cases f with
      | ret v => exact q
      | brk => exact q
      | next =>
        obtain ⟨a', b', t', u', tk', h', m', news', e, F', N', hn, h1', h2', h3', hp2⟩ := q
        exact ⟨rfl, h', tk', m', news, e, F', fun p hp => N' p (hn p hp), rfl, ih (i + 1) m' _ ⟨_, _, rfl⟩ (by omega) ⟨a', b', t', u', hp2, h1', h2', h3'⟩⟩
      | cont =>
        obtain ⟨a', b', t', u', tk', h', m', news', e, F', N', hn, h1', h2', h3', hp2⟩ := q
        exact ⟨rfl, h', tk', m', news, e, F', fun p hp => N' p (hn p hp), rfl, ih (i + 1) m' _ ⟨_, _, rfl⟩ (by omega) ⟨a', b', t', u', hp2, h1', h2', h3'⟩⟩
  exact key 12 0 m₀ _ ⟨_, _, rfl⟩ rfl ⟨a₀, c₀, u₀, v₀, hp, hx, hy, fun _ _ _ _ => rfl⟩
end
end
-- P1
theorem m12 {m : Int} (h1 : 1 ≤ m) (h2 : m ≤ 12) : m = 1 ∨ m = 2 ∨ m = 3 ∨ m = 4 ∨ m = 5 ∨ m = 6 ∨ m = 7 ∨ m = 8 ∨ m = 9 ∨ m = 10 ∨ m = 11 ∨ m = 12 := by omega
theorem dbm_step {w : Bool} {m : Int} (h1 : 1 ≤ m) (h2 : m ≤ 12) : dbm w (m + 1) = dbm w m + dm w m := by
  rcases m12 h1 h2 with rfl | rfl | rfl | rfl | rfl | rfl | rfl | rfl | rfl | rfl | rfl | rfl <;> cases w <;> decide
theorem mo_at {w : Bool} {m p : Int} (h1 : 1 ≤ m) (h2 : m ≤ 12) (h3 : 0 ≤ p - dbm w m) (h4 : p - dbm w m < dm w m) : mo w p = m := by
  rcases m12 h1 h2 with rfl | rfl | rfl | rfl | rfl | rfl | rfl | rfl | rfl | rfl | rfl | rfl <;> cases w <;> simp [dbm, dm, b2, adj] at h3 h4 <;> unfold mo adj b2 <;> simp <;> split <;> omega
def DInv (b : Bool) (q : Int) (i : Nat) (a c : Int) : Prop := c = (i : Int) + 1 ∧ a = q - dbm b ((i : Int) + 1) ∧ 0 ≤ a
theorem dinv_0 {b : Bool} {q : Int} (h : 0 ≤ q) : DInv b q 0 q 1 := ⟨rfl, by cases b <;> simp [dbm], h⟩
theorem dinv_done {b : Bool} {q : Int} (h : q < 365 + b2 b) (a c : Int) : ¬ DInv b q 12 a c := by
  rintro ⟨_, h2, h3⟩
  cases b <;> simp [dbm, adj, b2] at h h2 <;> omega
theorem dinv_step {b : Bool} {q a c : Int} {i : Nat} (hi : i < 12) (h : DInv b q i a c) (hl : dm b ((i : Int) + 1) ≤ a) : DInv b q (i + 1) (a - dm b ((i : Int) + 1)) (c + 1) := by
  obtain ⟨h1, h2, h3⟩ := h
  have e := dbm_step (w := b) (m := (i : Int) + 1) (by omega) (by omega)
  refine ⟨by omega, ?_, by omega⟩
  have e1 : ((i + 1 : Nat) : Int) = (i : Int) + 1 := by omega
  rw [e1, e]; omega
theorem dinv_end {b : Bool} {q a c : Int} {i : Nat} (hi : i < 12) (h : DInv b q i a c) (hl : a < dm b ((i : Int) + 1)) : c = mo b q ∧ a + 1 = q - dbm b (mo b q) + 1 := by
  obtain ⟨h1, h2, h3⟩ := h
  have e := mo_at (w := b) (m := (i : Int) + 1) (p := q) (by omega) (by omega) (by omega) (by omega)
  rw [e]; omega
local macro_rules | `(tactic| walk_at "exec For Name Call cons nil") => `(tactic| (k_here; (with_reducible rename FTag _ _ _ _ => fT); k_dflt (refine' For_unrF ?kF ?_ ?k1 ?k2; (case kF => assumption); (case k1 => exact fun _ => rfl); (case k2 => with_unfolding_all passes_own); k_whole)))
local macro_rules | `(tactic| walk_at "pyIter ref") => `(tactic| (k_here; (with_reducible rename FTag _ _ _ _ => fT); (with_reducible (refine' for_months fT ?k0 ?k00 ?k000 ?k1 ?kL ?k2 ?k3 ?kD ?k4 ?k5 ?k6 ?_ ?k7; (case k2 => assumption); (case k3 => assumption))); k_dflt ((case k0 => decide); (case k00 => decide); (case k000 => decide); (case k1 => exact rfl); (case kL => exact rfl); (case kD => exact List.Mem.head _); (case k4 => exact rfl); (case k5 => exact rfl); (case k6 => exact dinv_0 (by assumption)); (case k7 => exact dinv_done (by assumption))); clear fT; intro i9 a9 c9 t9 u9 v9 tk9 h9 nx9 ov9 hi9 hP9 hs9 F9 N9; (try k_sweep); (try dsimp only); (try k_fold)))
local macro_rules | `(tactic| walk_at "FTurn") => `(tactic| ((with_reducible (refine' fturn_end ?k1 ?k2 ?k3 ?k4 ?k5 ?k6 ?_; (case k1 => assumption); (case k2 => assumption))); k_dflt ((case k3 => first | exact fun _ h => h | exact fun _ h => List.Mem.tail _ h | kcj_all); (case k4 => exact rfl); (case k5 => exact rfl); (case k6 => (intro z9 n9 n8 n7; simp only [if_neg n9, if_neg n8, if_neg n7])))))
local macro_rules | `(tactic| walk_at "FTurn") => `(tactic| (with_reducible (refine fturn_ret ?_); try dsimp only))
theorem C_date (y q : Int) (b : Bool) (t1 t2 : Tok) (news : List (Addr × Obj)) (h0 : 0 ≤ q) (h1 : q < 365 + b2 b) :
    Ct w p loose mean mg mb 376 2 [.int y t1, .int q t2, .bool b] news (T3 y (mo b q) (q - dbm b (mo b q) + 1)) := by
  have g0 : GTag (PySem.Str.ofString "_law_lengths") := trivial
  have f0 : FTag (PySem.Str.ofString "rest") (PySem.Str.ofString "month") (PySem.Str.ofString "length") (DInv b q) := trivial
  walk_at "my in"; rename_i hret; walk_at "my enter"
  k_steps
  all_goals (first
    | exact dinv_step (by assumption) (by assumption) (Int.not_lt.mp (by assumption))
    | (have hE := dinv_end (by assumption) (by assumption) (by assumption)
       refine' hret _ [_] _ _ (T3.mk rfl hE.1 hE.2) ?kF (News.sub ?kN ?kk); (case kF => k_asm); (case kN => with_reducible assumption)
       case kk =>
         intro q hq
         rcases List.mem_cons.mp hq with rfl | hq
         · exact List.Mem.head _
         · exact List.Mem.tail _ ((by assumption : ∀ p ∈ _ :: news, p ∈ _) _ (List.Mem.tail _ hq))))
-- P2
theorem News.sub1 {h₀ h : Heap} {L : Addr} {x : Addr × Obj} {nx news : List (Addr × Obj)} (N : News h₀ L h (x :: nx)) (k : ∀ q ∈ news, q ∈ nx) : News h₀ L h ([x] ++ news) := fun q hq => N q (by
  rcases List.mem_cons.mp hq with rfl | hq
  · exact List.Mem.head _
  · exact List.Mem.tail _ (k q hq))
local macro_rules | `(tactic| walk_at "my sub1") => `(tactic| (refine' News.sub1 ?kN ?kk; (case kN => with_reducible assumption); (case kk => (intro q hq; (repeat (first | exact hq | refine List.Mem.tail _ ?_))))))
def OJ (N r y : Int) : Prop := N = fj y + r ∧ 0 ≤ r ∧ y % 4 ≠ 0 ∧ r < 365 * (4 - y % 4)
theorem oj_0 {N : Int} (h : ¬ (N - 2451558) % 1461 < 366) : OJ N ((N - 2451558) % 1461 - 366) (2000 + 4 * ((N - 2451558) / 1461) + 1) := by
  have h1 := Int.mul_ediv_add_emod (N - 2451558) 1461
  have h2 := Int.emod_lt_of_pos (N - 2451558) (show (0 : Int) < 1461 by decide)
  unfold OJ fj
  omega
theorem oj_step {N r y : Int} (h : OJ N r y) (hr : r ≥ 365) : OJ N (r - 365) (y + 1) ∧ (r - 365).toNat < r.toNat := by
  unfold OJ fj at *
  omega
theorem oj_lo {N r y : Int} (h : OJ N r y) : 0 ≤ r := h.2.1
theorem oj_end {N r y : Int} (h : OJ N r y) (hr : ¬ r ≥ 365) : y = jy N ∧ mo false r = jm N ∧ r - dbm false (mo false r) + 1 = jdy N := by
  obtain ⟨h1, h2, h3, _⟩ := h
  have hl : lj y = false := decide_eq_false h3
  have e := J_eq h1 h2 (by rw [hl]; simp only [b2, if_false, Bool.false_eq_true]; omega)
  rw [hl] at e
  omega
theorem oj_leap {N : Int} (h : (N - 2451558) % 1461 < 366) : 2000 + 4 * ((N - 2451558) / 1461) = jy N ∧ mo true ((N - 2451558) % 1461) = jm N ∧ (N - 2451558) % 1461 - dbm true (mo true ((N - 2451558) % 1461)) + 1 = jdy N := by
  have h1 := Int.mul_ediv_add_emod (N - 2451558) 1461
  have h2 := Int.emod_nonneg (N - 2451558) (show (1461 : Int) ≠ 0 by decide)
  have hl : lj (2000 + 4 * ((N - 2451558) / 1461)) = true := decide_eq_true (by omega)
  have e := J_eq (N := N) (y := 2000 + 4 * ((N - 2451558) / 1461)) (p := (N - 2451558) % 1461) (by unfold fj; omega) h2 (by rw [hl]; simp only [b2, if_true]; omega)
  rw [hl] at e
  omega

local macro_rules | `(tactic| walk_at "call ref") => `(tactic| ((with_reducible show wpAny _ _ (call (Value.ref 376) [Value.int _ _, Value.int _ _, Value.bool _] _) _ _ _); k_dflt (refine' ct_use (C_date _ _ _ _ _ _ ?l1 ?l2) ?k1 ?k2 ?k3 ?k4 ?k5 ?kK ?kd ?ku ?_; (case k1 => k_asm); (case k2 => k_asm); (case k3 => k_asm); (case k4 => k_asm); (case k5 => k_asm); (case kK => first | exact rfl | assumption); (case kd => ktr_room); (case ku => ktr_units); (case l1 => first | omega | exact oj_lo (by assumption)); (case l2 => first | omega | (simp only [b2, if_true, if_false, Bool.false_eq_true]; omega))); intro v9 nw9 h9 tk9 hP9 F9 N9; k_dflt (obtain ⟨D9, t9, u9, v9, e9, e8⟩ := hP9; subst e9; subst e8); (try simp only [List.nil_append, List.cons_append] at N9); (try k_sweep); (try dsimp only); (try k_fold)))
theorem C_olddate (N : Int) (t1 : Tok) (news : List (Addr × Obj)) : Ct w p loose mean mg mb 383 4 [.int N t1] news (T3 (jy N) (jm N) (jdy N)) := by
  have g0 : GTag (PySem.Str.ofString "_law_date") := trivial
  have w1 : WTag 1 (PySem.Str.ofString "rest") (PySem.Str.ofString "year") (OJ N) (fun r _ => r.toNat) := trivial
  have h2 := Int.emod_nonneg (N - 2451558) (show (1461 : Int) ≠ 0 by decide)
  walk_at "my in"; rename_i hret; walk_at "my enter"
  k_steps
  all_goals (first
    | exact oj_0 (by assumption)
    | exact (oj_step (by assumption) (by assumption)).1
    | (have hE := oj_end (by assumption) (by assumption)
       refine' hret _ [_] _ _ (T3.mk hE.1 hE.2.1 hE.2.2) ?kF ?kS; (case kF => k_asm); (case kS => walk_at "my sub1"))
    | (have hE := oj_leap (by assumption)
       refine' hret _ [_] _ _ (T3.mk hE.1 hE.2.1 hE.2.2) ?kF ?kS; (case kF => k_asm); (case kS => walk_at "my sub1")))
-- P3
section
variable {w : World} {p : Program} {loose : List Str} {mean : ExcName → Option Value} {mg mb : Str → Option Value}
theorem b2t {y : Int} (h : lp y = true) : b2 (lp y) = 1 := by rw [h]; rfl
theorem b2f {y : Int} (h : lp y = false) : b2 (lp y) = 0 := by rw [h]; rfl
theorem week_T3 {N y' f' : Int} {D : Addr} {t1 t2 t3 : Tok} (h0 : f' ≤ N - (N - 2451547) % 7 + 3) (h1 : N - (N - 2451547) % 7 + 3 < fy (y' + 1)) (hf : f' = fy y') :
    T3 (iy N) (iw N) (idy N) (.ref D) [(D, ({ cls := .type "tuple", data := .seq [Value.int y' t1, .int ((N - (N - 2451547) % 7 + 3 - f') / 7 + 1) t2, .int ((N - 2451547) % 7 + 1) t3].toArray } : Obj))] := by
  subst hf
  have e : iy N = y' := gy_step (th N) y' h0 h1
  exact T3.mk e.symm (by unfold iw; rw [e]; rfl) rfl
theorem C_week (N y f : Int) (t1 t2 t3 : Tok) (news : List (Addr × Obj)) (hy : gy N = y) (hf : f = fy y) : Ct w p loose mean mg mb 390 3 [.int y t1, .int f t2, .int N t3] news (T3 (iy N) (iw N) (idy N)) := by
  have g0 : GTag (PySem.Str.ofString "_law_wide") := trivial
  have a := gy_in N
  have en : pl N = N - fy (gy N) := rfl
  rw [hy, ← hf] at en
  rw [hy] at a
  have n1 : f = fy (y - 1) + 365 + b2 (lp (y - 1)) := by rw [← fy_next, Int.sub_add_cancel]; exact hf
  have n0 : f = fy (y - 1 + 1) := by rw [Int.sub_add_cancel]; exact hf
  have n2 : fy (y + 1) = f + 365 + b2 (lp y) := by rw [fy_next, hf]
  have n3 := fy_next (y + 1)
  have c1 := b2_01 (lp y)
  have c2 := b2_01 (lp (y - 1))
  have c3 := b2_01 (lp (y + 1))
  walk_at "my in"; rename_i hret; walk_at "my enter"
  k_steps
  all_goals (
    refine' hret _ [_] _ _ (week_T3 ?h0 ?h1 ?h2) ?kF ?kS; (case kF => k_asm); (case kS => walk_at "my sub1")
    (case h0 => first | omega | (have hl := b2t (by assumption); omega) | (have hl := b2f (by assumption); omega))
    (case h1 => first | omega | (have hl := b2t (by assumption); omega) | (have hl := b2f (by assumption); omega))
    (case h2 => first | omega | (have hl := b2t (by assumption); omega) | (have hl := b2f (by assumption); omega)))
end
-- P4
section
variable {w : World} {p : Program} {loose : List Str} {mean : ExcName → Option Value} {mg mb : Str → Option Value}
theorem months_dm {b : Bool} {m : Int} (h : 1 ≤ m ∧ m ≤ 12) : [31, if b = true then 29 else 28, 31, 30, 31, 30, 31, 31, 30, 31, 30, (31 : Int)].getD (m - 1).toNat 0 = dm b m := by
  rcases m12 h.1 h.2 with rfl | rfl | rfl | rfl | rfl | rfl | rfl | rfl | rfl | rfl | rfl | rfl <;> cases b <;> decide
theorem C_next (y m d : Int) (b : Bool) (D : Addr) (t1 t2 t3 : Tok) (news : List (Addr × Obj)) (hm : 1 ≤ m ∧ m ≤ 12) :
    Ct w p loose mean mg mb 397 2 [.ref D, .bool b] ((D, o3 y m d t1 t2 t3) :: news) (fun v nw => (d < dm b m ∧ T3 y m (d + 1) v nw) ∨ (¬ d < dm b m ∧ m < 12 ∧ T3 y (m + 1) 1 v nw) ∨ (¬ d < dm b m ∧ ¬ m < 12 ∧ T3 (y + 1) 1 1 v nw)) := by
  have g0 : GTag (PySem.Str.ofString "_law_lengths") := trivial
  have hM := months_dm (b := b) hm
  walk_at "my in"; rename_i hret; walk_at "my enter"
  k_steps
  all_goals (first
    | (refine' hret _ [_] _ _ (Or.inl ⟨?h1, T3.mk rfl rfl rfl⟩) ?kF ?kS; (case kF => k_asm); (case kS => walk_at "my sub1"); (case h1 => rw [← hM]; assumption))
    | (refine' hret _ [_] _ _ (Or.inr (Or.inl ⟨?h1, ?h2, T3.mk rfl rfl rfl⟩)) ?kF ?kS; (case kF => k_asm); (case kS => walk_at "my sub1"); (case h1 => rw [← hM]; assumption); (case h2 => assumption))
    | (refine' hret _ [_] _ _ (Or.inr (Or.inr ⟨?h1, ?h2, T3.mk rfl rfl rfl⟩)) ?kF ?kS; (case kF => k_asm); (case kS => walk_at "my sub1"); (case h1 => rw [← hM]; assumption); (case h2 => assumption)))
theorem C_next_G (N : Int) (D : Addr) (t1 t2 t3 : Tok) (news : List (Addr × Obj)) :
    Ct w p loose mean mg mb 397 2 [.ref D, .bool (lp (gy N))] ((D, o3 (gy N) (gm N) (gd N) t1 t2 t3) :: news) (T3 (gy (N + 1)) (gm (N + 1)) (gd (N + 1))) :=
  have h := G_next N
  have k := G_ok N
  ct_mono (C_next _ _ _ _ _ _ _ _ _ ⟨k.1, k.2.1⟩) (Nat.le_refl _) fun v nw a => by
    rcases a with ⟨a1, a2⟩ | ⟨a1, a2, a3⟩ | ⟨a1, a2, a3⟩
    · have e := h.1 a1; rw [e.1, e.2.1, e.2.2]; exact a2
    · have e := h.2.1 a1 a2; rw [e.1, e.2.1, e.2.2]; exact a3
    · have e := h.2.2 a1 a2; rw [e.1, e.2.1, e.2.2]; exact a3
theorem C_next_J (N : Int) (b : Bool) (hb : b = lj (jy N)) (D : Addr) (t1 t2 t3 : Tok) (news : List (Addr × Obj)) :
    Ct w p loose mean mg mb 397 2 [.ref D, .bool b] ((D, o3 (jy N) (jm N) (jdy N) t1 t2 t3) :: news) (T3 (jy (N + 1)) (jm (N + 1)) (jdy (N + 1))) :=
  have h := J_next N
  have k := J_ok N
  ct_mono (C_next _ _ _ _ _ _ _ _ _ ⟨k.1, k.2.1⟩) (Nat.le_refl _) fun v nw a => by
    subst hb
    rcases a with ⟨a1, a2⟩ | ⟨a1, a2, a3⟩ | ⟨a1, a2, a3⟩
    · have e := h.1 a1; rw [e.1, e.2.1, e.2.2]; exact a2
    · have e := h.2.1 a1 a2; rw [e.1, e.2.1, e.2.2]; exact a3
    · have e := h.2.2 a1 a2; rw [e.1, e.2.1, e.2.2]; exact a3
end
-- Q1
section
variable {w : World} {p : Program} {loose : List Str} {mean : ExcName → Option Value} {mg mb : Str → Option Value}
theorem jd2_end2 {y m d a b k : Int} (h0 : 1 ≤ m) (h1 : m ≤ 2) (la : a * (100 * 16777216) ≤ (y - 1) * 16777216) (ua : (y - 1) * 16777216 < (a + 1) * (100 * 16777216)) (lb : b * (4 * 16777216) ≤ a * 16777216) (ub : a * 16777216 < (b + 1) * (4 * 16777216))
    (l : k * 16777216 ≤ 6127878144 * (y - 1 + 4716)) (u : 6127878144 * (y - 1 + 4716) < (k + 1) * 16777216) :
    (2 - a + b + d + k + 306001 * (m + 12 + 1) / 10000) * 16777216 - 25576865792 = jdG y m d * 16777216 - 8388608 := by
  have hk : k = 1461 * (y + 4715) / 4 := by omega
  rw [q1461] at hk
  have ha : a = (y - 1) / 100 := by omega
  have hb : b = (y - 1) / 400 := by omega
  unfold jdG fy dbm
  rw [if_pos h1]
  have : m = 1 ∨ m = 2 := by omega
  rcases this with rfl | rfl <;> omega
theorem jd2_end1 {y m d a b k : Int} (h0 : ¬ m ≤ 2) (h1 : m ≤ 12) (la : a * (100 * 16777216) ≤ y * 16777216) (ua : y * 16777216 < (a + 1) * (100 * 16777216)) (lb : b * (4 * 16777216) ≤ a * 16777216) (ub : a * 16777216 < (b + 1) * (4 * 16777216))
    (l : k * 16777216 ≤ 6127878144 * (y + 4716)) (u : 6127878144 * (y + 4716) < (k + 1) * 16777216) :
    (2 - a + b + d + k + 306001 * (m + 1) / 10000) * 16777216 - 25576865792 = jdG y m d * 16777216 - 8388608 := by
  have hk : k = 1461 * (y + 4716) / 4 := by omega
  rw [q1461] at hk
  have hy4 : (y + 4716) / 4 = y / 4 + 1179 := by omega
  have ha : a = y / 100 := by omega
  have hb : b = y / 400 := by omega
  have hm : m = 3 ∨ m = 4 ∨ m = 5 ∨ m = 6 ∨ m = 7 ∨ m = 8 ∨ m = 9 ∨ m = 10 ∨ m = 11 ∨ m = 12 := by omega
  have hfy : fy y + adj (lp y) = 1721426 - 365 + 365 * y + y / 4 - y / 100 + y / 400 - 2 := by
    unfold fy
    cases hl : lp y
    · have h4 := lp_f hl
      simp only [adj, Bool.false_eq_true, if_false]
      omega
    · have h4 := lp_t hl
      simp only [adj, if_true]
      omega
  unfold jdG dbm
  rw [if_neg h0]
  generalize adj (lp y) = z at *
  generalize fy y = f at *
  rcases hm with rfl | rfl | rfl | rfl | rfl | rfl | rfl | rfl | rfl | rfl <;> omega
theorem C_jd2 (y m d : Int) (t1 t2 t3 : Tok) (news : List (Addr × Obj)) (hy : 1801 ≤ y ∧ y ≤ 2099) (h1 : 1 ≤ m) (h2 : m ≤ 12) (h3 : 1 ≤ d) (h4 : d ≤ dm (lp y) m) : Ct w p loose mean mg mb 116 7 [.int y t1, .int m t2, .int d t3] news (Mid (jdG y m d)) := by
  have g0 : GTag (PySem.Str.ofString "legal_date_gregorian") := trivial
  have g1 : GTag (PySem.Str.ofString "floor") := trivial
  have h5 := (dm_facts h4).1
  walk_at "my in"; rename_i hret; walk_at "my enter"
  k_steps
  all_goals (refine hret _ [] _ _ ⟨rfl, _, _, rfl, ?_⟩ (by k_asm) (by k_asm))
  all_goals (first
    | exact Bw.cast (by assumption) (jd2_end2 h1 (by assumption) (by assumption) (by assumption) (by assumption) (by assumption) (by assumption) (by assumption)) (jd2_end2 h1 (by assumption) (by assumption) (by assumption) (by assumption) (by assumption) (by assumption) (by assumption))
    | exact Bw.cast (by assumption) (jd2_end1 (by assumption) h2 (by assumption) (by assumption) (by assumption) (by assumption) (by assumption) (by assumption)) (jd2_end1 (by assumption) h2 (by assumption) (by assumption) (by assumption) (by assumption) (by assumption) (by assumption)))
theorem C_jd2_N (N : Int) (t1 t2 t3 : Tok) (news : List (Addr × Obj)) (hy : 1801 ≤ gy N ∧ gy N ≤ 2099) : Ct w p loose mean mg mb 116 7 [.int (gy N) t1, .int (gm N) t2, .int (gd N) t3] news (Mid N) :=
  have h := G_ok N
  ct_mono (C_jd2 (gy N) (gm N) (gd N) t1 t2 t3 news hy h.1 h.2.1 h.2.2.1 h.2.2.2) (Nat.le_refl _) (by rw [G_jd]; exact fun _ _ h => h)
end
-- Q2
local macro_rules | `(tactic| walk_at "call ref") => `(tactic| ((with_reducible show wpAny _ _ (call (Value.ref 116) [Value.int (gy _) _, Value.int (gm _) _, Value.int (gd _) _] _) _ _ _); k_dflt (refine' ct_use (C_jd2_N _ _ _ _ _ ?l1) ?k1 ?k2 ?k3 ?k4 ?k5 ?kK ?kd ?ku ?_; (case k1 => k_asm); (case k2 => k_asm); (case k3 => k_asm); (case k4 => k_asm); (case k5 => k_asm); (case kK => first | exact rfl | assumption); (case kd => ktr_room); (case ku => ktr_units); (case l1 => walk_at "my om")); intro v9 nw9 h9 tk9 hP9 F9 N9; k_dflt (obtain ⟨e8, x9, t9, e9, B9⟩ := hP9; subst e9; subst e8); (try simp only [List.nil_append, List.cons_append] at N9); (try k_sweep); (try dsimp only); (try k_fold)))
local macro_rules | `(tactic| walk_at "my enter2") => `(tactic| (refine' code_def ?k1 ?k2 ?k3 ?k4 ?k5 ?kA ?kF ?kK ?k6 ?k7 ?k8 ?k9 ?kB ?_ ?c2 ?c3 ?c4 ?c5; (case kA => exact rfl); (case kF => exact rfl); (case kK => first | exact rfl | assumption); (case k1 => k_asm); (case k2 => k_asm); (case k3 => k_asm); (case k4 => k_asm); (case k5 => k_asm); (case k6 => k_is); (case k7 => k_is); (case k8 => ktr_room); (case k9 => first | exact BindsTo.of_eq rfl | exact binds_K (by k_in) rfl (by k_is) rfl rfl rfl); (case c5 => decide); (case kB => exact locs rfl); (case c2 => exact rfl); (case c3 => exact rfl); (case c4 => exact rfl); k_whole; intro g' L' h' FG' F' N' B' X' T'; (try dsimp only); (try k_lift B'); (try k_fold)))
local macro_rules | `(tactic| walk_at "call ref") => `(tactic| (k_here; (with_reducible show wpAny _ _ (call (Value.ref 239) _ _) _ _ _); k_dflt (refine' call_cls ?k1 ?k2 ?k3 ?k4 ?k5 ?k6 ?_; (case k1 => k_asm); (case k2 => k_asm); (case k3 => k_asm); (case k4 => k_is); (case k5 => k_is); (case k6 => k_is); k_whole; intro x' d' h' F' N' l1 l2; (try k_lt l1); (try k_lt2 l2); (try k_sweep); walk_at "my enter2")))
local macro_rules | `(tactic| walk_at "call ref") => `(tactic| (k_here; (first | (with_reducible show wpAny _ _ (call (Value.ref 194) _ _) _ _ _) | (with_reducible show wpAny _ _ (call (Value.ref 201) _ _) _ _ _) | (with_reducible show wpAny _ _ (call (Value.ref 208) _ _) _ _ _) | (with_reducible show wpAny _ _ (call (Value.ref 215) _ _) _ _ _) | (with_reducible show wpAny _ _ (call (Value.ref 222) _ _) _ _ _) | (with_reducible show wpAny _ _ (call (Value.ref 229) _ _) _ _ _) | (with_reducible show wpAny _ _ (call (Value.ref 236) _ _) _ _ _) | (with_reducible show wpAny _ _ (call (Value.ref 187) _ _) _ _ _)); refine wpAny_call ?_; k_dflt (walk_at "my enter2")))
local macro_rules | `(tactic| walk_at "my meth") => `(tactic| (k_here; k_dflt (refine' call_meth ?k1 ?k2 ?_; (case k1 => k_asm); (case k2 => k_mem); k_whole; walk_at "my enter2")))
theorem L_ways (N e c : Int) (ep : UInt64) (A1 A2 A3 A4 : Addr) (t0 t1 t2 u1 u2 u3 u4 u5 u6 u7 u8 u9 u0 ua : Tok) (hN : -190000000 ≤ N ∧ N ≤ 190000000) (he : 0 ≤ e ∧ e < 8) (hx : Bw ep c c) (hc : -90000000000000 ≤ c ∧ c ≤ 90000000000000) (hy : (1 ≤ gy N ∧ gy N ≤ 9999) ∨ ¬ (1 ≤ gy N ∧ gy N ≤ 9999)) :
    CtL w p loose mean mg mb 425 24 [.float ep t0, .int N t1, .int e t2, .ref A1, .ref A2, .ref A3, .ref A4] [(A1, o3 (gy N) (gm N) (gd N) u1 u2 u3), (A2, o2 (gy N) (pl N + 1) u4 u5), (A3, o3 (jy N) (jm N) (jdy N) u6 u7 u8), (A4, o3 (iy N) (iw N) (idy N) u9 u0 ua)] (fun v => v = .bool true) := by
  have g0 : GTag (PySem.Str.ofString "_law_jd") := trivial
  have g1 : GTag (PySem.Str.ofString "DayCount") := trivial
  have g2 : GTag (PySem.Str.ofString "to_gregorian_julianday") := trivial
  have g3 : GTag (PySem.Str.ofString "to_julian") := trivial
  have g4 : GTag (PySem.Str.ofString "from_julian") := trivial
  have g5 : GTag (PySem.Str.ofString "to_gregorian_julian") := trivial
  have g6 : GTag (PySem.Str.ofString "to_gregorian_ordinal") := trivial
  have g7 : GTag (PySem.Str.ofString "to_gregorian_iso") := trivial
  have g8 : GTag (PySem.Str.ofString "from_gregorian_julianday") := trivial
  have g9 : GTag (PySem.Str.ofString "from_gregorian_julian") := trivial
  have g10 : GTag (PySem.Str.ofString "from_gregorian_ordinal") := trivial
  have g11 : GTag (PySem.Str.ofString "to_jd2") := trivial
  have g12 : GTag (PySem.Str.ofString "_law_week_of") := trivial
  have g13 : GTag (PySem.Str.ofString "from_jd_gregorian") := trivial
  have g14 : GTag (PySem.Str.ofString "to_jd_gregorian") := trivial
  have g15 : GTag (PySem.Str.ofString "from_jd_julian") := trivial
  have g16 : GTag (PySem.Str.ofString "to_jd_julian") := trivial
  have g17 : GTag (PySem.Str.ofString "to_jd_iso") := trivial
  have g18 : GTag (PySem.Str.ofString "from_gregorian_iso") := trivial
  have g19 : GTag (PySem.Str.ofString "date") := trivial
  have g20 : GTag (PySem.Str.ofString "to_jd_ordinal") := trivial
  have tag : NTag N e := trivial
  have hB := gy_bounds hN
  walk_at "my inL"; rename_i hret
  rcases hy with hy | hy
  · walk_at "my enterL"
    k_steps
    all_goals (refine' hret _ _ _ rfl ?kF ?kS; (case kF => k_asm); (case kS => walk_at "my sub"))
  · walk_at "my enterL"
    k_steps
    all_goals (refine' hret _ _ _ rfl ?kF ?kS; (case kF => k_asm); (case kS => walk_at "my sub"))
-- LW0
section
variable {w : World} {p : Program} {loose : List Str} {mean : ExcName → Option Value} {mg mb : Str → Option Value}
theorem day_next1 {N : Int} (h : ¬ pl N + 1 = 365 + b2 (lp (gy N))) : gy (N + 1) = gy N ∧ pl (N + 1) = pl N + 1 := by
  have a := gy_in N
  have e : pl N = N - fy (gy N) := rfl
  have k := gy_eq (y := gy N) (p := pl N + 1) (N := N + 1) (by omega) (by omega) (by omega)
  refine ⟨k, ?_⟩
  unfold pl at *; rw [k]; omega
theorem day_next2 {N : Int} (h : pl N + 1 = 365 + b2 (lp (gy N))) : gy (N + 1) = gy N + 1 ∧ pl (N + 1) = 0 ∧ fy (gy N) + (365 + b2 (lp (gy N))) = fy (gy N + 1) := by
  have a := gy_in N
  have e : pl N = N - fy (gy N) := rfl
  have f := fy_next (gy N)
  have b := b2_01 (lp (gy N + 1))
  have k := gy_eq (y := gy N + 1) (p := 0) (N := N + 1) (by omega) (by omega) (by omega)
  refine ⟨k, ?_, by omega⟩
  unfold pl at *; rw [k]; omega
section
variable {prog : Program} {w : World} {A : Around} {E : Value → Shared → Prop} {s : Shared} {Q : Value → Shared → Prop} {t u : Tok}
theorem law_Y {a : Int} (h : ∀ Y, -500000 ≤ Y ∧ Y ≤ 499999 → Q (.int Y s.toks) { s with toks := s.toks + 1 }) : wpAny (model prog w) A (binaryOp .Sub (.int (a % 1000000) t) (.int 500000 u)) Q E s :=
  PyProof.Rows.sub_int (h (a % 1000000 - 500000) (by omega))
theorem law_P {a : Int} {b : Bool} (h : ∀ P, 0 ≤ P ∧ P < 365 + b2 b → Q (.int P s.toks) { s with toks := s.toks + 1 }) : wpAny (model prog w) A (binaryOp .Mod (.int a t) (.int (365 + b2 b) u)) Q E s :=
  have hb := b2_01 b
  w_mod_ii (by omega) (h (a % (365 + b2 b)) ⟨Int.emod_nonneg _ (by omega), Int.emod_lt_of_pos _ (by omega)⟩)
theorem law_e {a : Int} (h : ∀ e, 0 ≤ e ∧ e < 8 → Q (.int e s.toks) { s with toks := s.toks + 1 }) : wpAny (model prog w) A (binaryOp .Mod (.int a t) (.int 8 u)) Q E s :=
  w_mod_ii (by decide) (h (a % 8) (by omega))
theorem law_N {Y P : Int} (hY : -500000 ≤ Y ∧ Y ≤ 499999) (hP : 0 ≤ P ∧ P < 365 + b2 (lp Y)) (h : ∀ N, gy N = Y → pl N = P → -182000000 ≤ N ∧ N ≤ 186000000 → Q (.int N s.toks) { s with toks := s.toks + 1 }) : wpAny (model prog w) A (binaryOp .Add (.int (fy Y) t) (.int P u)) Q E s := by
  have e := gy_eq (y := Y) (p := P) (N := fy Y + P) rfl hP.1 hP.2
  have b := b2_01 (lp Y)
  refine PyProof.Rows.add_int (h (fy Y + P) e (by unfold pl; rw [e]; omega) ?_)
  unfold fy; omega
theorem ifx_join {x : Expr} {env : Env} {n : Int} (h : wpAny (model prog w) A (eval x env) (fun v s' => ∃ t tk, v = .int n t ∧ s' = { s with toks := tk }) E s) (k : ∀ t tk, Q (.int n t) { s with toks := tk }) : wpAny (model prog w) A (eval x env) Q E s :=
  wpAny_mono h (fun v s' hv => by obtain ⟨t, tk, rfl, rfl⟩ := hv; exact k t tk) fun _ _ e => e
end
end
-- LW1
def XTag (_Y : Int) : Prop := True
theorem xtag (Y : Int) : XTag Y := trivial
def IfP (n : Int) (s : Shared) (v : Value) (s' : Shared) : Prop := ∃ t tk, v = .int n t ∧ s' = { s with toks := tk }
theorem ifp_t {Y : Int} {s : Shared} {t tk : Tok} (h : lp Y = true) : IfP (365 + b2 (lp Y)) s (.int 366 t) { s with toks := tk } := ⟨t, tk, by rw [b2t h]; rfl, rfl⟩
theorem ifp_f {Y : Int} {s : Shared} {t tk : Tok} (h : lp Y = false) : IfP (365 + b2 (lp Y)) s (.int 365 t) { s with toks := tk } := ⟨t, tk, by rw [b2f h]; rfl, rfl⟩
section
variable {prog : Program} {w : World} {A : Around} {E : Value → Shared → Prop} {s : Shared} {Q : Value → Shared → Prop} {t u : Tok}
theorem ifx_join2 {x : Expr} {env : Env} {Y : Int} (_x : XTag Y) (h : wpAny (model prog w) A (eval x env) (fun v s' => IfP (365 + b2 (lp Y)) s v s') E s) (k : ∀ t tk, Q (.int (365 + b2 (lp Y)) t) { s with toks := tk }) : wpAny (model prog w) A (eval x env) Q E s :=
  ifx_join h k
theorem law_Z {a : Int} (h : ∀ z, -10000000 ≤ z ∧ z < 10000000 → Q (.int z s.toks) { s with toks := s.toks + 1 }) : wpAny (model prog w) A (binaryOp .Sub (.int (a % (2 * 10000000)) t) (.int 10000000 u)) Q E s :=
  PyProof.Rows.sub_int (h (a % (2 * 10000000) - 10000000) (by omega))
theorem law_D {a : Int} (h : ∀ z, -1000000 ≤ z ∧ z < 1000000 → Q (.int z s.toks) { s with toks := s.toks + 1 }) : wpAny (model prog w) A (binaryOp .Sub (.int (a % (2 * 1000000)) t) (.int 1000000 u)) Q E s :=
  PyProof.Rows.sub_int (h (a % (2 * 1000000) - 1000000) (by omega))
end
section
variable {w : World} {p : Program} {loose : List Str} {mean : ExcName → Option Value} {mg mb : Str → Option Value}
theorem ctl_use {f : Addr} {d : Nat} {vs : List Value} {news : List (Addr × Obj)} {P : Value → Prop} (C : CtL w p loose mean mg mb f d vs news P)
    {dp un : Nat} {gd : Option (List Code)} {cn : Str} {cs : Scope} {a : Addr} {ccd : Value} {A₀ : Around} {base h₀ : Heap} {L : Addr} {m : Str → Option Value} {s : Shared} {Q E : Value → Shared → Prop}
    (B : Below A₀ base [] h₀) (F : Fr h₀ L s.heap m) (X : (hd.heap_39 w.params).In h₀) (N : News h₀ L s.heap news) (T : Top p loose mean mg mb h₀) (hk : cs.kind = .function)
    (XB : (hd.heap_39 w.params).In base) (TB : Top p loose mean mg mb base)
    (hd : dp + d < recursionLimit) (hu : un + (64 + 8 * d) < cLine)
    (ret : ∀ v h' tk', P v → Fr h₀ L h' m → News h₀ L h' news → Q v { s with heap := h', toks := tk' }) :
    wpAny (model PySem.Challenge.rw_ad5033_01.row.prog w) (ktrTop dp un gd cn cs L a ccd [] []) (call (.ref f) vs) Q E s :=
  C dp un gd cn cs a ccd A₀ base h₀ L m s Q E B F X N T hk XB TB hd hu ret
theorem News.of4 {h₀ h : Heap} {L : Addr} {x1 x2 x3 x4 : Addr × Obj} {news : List (Addr × Obj)} (N : News h₀ L h news) (h1 : x1 ∈ news) (h2 : x2 ∈ news) (h3 : x3 ∈ news) (h4 : x4 ∈ news) : News h₀ L h [x1, x2, x3, x4] := fun q hq => by
  rcases List.mem_cons.mp hq with rfl | hq
  · exact N _ h1
  rcases List.mem_cons.mp hq with rfl | hq
  · exact N _ h2
  rcases List.mem_cons.mp hq with rfl | hq
  · exact N _ h3
  rcases List.mem_cons.mp hq with rfl | hq
  · exact N _ h4
  · cases hq
theorem News.add1 {h₀ h : Heap} {L : Addr} {x : Addr × Obj} {news : List (Addr × Obj)} (N : News h₀ L h news) (h1 : x ∈ news) : News h₀ L h (x :: news) := fun q hq => by
  rcases List.mem_cons.mp hq with rfl | hq
  · exact N _ h1
  · exact N _ hq
theorem lj_eq1 (y : Int) : decide (y % 4 = 0) = lj y := rfl
theorem lj_eq2 (y : Int) : (y % 4 == 0) = lj y := by unfold lj; rw [Bool.eq_iff_iff]; simp
theorem C_date_N (N : Int) (t1 t2 : Tok) (news : List (Addr × Obj)) :
    Ct w p loose mean mg mb 376 2 [.int (gy N) t1, .int (pl N) t2, .bool (lp (gy N))] news (T3 (gy N) (gm N) (gd N)) := by
  have a := gy_in N
  have e : pl N = N - fy (gy N) := rfl
  rw [gd_eq']
  exact C_date (gy N) (pl N) (lp (gy N)) t1 t2 news (by omega) (by omega)
theorem L_dayis2 {M e y q : Int} {A1 A2 A3 A4 : Addr} {t1 t2 u1 u2 u3 u4 u5 u6 u7 u8 u9 u0 ua : Tok} (hN : -190000000 ≤ M ∧ M ≤ 190000000) (he : 0 ≤ e ∧ e < 8) (h1 : y = gy M) (h2 : q = pl M + 1) :
    CtL w p loose mean mg mb 418 24 [.int M t1, .int e t2, .ref A1, .ref A2, .ref A3, .ref A4] [(A1, o3 (gy M) (gm M) (gd M) u1 u2 u3), (A2, o2 y q u4 u5), (A3, o3 (jy M) (jm M) (jdy M) u6 u7 u8), (A4, o3 (iy M) (iw M) (idy M) u9 u0 ua)] (fun v => v = .bool true) := by
  subst h1; subst h2
  exact L_dayis M e A1 A2 A3 A4 t1 t2 u1 u2 u3 u4 u5 u6 u7 u8 u9 u0 ua hN he (Classical.em _)
theorem L_order2 {N M : Int} {A1 A2 A3 A4 : Addr} {t1 t2 u1 u2 u3 u4 u5 u6 u7 u8 u9 u0 ua : Tok} (hN : -190000000 ≤ N ∧ N ≤ 190000000) (hM : -190000000 ≤ M ∧ M ≤ 190000000) :
    CtL w p loose mean mg mb 439 24 [.int N t1, .int M t2, .ref A1, .ref A2, .ref A3, .ref A4] [(A1, o3 (gy N) (gm N) (gd N) u1 u2 u3), (A2, o2 (gy N) (pl N + 1) u4 u5), (A3, o3 (jy N) (jm N) (jdy N) u6 u7 u8), (A4, o3 (iy N) (iw N) (idy N) u9 u0 ua)] (fun v => v = .bool true) :=
  L_order N M A1 A2 A3 A4 t1 t2 u1 u2 u3 u4 u5 u6 u7 u8 u9 u0 ua hN hM (Classical.em _)
theorem L_ways2 {N e c : Int} {ep : UInt64} {A1 A2 A3 A4 : Addr} {t0 t1 t2 u1 u2 u3 u4 u5 u6 u7 u8 u9 u0 ua : Tok} (hx : Bw ep c c) (hN : -190000000 ≤ N ∧ N ≤ 190000000) (he : 0 ≤ e ∧ e < 8) (hc : -90000000000000 ≤ c ∧ c ≤ 90000000000000) :
    CtL w p loose mean mg mb 425 24 [.float ep t0, .int N t1, .int e t2, .ref A1, .ref A2, .ref A3, .ref A4] [(A1, o3 (gy N) (gm N) (gd N) u1 u2 u3), (A2, o2 (gy N) (pl N + 1) u4 u5), (A3, o3 (jy N) (jm N) (jdy N) u6 u7 u8), (A4, o3 (iy N) (iw N) (idy N) u9 u0 ua)] (fun v => v = .bool true) :=
  L_ways N e c ep A1 A2 A3 A4 t0 t1 t2 u1 u2 u3 u4 u5 u6 u7 u8 u9 u0 ua hN he hx hc (Classical.em _)
end
local macro_rules | `(tactic| walk_at "call ref") => `(tactic| ((with_reducible show wpAny _ _ (call (Value.ref 376) [Value.int (gy _) _, Value.int (pl _) _, Value.bool _] _) _ _ _); k_dflt (refine' ct_use (C_date_N _ _ _ _) ?k1 ?k2 ?k3 ?k4 ?k5 ?kK ?kd ?ku ?_; (case k1 => k_asm); (case k2 => k_asm); (case k3 => k_asm); (case k4 => k_asm); (case k5 => k_asm); (case kK => first | exact rfl | assumption); (case kd => ktr_room); (case ku => ktr_units)); intro v9 nw9 h9 tk9 hP9 F9 N9; k_dflt (obtain ⟨D9, t9, u9, v9, e9, e8⟩ := hP9; subst e9; subst e8); (try simp only [List.nil_append, List.cons_append] at N9); (try k_sweep); (try dsimp only); (try k_fold)))
local macro_rules | `(tactic| walk_at "call ref") => `(tactic| ((with_reducible show wpAny _ _ (call (Value.ref 383) [Value.int _ _] _) _ _ _); k_dflt (refine' ct_use (C_olddate _ _ _) ?k1 ?k2 ?k3 ?k4 ?k5 ?kK ?kd ?ku ?_; (case k1 => k_asm); (case k2 => k_asm); (case k3 => k_asm); (case k4 => k_asm); (case k5 => k_asm); (case kK => first | exact rfl | assumption); (case kd => ktr_room); (case ku => ktr_units)); intro v9 nw9 h9 tk9 hP9 F9 N9; k_dflt (obtain ⟨D9, t9, u9, v9, e9, e8⟩ := hP9; subst e9; subst e8); (try simp only [List.nil_append, List.cons_append] at N9); (try k_sweep); (try dsimp only); (try k_fold)))
local macro_rules | `(tactic| walk_at "call ref") => `(tactic| ((with_reducible show wpAny _ _ (call (Value.ref 390) [Value.int _ _, Value.int _ _, Value.int _ _] _) _ _ _); k_dflt (refine' ct_use (C_week _ _ _ _ _ _ _ ?l1 ?l2) ?k1 ?k2 ?k3 ?k4 ?k5 ?kK ?kd ?ku ?_; (case k1 => k_asm); (case k2 => k_asm); (case k3 => k_asm); (case k4 => k_asm); (case k5 => k_asm); (case kK => first | exact rfl | assumption); (case kd => ktr_room); (case ku => ktr_units); (case l1 => first | with_reducible rfl | with_reducible exact (day_next1 (by with_reducible assumption)).1 | with_reducible exact (day_next2 (by with_reducible assumption)).1); (case l2 => first | with_reducible rfl | with_reducible exact (day_next2 (by with_reducible assumption)).2.2)); intro v9 nw9 h9 tk9 hP9 F9 N9; k_dflt (obtain ⟨D9, t9, u9, v9, e9, e8⟩ := hP9; subst e9; subst e8); (try simp only [List.nil_append, List.cons_append] at N9); (try k_sweep); (try dsimp only); (try k_fold)))
local macro_rules | `(tactic| walk_at "call ref") => `(tactic| ((with_reducible show wpAny _ _ (call (Value.ref 418) _ _) _ _ _); k_dflt (refine' ctl_use (L_dayis2 ?l1 ?l2 ?l3 ?l4) ?k1 ?k2 ?k3 (News.of4 ?k4 ?n1 ?n2 ?n3 ?n4) ?k5 ?kK ?XB ?TB ?kd ?ku ?_; (case k1 => k_asm); (case k2 => k_asm); (case k3 => k_asm); (case k4 => k_asm); (case n1 => k_mem); (case n2 => k_mem); (case n3 => k_mem); (case n4 => k_mem); (case k5 => k_asm); (case kK => first | exact rfl | assumption); (case XB => assumption); (case TB => assumption); (case kd => ktr_room); (case ku => ktr_units); (case l1 => omega); (case l2 => assumption); (case l3 => first | with_reducible rfl | with_reducible exact (day_next1 (by with_reducible assumption)).1.symm | with_reducible exact (day_next2 (by with_reducible assumption)).1.symm); (case l4 => first | with_reducible rfl | (have hl := (day_next1 (by with_reducible assumption)).2; omega) | (have hl := (day_next2 (by with_reducible assumption)).2.1; omega))); intro v9 h9 tk9 e9 F9 N9; subst e9; (try k_sweep); (try dsimp only); (try k_fold)))
local macro_rules | `(tactic| walk_at "call ref") => `(tactic| ((with_reducible show wpAny _ _ (call (Value.ref 425) _ _) _ _ _); k_dflt (refine' ctl_use (L_ways2 ?l1 ?l2 ?l3 ?l4) ?k1 ?k2 ?k3 (News.of4 ?k4 ?n1 ?n2 ?n3 ?n4) ?k5 ?kK ?XB ?TB ?kd ?ku ?_; (case k1 => k_asm); (case k2 => k_asm); (case k3 => k_asm); (case k4 => k_asm); (case n1 => k_mem); (case n2 => k_mem); (case n3 => k_mem); (case n4 => k_mem); (case k5 => k_asm); (case kK => first | exact rfl | assumption); (case XB => assumption); (case TB => assumption); (case kd => ktr_room); (case ku => ktr_units); (case l1 => with_reducible assumption); (case l2 => omega); (case l3 => assumption); (case l4 => omega)); intro v9 h9 tk9 e9 F9 N9; subst e9; (try k_sweep); (try dsimp only); (try k_fold)))
local macro_rules | `(tactic| walk_at "call ref") => `(tactic| ((with_reducible show wpAny _ _ (call (Value.ref 439) _ _) _ _ _); k_dflt (refine' ctl_use (L_order2 ?l1 ?l2) ?k1 ?k2 ?k3 (News.of4 ?k4 ?n1 ?n2 ?n3 ?n4) ?k5 ?kK ?XB ?TB ?kd ?ku ?_; (case k1 => k_asm); (case k2 => k_asm); (case k3 => k_asm); (case k4 => k_asm); (case n1 => k_mem); (case n2 => k_mem); (case n3 => k_mem); (case n4 => k_mem); (case k5 => k_asm); (case kK => first | exact rfl | assumption); (case XB => assumption); (case TB => assumption); (case kd => ktr_room); (case ku => ktr_units); (case l1 => omega); (case l2 => omega)); intro v9 h9 tk9 e9 F9 N9; subst e9; (try k_sweep); (try dsimp only); (try k_fold)))
local macro_rules | `(tactic| walk_at "call ref") => `(tactic| ((with_reducible show wpAny _ _ (call (Value.ref 397) [Value.ref _, Value.bool _] _) _ _ _); k_dflt (refine' ct_use (C_next_J _ _ ?l1 _ _ _ _ _) ?k1 ?k2 ?k3 (News.add1 ?k4 ?n1) ?k5 ?kK ?kd ?ku ?_; (case k1 => k_asm); (case k2 => k_asm); (case k3 => k_asm); (case k4 => k_asm); (case l1 => first | with_reducible exact lj_eq2 _ | with_reducible exact lj_eq1 _); (case n1 => k_mem); (case k5 => k_asm); (case kK => first | exact rfl | assumption); (case kd => ktr_room); (case ku => ktr_units)); intro v9 nw9 h9 tk9 hP9 F9 N9; k_dflt (obtain ⟨D9, t9, u9, v9, e9, e8⟩ := hP9; subst e9; subst e8); (try simp only [List.nil_append, List.cons_append] at N9); (try k_sweep); (try dsimp only); (try k_fold)))
local macro_rules | `(tactic| walk_at "call ref") => `(tactic| ((with_reducible show wpAny _ _ (call (Value.ref 397) [Value.ref _, Value.bool (lp (gy _))] _) _ _ _); k_dflt (refine' ct_use (C_next_G _ _ _ _ _ _) ?k1 ?k2 ?k3 (News.add1 ?k4 ?n1) ?k5 ?kK ?kd ?ku ?_; (case k1 => k_asm); (case k2 => k_asm); (case k3 => k_asm); (case k4 => k_asm); (case n1 => k_mem); (case k5 => k_asm); (case kK => first | exact rfl | assumption); (case kd => ktr_room); (case ku => ktr_units)); intro v9 nw9 h9 tk9 hP9 F9 N9; k_dflt (obtain ⟨D9, t9, u9, v9, e9, e8⟩ := hP9; subst e9; subst e8); (try simp only [List.nil_append, List.cons_append] at N9); (try k_sweep); (try dsimp only); (try k_fold)))
local macro_rules | `(tactic| walk_at "IfP") => `(tactic| first | exact ifp_t (by assumption) | exact ifp_f (by assumption))
local macro_rules | `(tactic| walk_at "eval IfExp") => `(tactic| (k_here; (with_reducible rename XTag _ => xT); focus ((with_reducible (refine' ifx_join2 xT ?_ ?_)); clear xT; k_dflt (refine IfExp_ ?_); rotate_left; (clear xT; intro t9 tk9; (try dsimp only)); rotate_right)))
local macro_rules | `(tactic| walk_at "binaryOp Sub int int") => `(tactic| (k_here; with_reducible (refine law_Y ?_); intro Y hY; have xT := xtag Y; (try dsimp only)))
local macro_rules | `(tactic| walk_at "binaryOp Sub int int") => `(tactic| (k_here; with_reducible (refine law_Z ?_); intro z9 hz9; (try dsimp only)))
local macro_rules | `(tactic| walk_at "binaryOp Sub int int") => `(tactic| (k_here; with_reducible (refine law_D ?_); intro z9 hz9; (try dsimp only)))
local macro_rules | `(tactic| walk_at "binaryOp Mod int int") => `(tactic| (k_here; (with_reducible show wpAny _ _ (binaryOp _ (Value.int _ _) (Value.int (365 + b2 _) _)) _ _ _); k_dflt (refine law_P ?_); intro z9 hz9; (try dsimp only)))
local macro_rules | `(tactic| walk_at "binaryOp Mod int int") => `(tactic| (k_here; (with_reducible show wpAny _ _ (binaryOp _ (Value.int _ _) (Value.int 8 _)) _ _ _); k_dflt (refine law_e ?_); intro z9 hz9; (try dsimp only)))
local macro_rules | `(tactic| walk_at "binaryOp Add int int") => `(tactic| (k_here; (with_reducible show wpAny _ _ (binaryOp _ (Value.int (fy _) _) (Value.int _ _)) _ _ _); k_dflt (refine' law_N ?k1 ?k2 ?_; (case k1 => with_reducible assumption); (case k2 => with_reducible assumption)); intro N9 e8 e9 b9; subst e8; subst e9; (try dsimp only)))

theorem law_holds : PySem.Challenge.rw_ad5033_01.Holds := hd (by
  k_go0
  (all_goals try k_fold)
  have g0 : GTag (PySem.Str.ofString "_law_at") := trivial
  have g1 : GTag (PySem.Str.ofString "_law_wide") := trivial
  have g2 : GTag (PySem.Str.ofString "_law_new_year") := trivial
  have g3 : GTag (PySem.Str.ofString "_law_date") := trivial
  have g4 : GTag (PySem.Str.ofString "_law_old_date") := trivial
  have g5 : GTag (PySem.Str.ofString "_law_week") := trivial
  have g6 : GTag (PySem.Str.ofString "_law_day_is") := trivial
  have g7 : GTag (PySem.Str.ofString "_law_ways_are") := trivial
  have g8 : GTag (PySem.Str.ofString "_law_near") := trivial
  have g9 : GTag (PySem.Str.ofString "_law_order_is") := trivial
  have g10 : GTag (PySem.Str.ofString "_law_next") := trivial
  k_steps
  all_goals w_report)
end Mine
theorem PySem.Challenge.cw_ad5033_01_holds : PySem.Challenge.rw_ad5033_01.Holds :=
  Mine.law_holds
