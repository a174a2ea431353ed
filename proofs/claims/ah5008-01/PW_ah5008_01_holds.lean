import PyProof.Rows.All
import Wide.All
import OpenK.AllK
import Wide.FinOn
import Lean
import PySem.Challenge.RW_ah5008_01
open PySem PySem.W PySem.Calls PySem.Spec PyProof.Rows
set_option Elab.async false
set_option linter.unusedVariables false
set_option maxRecDepth 100000
namespace Mine

set_option maxHeartbeats 8000000 in
open_top hd for PySem.Challenge.rw_ah5008_01

/-- how many binary digits -/
abbrev nb (x : Int) : Nat := Builtin.Int.intBits x

theorem p2pos (n : Nat) : (0 : Int) < 2 ^ n := kbt_pos n
theorem p2succ (n : Nat) : (2 : Int) ^ (n + 1) = 2 * 2 ^ n := by rw [Int.pow_succ, Int.mul_comm]
theorem p2add (m n : Nat) : (2 : Int) ^ (m + n) = 2 ^ m * 2 ^ n := Int.pow_add 2 m n
theorem p2le {m n : Nat} (h : m ≤ n) : (2 : Int) ^ m ≤ 2 ^ n := by
  obtain ⟨d, rfl⟩ := Nat.exists_eq_add_of_le h
  rw [p2add]
  have h1 := p2pos m
  have h2 := p2pos d
  have : (2 : Int) ^ m * 1 ≤ 2 ^ m * 2 ^ d := Int.mul_le_mul_of_nonneg_left (by omega) (by omega)
  omega
theorem p2lt {m n : Nat} (h : m < n) : (2 : Int) ^ m < 2 ^ n := by
  have h1 := p2le (show m + 1 ≤ n by omega)
  rw [p2succ] at h1
  have := p2pos m
  omega
theorem p2le_iff {m n : Nat} : (2 : Int) ^ m ≤ 2 ^ n ↔ m ≤ n := by
  constructor
  · intro h
    by_cases hc : m ≤ n
    · exact hc
    · have := p2lt (show n < m by omega)
      omega
  · exact p2le

theorem nb_le_iff {x : Int} {n : Nat} (hx : 0 ≤ x) : nb x ≤ n ↔ x < 2 ^ n := by
  have h := @PySem.intBits_le_iff n x
  have hc : ((x.natAbs : Nat) : Int) = x := Int.natAbs_of_nonneg hx
  constructor
  · intro h1
    have h2 := h.mp h1
    have h3 : ((x.natAbs : Nat) : Int) < ((2 ^ n : Nat) : Int) := by exact_mod_cast h2
    rw [hc, kbt_cast] at h3
    exact h3
  · intro h1
    refine h.mpr ?_
    have h3 : ((x.natAbs : Nat) : Int) < ((2 ^ n : Nat) : Int) := by rw [hc, kbt_cast]; exact h1
    exact_mod_cast h3
theorem lt_nb_iff {x : Int} {n : Nat} (hx : 0 ≤ x) : n < nb x ↔ 2 ^ n ≤ x := by
  have h := @nb_le_iff x n hx
  constructor
  · intro h1
    by_cases hc : x < 2 ^ n
    · have := h.mpr hc; omega
    · omega
  · intro h1
    by_cases hc : nb x ≤ n
    · have := h.mp hc; omega
    · omega
theorem nb_lt (x : Int) (hx : 0 ≤ x) : x < 2 ^ nb x := (nb_le_iff hx).mp (Nat.le_refl _)
theorem nb_pos {x : Int} (hx : 0 < x) : 0 < nb x := (lt_nb_iff (by omega)).mpr (by rw [Int.pow_zero]; omega)
theorem nb_ge {x : Int} (hx : 0 < x) : 2 ^ (nb x - 1) ≤ x := (lt_nb_iff (by omega)).mp (by have := nb_pos hx; omega)
theorem nb_unique {x : Int} {n : Nat} (h1 : 2 ^ n ≤ x) (h2 : x < 2 ^ (n + 1)) : nb x = n + 1 := by
  have h0 : 0 ≤ x := by have := p2pos n; omega
  have a := (nb_le_iff (n := n + 1) h0).mpr h2
  have b := (lt_nb_iff h0).mpr h1
  omega
theorem nb_zero : nb 0 = 0 := rfl
theorem nb_one : nb 1 = 1 := rfl
theorem nb_p2 (n : Nat) : nb (2 ^ n) = n + 1 := nb_unique (Int.le_refl _) (p2lt (Nat.lt_succ_self n))
theorem nb_neg (x : Int) : nb (-x) = nb x := by
  unfold nb Builtin.Int.intBits
  rw [Int.natAbs_neg]
  by_cases h : x = 0
  · subst h; rfl
  · rw [if_neg (by simpa using h), if_neg (by simpa using h)]

/-- quotients by powers of two -/
theorem div_p2 {x : Int} (hx : 0 ≤ x) (n : Nat) : 2 ^ n * (x / 2 ^ n) ≤ x ∧ x < 2 ^ n * (x / 2 ^ n) + 2 ^ n ∧ 0 ≤ x / 2 ^ n := by
  have h1 := Int.mul_ediv_add_emod x (2 ^ n)
  have h2 := Int.emod_nonneg x (show (2 : Int) ^ n ≠ 0 by have := p2pos n; omega)
  have h3 := Int.emod_lt_of_pos x (p2pos n)
  exact ⟨by omega, by omega, Int.ediv_nonneg hx (by have := p2pos n; omega)⟩
theorem nb_div {x : Int} {n : Nat} (hx : 0 < x) (h : n < nb x) : nb (x / 2 ^ n) = nb x - n := by
  have h1 := nb_ge hx
  have h2 := nb_lt x (by omega)
  obtain ⟨d, hd⟩ : ∃ d, nb x = n + d + 1 := ⟨nb x - n - 1, by omega⟩
  rw [hd] at h1 h2 ⊢
  have e : n + d + 1 - n = d + 1 := by omega
  rw [e]
  refine nb_unique ?_ ?_
  · refine (Int.le_ediv_iff_mul_le (p2pos n)).mpr ?_
    have e2 : n + d + 1 - 1 = d + n := by omega
    rw [e2, p2add] at h1
    exact h1
  · refine (Int.ediv_lt_iff_lt_mul (p2pos n)).mpr ?_
    have e2 : n + d + 1 = (d + 1) + n := by omega
    rw [e2, p2add] at h2
    exact h2

/-- the odd part -/
theorem odd_part : ∀ (k : Nat) (x : Int), 0 < x → x < 2 ^ k → ∃ (j : Nat) (a : Int), 0 ≤ a ∧ x = 2 ^ j * (2 * a + 1)
  | 0, x, h, h2 => by rw [Int.pow_zero] at h2; omega
  | k + 1, x, h, h2 => by
    by_cases ho : x % 2 = 1
    · exact ⟨0, x / 2, by omega, by rw [Int.pow_zero]; omega⟩
    · rw [p2succ] at h2
      obtain ⟨j, a, h0, e⟩ := odd_part k (x / 2) (by omega) (by omega)
      refine ⟨j + 1, a, h0, ?_⟩
      rw [p2succ, Int.mul_assoc, ← e]
      omega
theorem odd_part' {x : Int} (h : 0 < x) : ∃ (j : Nat) (a : Int), 0 ≤ a ∧ x = 2 ^ j * (2 * a + 1) := odd_part (nb x) x h (nb_lt x (by omega))

/-- what «trailing» gives -/
def trailF (v : Int) : Int := if v = 0 then 0 else (Builtin.Int.intBits (Builtin.bitAnd v (-v)) : Int) - 1
theorem trail_odd (j : Nat) {a : Int} (h : 0 ≤ a) : trailF (2 ^ j * (2 * a + 1)) = j := by
  unfold trailF
  have hp := p2pos j
  have : 0 < 2 ^ j * (2 * a + 1) := Int.mul_pos hp (by omega)
  rw [if_neg (by omega), kbt_low]
  have := nb_p2 j
  unfold nb at this
  omega

/-- the one form of ± w · 2 ^ e -/
def canon (sg w e : Int) : Int × Int × Int × Int :=
  if w = 0 then (0, 0, 0, 0) else (sg, w / 2 ^ (trailF w).toNat, e + trailF w, nb (w / 2 ^ (trailF w).toNat))
theorem odd_div (j : Nat) (a : Int) : 2 ^ j * (2 * a + 1) / 2 ^ j = 2 * a + 1 := Int.mul_ediv_cancel_left _ (by have := p2pos j; omega)
theorem canon_odd {sg e : Int} (j : Nat) {a : Int} (h : 0 ≤ a) : canon sg (2 ^ j * (2 * a + 1)) e = (sg, 2 * a + 1, e + j, (nb (2 * a + 1) : Int)) := by
  unfold canon
  have : 0 < 2 ^ j * (2 * a + 1) := Int.mul_pos (p2pos j) (by omega)
  rw [if_neg (by omega), trail_odd j h, Int.toNat_natCast, odd_div]
theorem nb_mul_p2 {x : Int} (hx : 0 < x) (j : Nat) : nb (2 ^ j * x) = j + nb x := by
  have h1 := nb_ge hx
  have h2 := nb_lt x (by omega)
  have h3 := nb_pos hx
  obtain ⟨d, hd⟩ : ∃ d, nb x = d + 1 := ⟨nb x - 1, by omega⟩
  rw [hd] at h1 h2 ⊢
  rw [← Nat.add_assoc]
  refine nb_unique ?_ ?_
  · rw [p2add]
    exact Int.mul_le_mul_of_nonneg_left (by simpa using h1) (by have := p2pos j; omega)
  · rw [Nat.add_assoc, p2add]
    exact Int.mul_lt_mul_of_pos_left h2 (p2pos j)
theorem canon_shift {sg w e : Int} (hw : 0 ≤ w) (j : Nat) : canon sg (w * 2 ^ j) e = canon sg w (e + j) := by
  by_cases h0 : w = 0
  · subst h0; simp [canon]
  · obtain ⟨i, a, ha, rfl⟩ := odd_part' (show 0 < w by omega)
    have e1 : 2 ^ i * (2 * a + 1) * 2 ^ j = 2 ^ (i + j) * (2 * a + 1) := by
      rw [p2add, Int.mul_assoc, Int.mul_assoc, Int.mul_comm (2 * a + 1)]
    rw [e1, canon_odd _ ha, canon_odd _ ha]
    have : e + ((i + j : Nat) : Int) = e + j + i := by omega
    rw [this]

/-- the five roundings -/
inductive Rn where
  | n | f | c | d | u
  deriving DecidableEq
def Rn.str : Rn → Str
  | .n => Str.ofString "n"
  | .f => Str.ofString "f"
  | .c => Str.ofString "c"
  | .d => Str.ofString "d"
  | .u => Str.ofString "u"

/-- is the next one taken -/
def goUp (r : Rn) (sg q rest low : Int) : Bool := match r with
  | .n => decide (2 * rest > low) || (decide (2 * rest = low) && decide (q % 2 = 1))
  | .u => decide (rest > 0)
  | .d => false
  | .c => decide (sg = 0) && decide (rest > 0)
  | .f => decide (sg = 1) && decide (rest > 0)
/-- x without its n last binary digits, rounded -/
def rsh (r : Rn) (sg x : Int) (n : Nat) : Int := if goUp r sg (x / 2 ^ n) (x % 2 ^ n) (2 ^ n) = true then x / 2 ^ n + 1 else x / 2 ^ n
/-- the number ± man · 2 ^ exp, rounded, in its one form -/
def norm (sg man exp prec : Int) (r : Rn) : Int × Int × Int × Int :=
  if man = 0 then (0, 0, 0, 0) else if (nb man : Int) ≤ prec then canon sg man exp else canon sg (rsh r sg man ((nb man : Int) - prec).toNat) (exp + ((nb man : Int) - prec))

def sdF (r : Rn) (sg : Int) : Int := match r with
  | .f => if sg = 0 then 1 else 0
  | .c => if sg = 0 then 0 else 1
  | .d => 1
  | _ => 0

theorem fdiv_p2 (x : Int) (n : Nat) : x.fdiv (2 ^ n) = x / 2 ^ n := Int.fdiv_eq_ediv_of_nonneg _ (by have := p2pos n; omega)
theorem fmod_p2 (x : Int) (n : Nat) : x.fmod (2 ^ n) = x % 2 ^ n := Int.fmod_eq_emod_of_nonneg _ (by have := p2pos n; omega)
theorem and_one (x : Int) : Builtin.bitAnd x 1 = x % 2 := by
  have := kbt_mask x 1
  simpa using this
theorem and_two (x : Int) : Builtin.bitAnd x 2 = x / 2 % 2 * 2 := by
  have := kbt_bit x 1
  simpa using this

/-- one more digit -/
theorem split_digit (x : Int) (m : Nat) : x / 2 ^ (m + 1) = x / 2 ^ m / 2 ∧ x % 2 ^ (m + 1) = (x / 2 ^ m % 2) * 2 ^ m + x % 2 ^ m := by
  have hp := p2pos m
  have e : (2 : Int) ^ (m + 1) = 2 ^ m * 2 := by rw [Int.pow_succ]
  have h1 : x / 2 ^ (m + 1) = x / 2 ^ m / 2 := by
    rw [e, Int.ediv_ediv_of_nonneg (by omega)]
  refine ⟨h1, ?_⟩
  have h2 := Int.mul_ediv_add_emod x (2 ^ (m + 1))
  have h3 := Int.mul_ediv_add_emod x (2 ^ m)
  have h4 : 2 ^ m * (x / 2 ^ m) = 2 ^ m * (2 * (x / 2 ^ m / 2) + x / 2 ^ m % 2) := by congr 1; omega
  rw [Int.mul_add, ← Int.mul_assoc, ← e, ← h1] at h4
  rw [Int.mul_comm (x / 2 ^ m % 2)]
  omega

/-- the nearest, as the program reckons it -/
theorem near_eq {x : Int} (hx : 0 ≤ x) (sg : Int) (m : Nat) :
    rsh .n sg x (m + 1) = if ((Builtin.bitAnd (x.fdiv (2 ^ m)) 1 != 0) && ((Builtin.bitAnd (x.fdiv (2 ^ m)) 2 != 0) || (Builtin.bitAnd x (1 * 2 ^ m - 1) != 0))) = true then (x.fdiv (2 ^ m)).fdiv 2 + 1 else (x.fdiv (2 ^ m)).fdiv 2 := by
  have hp := p2pos m
  obtain ⟨h1, h2⟩ := split_digit x m
  have e2 : (2 : Int) ^ (m + 1) = 2 * 2 ^ m := p2succ m
  have hm : 0 ≤ x % 2 ^ m := Int.emod_nonneg _ (by omega)
  have hm2 := Int.emod_lt_of_pos x hp
  unfold rsh goUp
  rw [h1, h2, e2, Int.one_mul, and_one, and_two, kbt_mask, fdiv_p2, Int.fdiv_eq_ediv_of_nonneg (x / 2 ^ m) (show (0 : Int) ≤ 2 by decide)]
  generalize x / 2 ^ m = t at *
  generalize x % 2 ^ m = l at *
  generalize (2 : Int) ^ m = p at *
  have ht : t % 2 = 0 ∨ t % 2 = 1 := by omega
  have ht2 : t / 2 % 2 = 0 ∨ t / 2 % 2 = 1 := by omega
  rcases ht with ht | ht <;> rcases ht2 with ht2 | ht2 <;> rw [ht, ht2] <;> by_cases hl : l = 0
  all_goals (try subst hl)
  all_goals simp
  all_goals (try omega)
  all_goals (by_cases hq : p < l + l <;> simp_all <;> try omega)

theorem ceil_eq (x : Int) (n : Nat) : -((-x).fdiv (2 ^ n)) = if x % 2 ^ n > 0 then x / 2 ^ n + 1 else x / 2 ^ n := by
  have hp := p2pos n
  rw [fdiv_p2]
  have h1 := Int.mul_ediv_add_emod x (2 ^ n)
  have h2 := Int.emod_nonneg x (show (2 : Int) ^ n ≠ 0 by omega)
  have h3 := Int.emod_lt_of_pos x hp
  have key : ∀ q r : Int, 0 ≤ r → r < 2 ^ n → r + 2 ^ n * q = -x → -x / 2 ^ n = q := fun q r a b e => (kbt_unique hp e a b).1
  split
  · rw [key (-(x / 2 ^ n) - 1) (2 ^ n - x % 2 ^ n) (by omega) (by omega) (by rw [Int.mul_sub, Int.mul_neg]; omega)]
    omega
  · rw [key (-(x / 2 ^ n)) 0 (by omega) (by omega) (by rw [Int.mul_neg]; omega)]
    omega
theorem sd_down {r : Rn} {sg : Int} (hr : r ≠ .n) (hs : sg = 0 ∨ sg = 1) (h : sdF r sg ≠ 0) (x : Int) (n : Nat) : rsh r sg x n = x.fdiv (2 ^ n) := by
  rw [fdiv_p2]
  unfold rsh goUp
  rcases hs with rfl | rfl <;> cases r <;> simp_all [sdF]
theorem sd_up {r : Rn} {sg : Int} (hr : r ≠ .n) (hs : sg = 0 ∨ sg = 1) (h : sdF r sg = 0) (x : Int) (n : Nat) : rsh r sg x n = -((-x).fdiv (2 ^ n)) := by
  rw [ceil_eq]
  unfold rsh goUp
  rcases hs with rfl | rfl <;> cases r <;> simp_all [sdF]

theorem rsh_bounds (r : Rn) (sg : Int) {x : Int} {p : Nat} (hx : 0 < x) (hp : 1 ≤ p) (h : p < nb x) : 2 ^ (p - 1) ≤ rsh r sg x (nb x - p) ∧ rsh r sg x (nb x - p) ≤ 2 ^ p := by
  have hn := nb_div hx (show nb x - p < nb x by omega)
  have e : nb x - (nb x - p) = p := by omega
  rw [e] at hn
  have hq : 0 < x / 2 ^ (nb x - p) := by
    rcases Int.lt_or_le 0 (x / 2 ^ (nb x - p)) with h' | h'
    · exact h'
    · have := (div_p2 (show 0 ≤ x by omega) (nb x - p)).2.2
      have hz : x / 2 ^ (nb x - p) = 0 := by omega
      rw [hz, nb_zero] at hn
      omega
  have h1 := nb_ge hq
  have h2 := nb_lt (x / 2 ^ (nb x - p)) (by omega)
  rw [hn] at h1 h2
  unfold rsh
  split <;> omega

/-- the last step: the zeros struck off -/
theorem strike_odd {sg w e b : Int} (hw : 0 < w) (hb : (nb w : Int) = b ∨ ∃ k : Nat, b = (k : Int) ∧ 1 ≤ k ∧ w = 2 ^ k) (ho : Builtin.bitAnd w 1 ≠ 0) : (sg, w, e, if w = 1 then 1 else b) = canon sg w e := by
  rw [and_one] at ho
  have hw2 : w = 2 ^ 0 * (2 * (w / 2) + 1) := by rw [Int.pow_zero]; omega
  have hc := canon_odd (sg := sg) (e := e) 0 (show 0 ≤ w / 2 by omega)
  rw [← hw2] at hc
  have ew : 2 * (w / 2) + 1 = w := by omega
  rw [hc, ew]
  have e0 : e + ((0 : Nat) : Int) = e := by omega
  rw [e0]
  rcases hb with hb | ⟨k, rfl, hk, hw3⟩
  · by_cases h1 : w = 1
    · subst h1; rfl
    · rw [if_neg h1, hb]
  · obtain ⟨d, rfl⟩ : ∃ d, k = d + 1 := ⟨k - 1, by omega⟩
    rw [p2succ] at hw3
    omega
theorem strike_even {sg w e b : Int} (hw : 0 < w) (hb : (nb w : Int) = b ∨ ∃ k : Nat, b = (k : Int) ∧ 1 ≤ k ∧ w = 2 ^ k) :
    (sg, w.fdiv (2 ^ (trailF w).toNat), e + trailF w, if w.fdiv (2 ^ (trailF w).toNat) = 1 then 1 else b - trailF w) = canon sg w e := by
  obtain ⟨j, a, ha, rfl⟩ := odd_part' hw
  rw [canon_odd _ ha, trail_odd j ha, Int.toNat_natCast, fdiv_p2, odd_div]
  congr 3
  by_cases h1 : 2 * a + 1 = 1
  · rw [if_pos h1, h1]; rfl
  · rw [if_neg h1]
    rcases hb with hb | ⟨k, rfl, hk, hw3⟩
    · rw [nb_mul_p2 (by omega)] at hb
      omega
    · exfalso
      have h2 := nb_mul_p2 (show 0 < 2 * a + 1 by omega) j
      have h3 : trailF (2 ^ k * (2 * 0 + 1)) = k := trail_odd k (by omega)
      have h4 : trailF (2 ^ j * (2 * a + 1)) = j := trail_odd j ha
      rw [hw3] at h4
      have e1 : (2 : Int) ^ k * (2 * 0 + 1) = 2 ^ k := by omega
      rw [e1] at h3
      have hjk : j = k := by omega
      subst hjk
      have hp := p2pos j
      have : 2 ^ j * (2 * a + 1) = 2 ^ j * 1 := by omega
      have := Int.eq_of_mul_eq_mul_left (by omega) this
      omega
theorem trail_nonneg {w : Int} (hw : 0 < w) : 0 ≤ trailF w := by
  obtain ⟨j, a, ha, rfl⟩ := odd_part' hw
  rw [trail_odd j ha]
  omega

/-- with the sign -/
def sgn (sg y : Int) : Int := if sg = 1 then -y else y
/-- the whole number that the rounding says, of a / 2 ^ n -/
def wholeUp (r : Rn) (a q s low : Int) : Bool := match r with
  | .n => decide (2 * s > low) || (decide (2 * s = low) && decide (q % 2 = 1))
  | .c => decide (s > 0)
  | .u => decide (a > 0) && decide (s > 0)
  | .d => decide (a < 0) && decide (s > 0)
  | .f => false
def whole (r : Rn) (a : Int) (n : Nat) : Int := if wholeUp r a (a / 2 ^ n) (a % 2 ^ n) (2 ^ n) = true then a / 2 ^ n + 1 else a / 2 ^ n

theorem neg_div (x : Int) (n : Nat) : (x % 2 ^ n = 0 ∧ -x / 2 ^ n = -(x / 2 ^ n) ∧ -x % 2 ^ n = 0) ∨ (0 < x % 2 ^ n ∧ -x / 2 ^ n = -(x / 2 ^ n) - 1 ∧ -x % 2 ^ n = 2 ^ n - x % 2 ^ n) := by
  have hp := p2pos n
  have h1 := Int.mul_ediv_add_emod x (2 ^ n)
  have h2 := Int.emod_nonneg x (show (2 : Int) ^ n ≠ 0 by omega)
  have h3 := Int.emod_lt_of_pos x hp
  by_cases h : x % 2 ^ n = 0
  · left
    obtain ⟨e1, e2⟩ := kbt_unique (a := -x) (q := -(x / 2 ^ n)) (r := 0) hp (by rw [Int.mul_neg]; omega) (by omega) (by omega)
    exact ⟨h, e1, e2⟩
  · right
    obtain ⟨e1, e2⟩ := kbt_unique (a := -x) (q := -(x / 2 ^ n) - 1) (r := 2 ^ n - x % 2 ^ n) hp (by rw [Int.mul_sub, Int.mul_neg]; omega) (by omega) (by omega)
    exact ⟨by omega, e1, e2⟩
theorem whole_sgn (r : Rn) {sg x : Int} (n : Nat) (hx : 0 ≤ x) (hs : sg = 0 ∨ sg = 1) : whole r (sgn sg x) n = sgn sg (rsh r sg x n) := by
  have hp := p2pos n
  have h2 := Int.emod_nonneg x (show (2 : Int) ^ n ≠ 0 by omega)
  have h3 := Int.emod_lt_of_pos x hp
  have h0 : x = 0 → x % 2 ^ n = 0 := by
    intro h
    subst h
    simp
  have hx0 : 0 < x % 2 ^ n → 0 < x := by
    intro h
    by_cases hx0 : x = 0
    · have := h0 hx0; omega
    · omega
  rcases hs with rfl | rfl
  · unfold sgn whole rsh wholeUp goUp
    simp only [show ¬ (0 : Int) = 1 from by decide, if_false]
    generalize x / 2 ^ n = q at *
    generalize x % 2 ^ n = s at *
    generalize (2 : Int) ^ n = p at *
    cases r <;> simp only [decide_eq_true_eq, Bool.and_eq_true, Bool.or_eq_true, Bool.false_eq_true, if_false, decide_true, decide_false, Bool.true_and, Bool.false_and, show ¬ (0 : Int) = 1 from by decide] <;> (repeat' split) <;> first | rfl | omega
  · unfold sgn whole rsh wholeUp goUp
    simp only [if_true]
    rcases neg_div x n with ⟨a, b, d⟩ | ⟨a, b, d⟩
    · rw [b, d]
      generalize x / 2 ^ n = q at *
      generalize x % 2 ^ n = s at *
      generalize (2 : Int) ^ n = p at *
      cases r <;> simp only [decide_eq_true_eq, Bool.and_eq_true, Bool.or_eq_true, Bool.false_eq_true, if_false, decide_true, decide_false, Bool.true_and, Bool.false_and, show ¬ (1 : Int) = 0 from by decide] <;> (repeat' split) <;> first | rfl | omega
    · rw [b, d]
      have hx1 := hx0 a
      generalize x / 2 ^ n = q at *
      generalize x % 2 ^ n = s at *
      generalize (2 : Int) ^ n = p at *
      cases r <;> simp only [decide_eq_true_eq, Bool.and_eq_true, Bool.or_eq_true, Bool.false_eq_true, if_false, decide_true, decide_false, Bool.true_and, Bool.false_and, show ¬ (1 : Int) = 0 from by decide] <;> (repeat' split) <;> first | rfl | omega

theorem whole_neg_n (x : Int) (n : Nat) : whole .n (-x) n = -whole .n x n := by
  have hp := p2pos n
  have h2 := Int.emod_nonneg x (show (2 : Int) ^ n ≠ 0 by omega)
  have h3 := Int.emod_lt_of_pos x hp
  unfold whole wholeUp
  rcases neg_div x n with ⟨a, b, d⟩ | ⟨a, b, d⟩
  all_goals
    rw [b, d]
    generalize x / 2 ^ n = q at *
    generalize x % 2 ^ n = s at *
    generalize (2 : Int) ^ n = p at *
    simp only [decide_eq_true_eq, Bool.and_eq_true, Bool.or_eq_true]
    (repeat' split) <;> omega
theorem whole_f (x : Int) (n : Nat) : whole .f x n = x.fdiv (2 ^ n) := by
  rw [fdiv_p2]
  simp [whole, wholeUp]
theorem whole_c (x : Int) (n : Nat) : whole .c x n = -((-x).fdiv (2 ^ n)) := by
  rw [ceil_eq]
  simp [whole, wholeUp]
theorem whole_d_pos {x : Int} (h : 0 ≤ x) (n : Nat) : whole .d x n = x.fdiv (2 ^ n) := by
  rw [fdiv_p2]
  have : ¬ x < 0 := by omega
  simp [whole, wholeUp, this]
theorem whole_d_neg {x : Int} (h : x < 0) (n : Nat) : whole .d x n = -((-x).fdiv (2 ^ n)) := by
  rw [ceil_eq]
  simp [whole, wholeUp, h]
theorem whole_u_pos {x : Int} (h : 0 ≤ x) (n : Nat) : whole .u x n = -((-x).fdiv (2 ^ n)) := by
  rw [ceil_eq]
  by_cases h0 : x = 0
  · subst h0; simp [whole, wholeUp]
  · have : 0 < x := by omega
    simp [whole, wholeUp, this]
theorem whole_u_neg {x : Int} (h : x < 0) (n : Nat) : whole .u x n = x.fdiv (2 ^ n) := by
  rw [fdiv_p2]
  have : ¬ 0 < x := by omega
  simp [whole, wholeUp, this]
theorem whole_n_pos {x : Int} (h : 0 ≤ x) (n : Nat) : whole .n x n = rsh .n 0 x n := by
  have := whole_sgn .n (sg := 0) n h (.inl rfl)
  simpa [sgn] using this
theorem whole_zero (r : Rn) (x : Int) : whole r x 0 = x := by
  have h1 : x / 1 = x := by omega
  have h2 : x % 1 = 0 := by omega
  unfold whole wholeUp
  rw [Int.pow_zero, h1, h2]
  cases r <;> simp

/-- shifts do not turn a rounding -/
theorem goUp_scale (r : Rn) (sg q s low : Int) {m : Int} (hm : 0 < m) : goUp r sg q (s * m) (low * m) = goUp r sg q s low := by
  have a1 : ∀ u v : Int, u * m < v * m ↔ u < v := fun u v => Int.mul_lt_mul_right hm
  have a2 : ∀ u v : Int, u * m = v * m ↔ u = v := fun u v => ⟨Int.eq_of_mul_eq_mul_right (by omega), fun h => by rw [h]⟩
  have a3 : (s * m > 0) ↔ s > 0 := by
    have := a1 0 s
    rw [Int.zero_mul] at this
    exact this
  have a4 : (2 * (s * m) > low * m) ↔ 2 * s > low := by
    rw [← Int.mul_assoc]
    exact a1 low (2 * s)
  have a5 : (2 * (s * m) = low * m) ↔ 2 * s = low := by
    rw [← Int.mul_assoc]
    exact a2 (2 * s) low
  unfold goUp
  cases r <;> simp only [a3, a4, a5]
theorem div_scale (w : Int) (t j : Nat) : w * 2 ^ j / 2 ^ (t + j) = w / 2 ^ t ∧ w * 2 ^ j % 2 ^ (t + j) = (w % 2 ^ t) * 2 ^ j := by
  have hp := p2pos j
  rw [p2add]
  refine ⟨Int.mul_ediv_mul_of_pos_left w _ hp, ?_⟩
  rw [Int.mul_comm w, Int.mul_comm (2 ^ t), Int.mul_emod_mul_of_pos _ _ hp, Int.mul_comm]
theorem rsh_scale (r : Rn) (sg w : Int) (t j : Nat) : rsh r sg (w * 2 ^ j) (t + j) = rsh r sg w t := by
  unfold rsh
  obtain ⟨h1, h2⟩ := div_scale w t j
  rw [h1, h2, p2add, goUp_scale _ _ _ _ _ (p2pos j)]
theorem rsh_exact (r : Rn) (sg w : Int) (t : Nat) : rsh r sg (w * 2 ^ t) t = w := by
  have hp := p2pos t
  have h1 : w * 2 ^ t / 2 ^ t = w := Int.mul_ediv_cancel _ (by omega)
  have h2 : w * 2 ^ t % 2 ^ t = 0 := Int.mul_emod_left _ _
  unfold rsh goUp
  rw [h1, h2]
  have h3 : ¬ (2 : Int) ^ t < 0 := by omega
  have h4 : ¬ 0 = (2 : Int) ^ t := by omega
  cases r <;> simp [h3, h4]
theorem norm_shift (r : Rn) {sg w e p : Int} (hw : 0 ≤ w) (j : Nat) : norm sg (w * 2 ^ j) e p r = norm sg w (e + j) p r := by
  have hp := p2pos j
  by_cases h0 : w = 0
  · subst h0; simp [norm]
  · have hw1 : 0 < w := by omega
    have hn : nb (w * 2 ^ j) = j + nb w := by rw [Int.mul_comm, nb_mul_p2 hw1]
    have hne : ¬ w * 2 ^ j = 0 := by
      have := Int.mul_pos hw1 hp
      omega
    unfold norm
    rw [if_neg hne, if_neg h0, hn]
    by_cases c1 : ((j + nb w : Nat) : Int) ≤ p
    · rw [if_pos c1, if_pos (by omega), canon_shift hw]
    · rw [if_neg c1]
      by_cases c2 : (nb w : Int) ≤ p
      · rw [if_pos c2]
        obtain ⟨t, ht⟩ : ∃ t : Nat, ((j + nb w : Nat) : Int) - p = (t : Int) := ⟨(((j + nb w : Nat) : Int) - p).toNat, by omega⟩
        obtain ⟨i, rfl⟩ : ∃ i : Nat, j = i + t := ⟨j - t, by omega⟩
        rw [ht, Int.toNat_natCast, p2add, ← Int.mul_assoc, rsh_exact, canon_shift hw]
        congr 1
        omega
      · rw [if_neg c2]
        obtain ⟨t, ht⟩ : ∃ t : Nat, (nb w : Int) - p = (t : Int) := ⟨((nb w : Int) - p).toNat, by omega⟩
        have ht2 : ((j + nb w : Nat) : Int) - p = ((t + j : Nat) : Int) := by omega
        rw [ht, ht2, Int.toNat_natCast, Int.toNat_natCast, rsh_scale]
        congr 1
        omega
theorem canon_self {sg m e : Int} (h : (m % 2 = 1 ∧ 0 < m) ∨ (sg = 0 ∧ m = 0 ∧ e = 0)) : canon sg m e = (sg, m, e, (nb m : Int)) := by
  rcases h with ⟨h, h0⟩ | ⟨rfl, rfl, rfl⟩
  · have e1 : m = 2 ^ 0 * (2 * (m / 2) + 1) := by rw [Int.pow_zero]; omega
    have h1 := canon_odd (sg := sg) (e := e) 0 (show 0 ≤ m / 2 by omega)
    rw [← e1] at h1
    have e2 : 2 * (m / 2) + 1 = m := by omega
    rw [h1, e2]
    simp
  · rfl
theorem norm_few (r : Rn) {sg w e p : Int} (h : (nb w : Int) ≤ p) : norm sg w e p r = canon sg w e := by
  unfold norm
  by_cases h0 : w = 0
  · subst h0; simp [canon]
  · rw [if_neg h0, if_pos h]
theorem rsh_nonneg (r : Rn) (sg : Int) {x : Int} (hx : 0 ≤ x) (n : Nat) : 0 ≤ rsh r sg x n := by
  have := (div_p2 hx n).2.2
  unfold rsh
  split <;> omega
theorem rsh_le (r : Rn) (sg : Int) {x : Int} (hx : 0 ≤ x) (n : Nat) : rsh r sg x n ≤ x + 1 := by
  have hp := p2pos n
  have : x / 2 ^ n ≤ x := Int.ediv_le_self _ hx
  unfold rsh
  split <;> omega

/-- a number that the law builds -/
structure Wf (sg mn ex : Int) : Prop where
  sg01 : sg = 0 ∨ sg = 1
  kind : (mn % 2 = 1 ∧ 0 < mn) ∨ (sg = 0 ∧ mn = 0 ∧ ex = 0)
  size : nb mn ≤ 70
  lo : -100 ≤ ex
  hi : ex ≤ 100
/-- its numerator, over 2 ^ (-ex).toNat -/
def abv (sg mn ex : Int) : Int := sgn sg mn * 2 ^ ex.toNat

theorem Wf.nonneg {sg mn ex : Int} (h : Wf sg mn ex) : 0 ≤ mn := by rcases h.kind with ⟨_, h⟩ | ⟨_, h, _⟩ <;> omega
theorem Wf.zero {sg mn ex : Int} (h : Wf sg mn ex) (h0 : mn = 0) : ex = 0 ∧ sg = 0 := by rcases h.kind with ⟨_, h⟩ | ⟨h1, h2, h3⟩ <;> omega
theorem abv_nonneg_exp {sg mn ex : Int} (h : ex < 0) : abv sg mn ex = sgn sg mn := by
  have : ex.toNat = 0 := by omega
  unfold abv
  rw [this, Int.pow_zero, Int.mul_one]
theorem sgn0 (y : Int) : sgn 0 y = y := rfl
theorem sgn1 (y : Int) : sgn 1 y = -y := rfl
theorem nb_le_of_lt {x : Int} {n : Nat} (h0 : 0 ≤ x) (h : x < 2 ^ n) : nb x ≤ n := (nb_le_iff h0).mpr h
theorem nb_sgn (sg x : Int) : nb (sgn sg x) = nb x := by
  unfold sgn
  split
  · exact nb_neg x
  · rfl
theorem rsh_d (sg x : Int) (n : Nat) : rsh .d sg x n = x / 2 ^ n := by simp [rsh, goUp]

/-- the whole part's size, as mpf_round_int makes it -/
def mgn (r : Rn) (sg mn ex : Int) : Int := if 0 ≤ ex then mn * 2 ^ ex.toNat else rsh r sg mn (-ex).toNat
theorem mgn_up {r : Rn} {sg mn ex : Int} (h : 0 ≤ ex) (hk : (mn % 2 = 1 ∧ 0 < mn) ∨ (sg = 0 ∧ mn = 0 ∧ ex = 0)) : canon sg (mgn r sg mn ex) 0 = (sg, mn, ex, (nb mn : Int)) := by
  unfold mgn
  rw [if_pos h, canon_shift (by rcases hk with ⟨_, h⟩ | ⟨_, h, _⟩ <;> omega), ← canon_self hk]
  congr 1
  omega
theorem rsh_small {r : Rn} {sg mn : Int} {k : Nat} (h0 : 0 ≤ mn) (h : mn < 2 ^ k) : rsh r sg mn k = if goUp r sg 0 mn (2 ^ k) = true then 1 else 0 := by
  have h1 : mn / 2 ^ k = 0 := Int.ediv_eq_zero_of_lt h0 h
  have h2 : mn % 2 ^ k = mn := Int.emod_eq_of_lt h0 h
  unfold rsh
  rw [h1, h2]
  rfl
theorem canon_zero (sg e : Int) : canon sg 0 e = (0, 0, 0, 0) := rfl
theorem canon_one (sg : Int) : canon sg 1 0 = (sg, 1, 0, 1) := canon_self (.inl ⟨rfl, by decide⟩)
theorem half_not {mn : Int} {k : Nat} (h0 : 0 < mn) (h : nb mn < k ∨ mn = 1 ∧ 1 ≤ k) : ¬ 2 * mn > 2 ^ k := by
  obtain ⟨j, rfl⟩ : ∃ j, k = j + 1 := ⟨k - 1, by rcases h with h | h <;> omega⟩
  rw [p2succ]
  rcases h with h | ⟨rfl, h⟩
  · have := (nb_le_iff (show 0 ≤ mn by omega)).mp (show nb mn ≤ j by omega)
    omega
  · have := p2le (show 0 ≤ j by omega)
    rw [Int.pow_zero] at this
    omega
theorem half_yes {mn : Int} {k : Nat} (ho : mn % 2 = 1) (h1 : mn ≠ 1) (h0 : 0 < mn) (h : nb mn = k) : 2 * mn > 2 ^ k := by
  obtain ⟨j, hj⟩ : ∃ j, nb mn = j + 1 := ⟨nb mn - 1, by have := nb_pos h0; omega⟩
  have h2 := nb_ge h0
  rw [hj] at h2
  have e : j + 1 - 1 = j := by omega
  rw [e] at h2
  rw [← h, hj, p2succ]
  by_cases he : mn = 2 ^ j
  · exfalso
    cases j with
    | zero => rw [Int.pow_zero] at he; exact h1 he
    | succ i => rw [p2succ] at he; omega
  · omega

theorem canon_form (sg e : Int) {y : Int} (hy : 0 ≤ y) (hs : sg = 0 ∨ sg = 1) : ∃ s' m' e' : Int, canon sg y e = (s', m', e', (nb m' : Int)) ∧ 0 ≤ m' ∧ (s' = 0 ∨ s' = 1) ∧ (m' = 0 → e' = 0) ∧ nb m' ≤ nb y ∧ ∀ p r, norm s' m' e' p r = norm sg y e p r := by
  by_cases h0 : y = 0
  · subst h0
    exact ⟨0, 0, 0, rfl, by omega, .inl rfl, fun _ => rfl, Nat.le_refl _, fun p r => by simp [norm]⟩
  · obtain ⟨j, a, ha, rfl⟩ := odd_part' (show 0 < y by omega)
    refine ⟨sg, 2 * a + 1, e + j, canon_odd j ha, by omega, hs, fun h => by omega, by rw [nb_mul_p2 (by omega)]; omega, fun p r => ?_⟩
    rw [Int.mul_comm (2 ^ j), norm_shift _ (by omega)]
theorem mgn_nonneg (r : Rn) {sg mn ex : Int} (W : Wf sg mn ex) : 0 ≤ mgn r sg mn ex := by
  have := W.nonneg
  unfold mgn
  split
  · exact Int.mul_nonneg this (by have := p2pos ex.toNat; omega)
  · exact rsh_nonneg r sg this _
theorem mgn_nb (r : Rn) {sg mn ex : Int} (W : Wf sg mn ex) : nb (mgn r sg mn ex) ≤ 200 := by
  have h0 := W.nonneg
  have h1 := W.size
  have h2 := W.hi
  unfold mgn
  split
  · by_cases hm : mn = 0
    · rw [hm, Int.zero_mul, nb_zero]; omega
    · rw [Int.mul_comm, nb_mul_p2 (by omega)]; omega
  · have h3 := rsh_le r sg h0 (-ex).toNat
    have h4 := rsh_nonneg r sg h0 (-ex).toNat
    have h5 := nb_lt mn h0
    have h6 := p2le (show nb mn ≤ 199 by omega)
    refine (nb_le_iff h4).mpr ?_
    have h7 := p2succ 199
    have h8 := p2pos 199
    omega
/-- what lies above the floor -/
theorem frac_eq {sg mn : Int} (k : Nat) (h : 0 ≤ mn) (hs : sg = 0 ∨ sg = 1) : sgn sg mn % 2 ^ k = sgn sg mn - 2 ^ k * sgn sg (rsh .f sg mn k) := by
  have h1 := whole_sgn .f k h hs
  rw [whole_f, fdiv_p2] at h1
  have h2 := Int.mul_ediv_add_emod (sgn sg mn) (2 ^ k)
  rw [h1] at h2
  omega

/-- the sign of a number, as the law writes it -/
def sgOf (x : Int) : Int := if x < 0 then 1 else 0
def absOf (x : Int) : Int := if x < 0 then -x else x
theorem sgOf01 (x : Int) : sgOf x = 0 ∨ sgOf x = 1 := by unfold sgOf; split <;> simp
theorem absOf_nonneg (x : Int) : 0 ≤ absOf x := by unfold absOf; split <;> omega
theorem nb_absOf (x : Int) : nb (absOf x) = nb x := by
  unfold absOf
  split
  · exact nb_neg x
  · rfl
theorem fmod_scale (x y : Int) {m : Int} (hm : 0 < m) : (x * m).fmod (y * m) = x.fmod y * m := by
  by_cases hy : y = 0
  · subst hy; simp
  · have h1 := Int.mul_fdiv_add_fmod x y
    have h0 : x.fdiv y = (x * m).fdiv (y * m) := (Int.mul_fdiv_mul_of_pos_left x y hm).symm
    have h2 := Int.mul_fdiv_add_fmod (x * m) (y * m)
    rw [← h0] at h2
    have h3 : y * m * x.fdiv y = (y * x.fdiv y) * m := by rw [Int.mul_assoc, Int.mul_comm m, ← Int.mul_assoc]
    have h4 : (y * x.fdiv y + x.fmod y) * m = x * m := by rw [h1]
    rw [Int.add_mul] at h4
    omega
theorem sgOf_mul (x : Int) {m : Int} (hm : 0 < m) : sgOf (x * m) = sgOf x ∧ absOf (x * m) = absOf x * m := by
  unfold sgOf absOf
  by_cases h : x < 0
  · have h1 : x * m < 0 := Int.mul_neg_of_neg_of_pos h hm
    rw [if_pos h, if_pos h1, if_pos h, if_pos h1, Int.neg_mul]
    exact ⟨rfl, rfl⟩
  · have h1 : ¬ x * m < 0 := by
      have := Int.mul_nonneg (show 0 ≤ x by omega) (show 0 ≤ m by omega)
      omega
    rw [if_neg h, if_neg h1, if_neg h, if_neg h1]
    exact ⟨rfl, rfl⟩

/-- the first while of _law_rounded: what stands at the exponent e -/
def lowAt (k : Nat) (e : Int) : Int := if e > 0 then 2 ^ k * 2 ^ e.toNat else 2 ^ k
def numAt (x e : Int) : Int := if e < 0 then x * 2 ^ (-e).toNat else x
theorem lowAt_pos (k : Nat) (e : Int) : 0 < lowAt k e := by
  unfold lowAt
  split
  · exact Int.mul_pos (p2pos _) (p2pos _)
  · exact p2pos _
theorem lowAt_nb (k : Nat) (e : Int) : nb (lowAt k e) ≤ k + e.toNat + 1 := by
  unfold lowAt
  split
  · rw [← p2add, nb_p2]; omega
  · rw [nb_p2]; omega
/-- with digits struck off -/
theorem at_down {x e : Int} {k t : Nat} (h : e + k = t) : ∃ j : Nat, numAt x e / lowAt k e = x / 2 ^ t ∧ numAt x e % lowAt k e = (x % 2 ^ t) * 2 ^ j ∧ lowAt k e = 2 ^ t * 2 ^ j := by
  by_cases h0 : e < 0
  · refine ⟨(-e).toNat, ?_⟩
    have hl : lowAt k e = 2 ^ (t + (-e).toNat) := by
      unfold lowAt
      rw [if_neg (by omega)]
      congr 1
      omega
    have hn : numAt x e = x * 2 ^ (-e).toNat := by
      unfold numAt
      rw [if_pos h0]
    obtain ⟨a, b⟩ := div_scale x t (-e).toNat
    rw [hl, hn, a, b, p2add]
    exact ⟨rfl, rfl, rfl⟩
  · refine ⟨0, ?_⟩
    have hl : lowAt k e = 2 ^ t := by
      unfold lowAt
      split
      · rw [← p2add]
        congr 1
        omega
      · congr 1
        omega
    have hn : numAt x e = x := by
      unfold numAt
      rw [if_neg h0]
    rw [hl, hn, Int.pow_zero, Int.mul_one, Int.mul_one]
    exact ⟨rfl, rfl, rfl⟩
/-- with noughts put on -/
theorem at_up {x e : Int} {k t : Nat} (h : e + k = -(t : Int)) : numAt x e / lowAt k e = x * 2 ^ t ∧ numAt x e % lowAt k e = 0 := by
  have h0 : e < 0 ∨ (e = 0 ∧ k = 0 ∧ t = 0) := by omega
  have hk := p2pos k
  rcases h0 with h0 | ⟨rfl, rfl, rfl⟩
  · have hl : lowAt k e = 2 ^ k := by
      unfold lowAt
      rw [if_neg (by omega)]
    have hn : numAt x e = x * 2 ^ t * 2 ^ k := by
      unfold numAt
      rw [if_pos h0, Int.mul_assoc, ← p2add]
      congr 2
      omega
    rw [hl, hn]
    exact ⟨Int.mul_ediv_cancel _ (by omega), Int.mul_emod_left _ _⟩
  · simp [numAt, lowAt]
/-- after the second turn -/
theorem at_end (r : Rn) (sg : Int) {x : Int} {k p : Nat} (hx : 0 < x) (hp : 1 ≤ p) :
    (let e : Int := (nb x : Int) - p - k
     let w := numAt x e / lowAt k e
     let s := numAt x e % lowAt k e
     w < 2 ^ p ∧ 0 < (if goUp r sg w s (lowAt k e) = true then w + 1 else w) ∧ (if goUp r sg w s (lowAt k e) = true then w + 1 else w) ≤ 2 ^ p ∧ canon sg (if goUp r sg w s (lowAt k e) = true then w + 1 else w) e = norm sg x (-(k : Int)) p r) := by
  intro e w s
  by_cases h : (nb x : Int) ≤ p
  · obtain ⟨t, ht⟩ : ∃ t : Nat, (p : Int) - nb x = (t : Int) := ⟨((p : Int) - nb x).toNat, by omega⟩
    obtain ⟨h1, h2⟩ := at_up (x := x) (e := e) (k := k) (t := t) (by omega)
    have hw : w = x * 2 ^ t := h1
    have hs : s = 0 := h2
    have hng : ¬ goUp r sg w s (lowAt k e) = true := by
      have hl := lowAt_pos k e
      rw [hs]
      have h3 : ¬ lowAt k e < 0 := by omega
      have h4 : ¬ 0 = lowAt k e := by omega
      unfold goUp
      cases r <;> simp [h3, h4]
    rw [if_neg hng, hw]
    have hnb : nb (x * 2 ^ t) = p := by
      rw [Int.mul_comm, nb_mul_p2 hx]
      omega
    have hpos := Int.mul_pos hx (p2pos t)
    have hlt := nb_lt (x * 2 ^ t) (by omega)
    rw [hnb] at hlt
    refine ⟨hlt, hpos, by omega, ?_⟩
    rw [canon_shift (by omega), norm_few r h]
    congr 1
    omega
  · obtain ⟨t, ht⟩ : ∃ t : Nat, (nb x : Int) - p = (t : Int) := ⟨((nb x : Int) - p).toNat, by omega⟩
    obtain ⟨j, h1, h2, h3⟩ := at_down (x := x) (e := e) (k := k) (t := t) (by omega)
    have hw : w = x / 2 ^ t := h1
    have hs : s = x % 2 ^ t * 2 ^ j := h2
    have hr : (if goUp r sg w s (lowAt k e) = true then w + 1 else w) = rsh r sg x t := by
      rw [hw, hs, h3, goUp_scale _ _ _ _ _ (p2pos j)]
      rfl
    have htt : t = nb x - p := by omega
    rw [hr]
    obtain ⟨b1, b2⟩ := rsh_bounds r sg hx hp (show p < nb x by omega)
    rw [← htt] at b1 b2
    have hq := p2pos (p - 1)
    refine ⟨?_, by omega, b2, ?_⟩
    · rw [hw]
      have := nb_div hx (show t < nb x by omega)
      have h4 := (div_p2 (show 0 ≤ x by omega) t).2.2
      refine (nb_le_iff h4).mp ?_
      omega
    · unfold norm
      rw [if_neg (by omega), if_neg h, ht, Int.toNat_natCast]
      congr 1
      omega
/-- after the first turn -/
theorem at_mid {x : Int} {k p : Nat} (hx : 0 < x) : 2 ^ p ≤ numAt x ((nb x : Int) - p - k - 1) / lowAt k ((nb x : Int) - p - k - 1) := by
  by_cases h : (nb x : Int) ≤ p + 1
  · obtain ⟨t, ht⟩ : ∃ t : Nat, (p : Int) + 1 - nb x = (t : Int) := ⟨((p : Int) + 1 - nb x).toNat, by omega⟩
    rw [(at_up (x := x) (e := (nb x : Int) - p - k - 1) (k := k) (t := t) (by omega)).1]
    have hpos := Int.mul_pos hx (p2pos t)
    refine (lt_nb_iff (by omega)).mp ?_
    rw [Int.mul_comm, nb_mul_p2 hx]
    omega
  · obtain ⟨t, ht⟩ : ∃ t : Nat, (nb x : Int) - p - 1 = (t : Int) := ⟨((nb x : Int) - p - 1).toNat, by omega⟩
    obtain ⟨j, h1, _, _⟩ := at_down (x := x) (e := (nb x : Int) - p - k - 1) (k := k) (t := t) (by omega)
    rw [h1]
    have h4 := (div_p2 (show 0 ≤ x by omega) t).2.2
    refine (lt_nb_iff h4).mp ?_
    rw [nb_div hx (by omega)]
    omega

/-- mpf_mod -/
def bse (ex te : Int) : Int := if te < ex then te else ex
def mdv (sg mn ex tg tm te : Int) : Int := (sgn sg mn * 2 ^ (ex - bse ex te).toNat).fmod (sgn tg tm * 2 ^ (te - bse ex te).toNat)
theorem sgOf_sgn {sg mn ex : Int} (W : Wf sg mn ex) : sgOf (sgn sg mn) = sg ∧ absOf (sgn sg mn) = mn := by
  have h0 := W.nonneg
  have hz := W.zero
  unfold sgOf absOf sgn
  rcases W.sg01 with rfl | rfl
  · have h1 : ¬ mn < 0 := by omega
    simp [h1]
  · have h2 : 0 < mn := by
      by_cases h : mn = 0
      · have := (hz h).2; omega
      · omega
    simp
    omega
theorem mod_self {sg mn ex tg tm te prec : Int} (r : Rn) (W : Wf sg mn ex) (V : Wf tg tm te) (ht : 0 < tm) (hp : 70 ≤ prec) (h : sg = tg) (hlt : te > ex + (nb mn : Int)) :
    norm (sgOf (mdv sg mn ex tg tm te)) (absOf (mdv sg mn ex tg tm te)) (bse ex te) prec r = (sg, mn, ex, (nb mn : Int)) := by
  have h0 := W.nonneg
  have hb : bse ex te = ex := if_neg (by omega)
  obtain ⟨j, hj⟩ : ∃ j : Nat, te - ex = (j : Int) := ⟨(te - ex).toNat, by omega⟩
  have hjj : (te - ex).toNat = j := by omega
  have hm : mdv sg mn ex tg tm te = sgn sg mn := by
    unfold mdv
    have e0 : (ex - ex).toNat = 0 := by omega
    rw [hb, hjj, e0, Int.pow_zero, Int.mul_one, ← h]
    have h1 := nb_lt mn h0
    have h2 := p2le (show nb mn ≤ j by omega)
    have h3 : 2 ^ j * 1 ≤ 2 ^ j * tm := Int.mul_le_mul_of_nonneg_left (by omega) (by have := p2pos j; omega)
    rw [Int.mul_comm (2 ^ j) tm] at h3
    have h4 : mn.fmod (tm * 2 ^ j) = mn := Int.fmod_eq_of_lt h0 (by omega)
    rcases W.sg01 with rfl | rfl
    · exact h4
    · rw [sgn1, sgn1, Int.neg_mul, Int.neg_fmod_neg, h4]
  rw [hm, hb, (sgOf_sgn W).1, (sgOf_sgn W).2, norm_few r (by have := W.size; omega), canon_self W.kind]
theorem mod_unit {sg mn ex tg te prec : Int} (r : Rn) (hs : tg = 0 ∨ tg = 1) (hlt : ex > te + 1) :
    norm (sgOf (mdv sg mn ex tg 1 te)) (absOf (mdv sg mn ex tg 1 te)) (bse ex te) prec r = (0, 0, 0, 0) := by
  have hb : bse ex te = te := if_pos (by omega)
  have hm : mdv sg mn ex tg 1 te = 0 := by
    unfold mdv
    have e0 : (te - te).toNat = 0 := by omega
    rw [hb, e0, Int.pow_zero, Int.mul_one]
    rcases hs with rfl | rfl
    · exact Int.fmod_one _
    · rw [sgn1]
      have := Int.neg_fmod_neg (-(sgn sg mn * 2 ^ (ex - te).toNat)) 1
      rw [Int.neg_neg] at this
      rw [this, Int.fmod_one]
      rfl
  rw [hm]
  rfl
theorem mdv_nb {sg mn ex tg tm te : Int} (W : Wf sg mn ex) (V : Wf tg tm te) : nb (sgn sg mn * 2 ^ (ex - bse ex te).toNat) ≤ 300 ∧ nb (sgn tg tm * 2 ^ (te - bse ex te).toNat) ≤ 300 ∧ nb (mdv sg mn ex tg tm te) ≤ 300 := by
  have a1 := nb_sgn sg mn
  have a2 := nb_sgn tg tm
  have b1 := W.size
  have b2 := V.size
  have c1 := W.lo
  have c2 := W.hi
  have c3 := V.lo
  have c4 := V.hi
  have d : bse ex te = ex ∨ bse ex te = te := by unfold bse; split <;> simp
  have d1 : bse ex te ≤ ex ∧ bse ex te ≤ te := by unfold bse; split <;> omega
  have e1 : nb (2 ^ (ex - bse ex te).toNat) ≤ 201 := by rw [nb_p2]; omega
  have e2 : nb (2 ^ (te - bse ex te).toNat) ≤ 201 := by rw [nb_p2]; omega
  have f1 := PySem.intBits_mul_le (x := sgn sg mn) (m := 70) (by unfold nb at a1 b1; omega) e1
  have f2 := PySem.intBits_mul_le (x := sgn tg tm) (m := 70) (by unfold nb at a2 b2; omega) e2
  have f3 := PySem.intBits_fmod_le f1 f2
  unfold mdv nb
  refine ⟨by omega, by omega, by omega⟩
/-- the law's road to it -/
theorem mod_law {sg mn ex tg tm te : Int} (r : Rn) (prec : Int) :
    norm (sgOf ((abv sg mn ex * 2 ^ (-te).toNat).fmod (abv tg tm te * 2 ^ (-ex).toNat))) (absOf ((abv sg mn ex * 2 ^ (-te).toNat).fmod (abv tg tm te * 2 ^ (-ex).toNat))) (-(((-ex).toNat + (-te).toNat : Nat) : Int)) prec r =
      norm (sgOf (mdv sg mn ex tg tm te)) (absOf (mdv sg mn ex tg tm te)) (bse ex te) prec r := by
  have d : bse ex te ≤ ex ∧ bse ex te ≤ te ∧ (bse ex te = ex ∨ bse ex te = te) := by unfold bse; split <;> omega
  obtain ⟨j, hj⟩ : ∃ j : Nat, bse ex te + ((-ex).toNat + (-te).toNat : Nat) = (j : Int) := ⟨(bse ex te + ((-ex).toNat + (-te).toNat : Nat)).toNat, by omega⟩
  have e1 : abv sg mn ex * 2 ^ (-te).toNat = sgn sg mn * 2 ^ (ex - bse ex te).toNat * 2 ^ j := by
    unfold abv
    rw [Int.mul_assoc, Int.mul_assoc, ← p2add, ← p2add]
    congr 2
    omega
  have e2 : abv tg tm te * 2 ^ (-ex).toNat = sgn tg tm * 2 ^ (te - bse ex te).toNat * 2 ^ j := by
    unfold abv
    rw [Int.mul_assoc, Int.mul_assoc, ← p2add, ← p2add]
    congr 2
    omega
  have e3 : (abv sg mn ex * 2 ^ (-te).toNat).fmod (abv tg tm te * 2 ^ (-ex).toNat) = mdv sg mn ex tg tm te * 2 ^ j := by
    rw [e1, e2, fmod_scale _ _ (p2pos j)]
    rfl
  obtain ⟨s1, s2⟩ := sgOf_mul (mdv sg mn ex tg tm te) (p2pos j)
  rw [e3, s1, s2, norm_shift _ (absOf_nonneg _)]
  congr 1
  omega

/-- _law_raw's number -/
def rawKind (rich : Int) : Int := (rich.fdiv 2).fmod 8
def rawE (rich : Int) : Int := (rich.fdiv 16).fmod (2 * 90 + 1) - 90
def rawM (rich : Int) : Int := rich.fdiv (2 ^ (16 : Int).toNat)
def rawMan (rich bits : Int) : Int :=
  if rawKind rich = 1 then 1
  else if rawKind rich = 2 then 2 ^ (1 + (rawM rich).fmod bits).toNat - 1
  else if rawKind rich = 3 then 2 ^ (1 + (rawM rich).fmod (bits - 1)).toNat + 1
  else ((rawM rich).fmod (2 ^ (1 + (rawM rich).fmod bits).toNat)).fdiv 2 * 2 + 1
theorem fmod_range (x : Int) {m : Int} (h : 0 < m) : 0 ≤ x.fmod m ∧ x.fmod m < m := by
  rw [Int.fmod_eq_emod_of_nonneg _ (by omega)]
  exact ⟨Int.emod_nonneg _ (by omega), Int.emod_lt_of_pos _ h⟩
theorem rawMan_wf (rich : Int) {bits : Int} (hb : bits = 70 ∨ bits = 40) : Wf (rich.fmod 2) (rawMan rich bits) (rawE rich) := by
  have h2 := fmod_range rich (m := 2) (by decide)
  have he := fmod_range (rich.fdiv 16) (m := 2 * 90 + 1) (by decide)
  have hj := fmod_range (rawM rich) (m := bits) (by omega)
  have hj1 := fmod_range (rawM rich) (m := bits - 1) (by omega)
  have hman : rawMan rich bits % 2 = 1 ∧ 0 < rawMan rich bits ∧ rawMan rich bits < 2 ^ 70 := by
    unfold rawMan
    have hp70 : ∀ j : Nat, j ≤ 70 → (2 : Int) ^ j ≤ 2 ^ 70 := fun j h => p2le h
    split
    · decide
    · split
      · obtain ⟨d, hd⟩ : ∃ d, (1 + (rawM rich).fmod bits).toNat = d + 1 := ⟨(1 + (rawM rich).fmod bits).toNat - 1, by omega⟩
        have a := hp70 (1 + (rawM rich).fmod bits).toNat (by omega)
        rw [hd, p2succ] at a ⊢
        have b := p2pos d
        omega
      · split
        · obtain ⟨d, hd⟩ : ∃ d, (1 + (rawM rich).fmod (bits - 1)).toNat = d + 1 := ⟨(1 + (rawM rich).fmod (bits - 1)).toNat - 1, by omega⟩
          have a : (2 : Int) ^ (1 + (rawM rich).fmod (bits - 1)).toNat ≤ 2 ^ 69 := p2le (by omega)
          have a1 := p2succ 69
          have a2 := p2pos 69
          have a3 := p2lt (show 0 < 69 by decide)
          rw [Int.pow_zero] at a3
          rw [hd, p2succ] at a ⊢
          have b := p2pos d
          omega
        · have hq := fmod_range (rawM rich) (p2pos (1 + (rawM rich).fmod bits).toNat)
          have a := hp70 (1 + (rawM rich).fmod bits).toNat (by omega)
          obtain ⟨d, hd⟩ : ∃ d, (1 + (rawM rich).fmod bits).toNat = d + 1 := ⟨(1 + (rawM rich).fmod bits).toNat - 1, by omega⟩
          rw [hd] at a hq ⊢
          rw [p2succ] at a hq ⊢
          generalize (rawM rich).fmod (2 * 2 ^ d) = z at *
          rw [Int.fdiv_eq_ediv_of_nonneg _ (by decide)]
          have b := p2pos d
          omega
  refine ⟨by omega, .inl ⟨hman.1, hman.2.1⟩, (nb_le_iff (by omega)).mpr hman.2.2, by unfold rawE; omega, by unfold rawE; omega⟩
/-- _law_mixed's -/
def mixF (ns : List Int) (k : Nat) : Int :=
  if ns.getD k 0 ≥ 2 ^ (64 : Int).toNat then ns.getD k 0 else (ns.getD k 0 * 6364136223846793005 + ((k : Int) + 1) * 1442695040888963407).fmod (2 ^ (190 : Int).toNat)

/-- the program, the written part -/
abbrev Pg : Program := PySem.Challenge.rw_ah5008_01.row.prog
noncomputable abbrev Kf (w : World) : Frag := Mine.hd.heap_39 w.params

abbrev Led := List (Addr × Obj)
abbrev Rho := List (Str × PyData)

/-- the world, and the script's list -/
structure Ctx where
  w : World
  sl : Addr
  svs : List Value

/-- a tuple that stands in the written part, or on the ledger -/
def SeeT (c : Ctx) (news : Led) (D : Addr) (items : Array Value) : Prop :=
  (∃ n dd sl, (Kf c.w).lookup D = some ⟨.type "tuple", dd, .seq items n, sl⟩) ∨ ∃ n, (D, ({ cls := .type "tuple", data := .seq items n } : Obj)) ∈ news
/-- the script, or a list on the ledger -/
def SeeL (c : Ctx) (news : Led) (D : Addr) (items : Array Value) : Prop :=
  (D = c.sl ∧ items = c.svs.toArray) ∨ ∃ n, (D, ({ cls := .type "list", data := .seq items n } : Obj)) ∈ news

mutual
inductive Rep (c : Ctx) (news : Led) : Value → PyData → Prop
  | none : Rep c news .none .none
  | bool (b : Bool) : Rep c news (.bool b) (.bool b)
  | int (i : Int) (t : Tok) : Rep c news (.int i t) (.int i)
  | str (x : Str) (t : Tok) : Rep c news (.str x t) (.str x)
  | tup {D : Addr} {vs : List Value} {ds : List PyData} : SeeT c news D vs.toArray → RepL c news vs ds → Rep c news (.ref D) (.tuple ds)
  | lst {D : Addr} {vs : List Value} {ds : List PyData} : SeeL c news D vs.toArray → RepL c news vs ds → Rep c news (.ref D) (.list ds)
inductive RepL (c : Ctx) (news : Led) : List Value → List PyData → Prop
  | nil : RepL c news [] []
  | cons {v : Value} {d : PyData} {vs : List Value} {ds : List PyData} : Rep c news v d → RepL c news vs ds → RepL c news (v :: vs) (d :: ds)
end

section
variable {c : Ctx} {news news' : Led}
theorem SeeT.mono {D : Addr} {items : Array Value} (S : SeeT c news D items) (hs : ∀ p ∈ news, p ∈ news') : SeeT c news' D items := by
  rcases S with h | ⟨n, hm⟩
  · exact .inl h
  · exact .inr ⟨n, hs _ hm⟩
theorem SeeL.mono {D : Addr} {items : Array Value} (S : SeeL c news D items) (hs : ∀ p ∈ news, p ∈ news') : SeeL c news' D items := by
  rcases S with h | ⟨n, hm⟩
  · exact .inl h
  · exact .inr ⟨n, hs _ hm⟩
mutual
theorem Rep.mono (hs : ∀ p ∈ news, p ∈ news') : ∀ {v : Value} {d : PyData}, Rep c news v d → Rep c news' v d
  | _, _, .none => .none
  | _, _, .bool b => .bool b
  | _, _, .int i t => .int i t
  | _, _, .str x t => .str x t
  | _, _, .tup S r => .tup (S.mono hs) (RepL.mono hs r)
  | _, _, .lst S r => .lst (S.mono hs) (RepL.mono hs r)
theorem RepL.mono (hs : ∀ p ∈ news, p ∈ news') : ∀ {vs : List Value} {ds : List PyData}, RepL c news vs ds → RepL c news' vs ds
  | _, _, .nil => .nil
  | _, _, .cons a r => .cons (Rep.mono hs a) (RepL.mono hs r)
end
theorem RepL.length : ∀ {vs : List Value} {ds : List PyData}, RepL c news vs ds → vs.length = ds.length
  | _, _, .nil => rfl
  | _, _, .cons _ r => by rw [List.length_cons, List.length_cons, RepL.length r]
theorem RepL.append : ∀ {vs us : List Value} {ds es : List PyData}, RepL c news vs ds → RepL c news us es → RepL c news (vs ++ us) (ds ++ es)
  | _, _, _, _, .nil, r => r
  | _, _, _, _, .cons a r, q => .cons a (RepL.append r q)
theorem RepL.get : ∀ {vs : List Value} {ds : List PyData}, RepL c news vs ds → ∀ {i : Nat} {d : PyData}, ds[i]? = some d → ∃ v, vs[i]? = some v ∧ Rep c news v d
  | _, _, .nil, i, d, h => by simp at h
  | _, _, .cons a r, 0, d, h => by
    simp at h
    subst h
    exact ⟨_, rfl, a⟩
  | _, _, .cons a r, i + 1, d, h => by
    simp at h
    obtain ⟨v, h1, h2⟩ := RepL.get r h
    exact ⟨v, by simpa using h1, h2⟩

/-- a written ledger's fact at a heap -/
theorem SeeT.tup {g h : Heap} {L : Addr} {m : Str → Option Value} {D : Addr} {items : Array Value} (S : SeeT c news D items) (X : (Kf c.w).In g) (F : Fr g L h m) (N : News g L h news) : IsTup h D items := by
  rcases S with ⟨n, dd, sl, hl⟩ | ⟨n, hm⟩
  · exact ⟨_, F.keep _ _ (X _ _ hl), rfl, n, rfl⟩
  · exact ⟨_, N.get hm, rfl, n, rfl⟩
theorem SeeL.lst {base g h : Heap} {L : Addr} {m : Str → Option Value} {D : Addr} {items : Array Value} (S : SeeL c news D items) (hb : base.IsList c.sl c.svs.toArray) (st : base.StaysIn g) (F : Fr g L h m) (N : News g L h news) : h.IsList D items := by
  rcases S with ⟨rfl, rfl⟩ | ⟨n, hm⟩
  · obtain ⟨o, ho, r⟩ := hb
    exact ⟨o, F.keep _ _ (st _ _ ho), r⟩
  · exact ⟨_, N.get hm, rfl, n, rfl⟩

mutual
theorem Rep.reads {base g h : Heap} {L : Addr} {m : Str → Option Value} (X : (Kf c.w).In g) (hb : base.IsList c.sl c.svs.toArray) (st : base.StaysIn g) (F : Fr g L h m) (N : News g L h news) : ∀ {v : Value} {d : PyData}, Rep c news v d → ∃ as, Reads h v d as
  | _, _, .none => ⟨_, Reads.none⟩
  | _, _, .bool b => ⟨_, Reads.bool b⟩
  | _, _, .int i t => ⟨_, Reads.int i t⟩
  | _, _, .str x t => ⟨_, Reads.str x t⟩
  | _, _, .tup S r => by
    obtain ⟨o, h1, h2, n, h3⟩ := S.tup X F N
    obtain ⟨as, q⟩ := RepL.reads X hb st F N r
    exact ⟨as, reads_tuple_at h1 h2 h3 (by simpa using q)⟩
  | _, _, .lst S r => by
    obtain ⟨o, h1, h2, n, h3⟩ := S.lst hb st F N
    obtain ⟨as, q⟩ := RepL.reads X hb st F N r
    exact ⟨_, reads_list_at h1 h2 h3 (by simpa using q)⟩
theorem RepL.reads {base g h : Heap} {L : Addr} {m : Str → Option Value} (X : (Kf c.w).In g) (hb : base.IsList c.sl c.svs.toArray) (st : base.StaysIn g) (F : Fr g L h m) (N : News g L h news) : ∀ {vs : List Value} {ds : List PyData}, RepL c news vs ds → ∃ as, ReadsAll h vs ds as
  | _, _, .nil => ⟨_, ReadsAll.nil⟩
  | _, _, .cons a r => by
    obtain ⟨as, q⟩ := Rep.reads X hb st F N a
    obtain ⟨bs, p⟩ := RepL.reads X hb st F N r
    exact ⟨_, ReadsAll.cons q p⟩
end
end

/-- a frame of a def of the text's -/
structure Frm (c : Ctx) (k : Nat) (cn : Str) (cs : Scope) (a : Addr) (ccd : Value) where
  dp : Nat
  un : Nat
  gd : Option (List Code)
  L : Addr
  outer : List Env
  A₀ : Around
  base : Heap
  g : Heap
  p : Program
  loose : List Str
  mean : ExcName → Option Value
  mg : Str → Option Value
  mb : Str → Option Value
  below : Below A₀ base outer g
  inK : (Kf c.w).In g
  top : Top p loose mean mg mb g
  isFn : cs.kind = .function
  scr : base.IsList c.sl c.svs.toArray
  room : dp + k < recursionLimit
  units : un + 8 * k + 100 < cLine

section
variable {c : Ctx} {k : Nat} {cn : Str} {cs : Scope} {a : Addr} {ccd : Value}
abbrev Frm.A (Γ : Frm c k cn cs a ccd) : Around := ktrTop Γ.dp Γ.un Γ.gd cn cs Γ.L a ccd [] Γ.outer
abbrev Frm.env (Γ : Frm c k cn cs a ccd) : Env := envX cn cs Γ.L a ccd []

def Frm.less (Γ : Frm c k cn cs a ccd) (k' : Nat) (h : k' ≤ k) : Frm c k' cn cs a ccd where
  dp := Γ.dp
  un := Γ.un
  gd := Γ.gd
  L := Γ.L
  outer := Γ.outer
  A₀ := Γ.A₀
  base := Γ.base
  g := Γ.g
  p := Γ.p
  loose := Γ.loose
  mean := Γ.mean
  mg := Γ.mg
  mb := Γ.mb
  below := Γ.below
  inK := Γ.inK
  top := Γ.top
  isFn := Γ.isFn
  scr := Γ.scr
  room := by have := Γ.room; omega
  units := by have := Γ.units; omega

/-- the locals -/
def Loc (c : Ctx) (news : Led) (ρ : Rho) (m : Str → Option Value) : Prop := ∀ x d, ρ.lookup x = some d → ∃ v, m x = some v ∧ Rep c news v d
theorem Loc.mono {news news' : Led} {ρ : Rho} {m : Str → Option Value} (h : Loc c news ρ m) (hs : ∀ p ∈ news, p ∈ news') : Loc c news' ρ m := fun x d e => by
  obtain ⟨v, h1, h2⟩ := h x d e
  exact ⟨v, h1, h2.mono hs⟩
theorem Loc.set {news : Led} {ρ : Rho} {m : Str → Option Value} {x : Str} {v : Value} {d : PyData} (h : Loc c news ρ m) (r : Rep c news v d) : Loc c news ((x, d) :: ρ) (fun y => if y = x then some v else m y) := fun y e he => by
  by_cases hy : y = x
  · subst hy
    rw [List.lookup_cons, beq_self_eq_true] at he
    obtain rfl := Option.some.inj he
    exact ⟨v, if_pos rfl, r⟩
  · have hb : (y == x) = false := beq_eq_false_iff_ne.mpr hy
    rw [List.lookup_cons, hb] at he
    obtain ⟨v', h1, h2⟩ := h y e he
    exact ⟨v', by show (if y = x then some v else m y) = _; rw [if_neg hy]; exact h1, h2⟩

/-- where a frame stands -/
structure At (Γ : Frm c k cn cs a ccd) (ρ : Rho) (news : Led) (h : Heap) : Prop where
  fr : ∃ m, Fr Γ.g Γ.L h m ∧ Loc c news ρ m
  led : News Γ.g Γ.L h news

structure Ev (Γ : Frm c k cn cs a ccd) (ρ : Rho) (e : Expr) (d : PyData) : Prop where
  run : ∀ (Q : Value → Shared → Prop) (E : Value → Shared → Prop) (s : Shared) (news : Led), At Γ ρ news s.heap →
    (∀ v news' h' tk', At Γ ρ news' h' → (∀ p ∈ news, p ∈ news') → Rep c news' v d → Q v { s with heap := h', toks := tk' }) →
    wpAny (model Pg c.w) Γ.A (eval e Γ.env) Q E s
structure Evs (Γ : Frm c k cn cs a ccd) (ρ : Rho) (pos : Pos) (es : List Expr) (ds : List PyData) : Prop where
  run : ∀ (Q : List Value → Shared → Prop) (E : Value → Shared → Prop) (s : Shared) (news : Led), At Γ ρ news s.heap →
    (∀ vs news' h' tk', At Γ ρ news' h' → (∀ p ∈ news, p ∈ news') → RepL c news' vs ds → Q vs { s with heap := h', toks := tk' }) →
    wpAny (model Pg c.w) Γ.A (spliced (backTo pos (starEach es Γ.env))) Q E s
structure Ts (Γ : Frm c k cn cs a ccd) (ρ : Rho) (e : Expr) (b : Bool) : Prop where
  run : ∀ (Q : Bool → Shared → Prop) (E : Value → Shared → Prop) (s : Shared) (news : Led), At Γ ρ news s.heap →
    (∀ news' h' tk', At Γ ρ news' h' → (∀ p ∈ news, p ∈ news') → Q b { s with heap := h', toks := tk' }) →
    wpAny (model Pg c.w) Γ.A (isTrue e Γ.env (eval e Γ.env)) Q E s
structure TsB (Γ : Frm c k cn cs a ccd) (ρ : Rho) (op : BoolOp) (es : List Expr) (pos : Pos) (b : Bool) : Prop where
  run : ∀ (whole : Sem Value) (Q : Bool → Shared → Prop) (E : Value → Shared → Prop) (s : Shared) (news : Led), At Γ ρ news s.heap →
    (∀ news' h' tk', At Γ ρ news' h' → (∀ p ∈ news, p ∈ news') → Q b { s with heap := h', toks := tk' }) →
    wpAny (model Pg c.w) Γ.A (isTrue (.BoolOp op es pos) Γ.env whole) Q E s

/-- how a statement ends -/
inductive Oc where
  | next (ρ : Rho)
  | ret (d : PyData)
def Oc.Ok (Γ : Frm c k cn cs a ccd) : Oc → Flow → Heap → Led → Prop
  | .next ρ, f, h, news => f = .next ∧ At Γ ρ news h
  | .ret d, f, h, news => ∃ v, f = .ret v ∧ (∃ m, Fr Γ.g Γ.L h m) ∧ News Γ.g Γ.L h news ∧ Rep c news v d
structure Ex (Γ : Frm c k cn cs a ccd) (ρ : Rho) (st : Stmt) (o : Oc) : Prop where
  run : ∀ (Q : Flow → Shared → Prop) (E : Value → Shared → Prop) (s : Shared) (news : Led), At Γ ρ news s.heap →
    (∀ f news' h' tk', o.Ok Γ f h' news' → (∀ p ∈ news, p ∈ news') → Q f { s with heap := h', toks := tk' }) →
    wpAny (model Pg c.w) Γ.A (exec st Γ.env) Q E s
structure Exs (Γ : Frm c k cn cs a ccd) (ρ : Rho) (sts : List Stmt) (o : Oc) : Prop where
  run : ∀ (Q : Flow → Shared → Prop) (E : Value → Shared → Prop) (s : Shared) (news : Led), At Γ ρ news s.heap →
    (∀ f news' h' tk', o.Ok Γ f h' news' → (∀ p ∈ news, p ∈ news') → Q f { s with heap := h', toks := tk' }) →
    wpAny (model Pg c.w) Γ.A (execs sts Γ.env) Q E s

/-- a call of a def of the text's -/
structure Fun (c : Ctx) (k : Nat) (f : Addr) (ds : List PyData) (out : PyData) : Prop where
  run : ∀ (cn : Str) (cs : Scope) (a : Addr) (ccd : Value) (Γ : Frm c k cn cs a ccd) (Q : Value → Shared → Prop) (E : Value → Shared → Prop) (s : Shared) (m : Str → Option Value) (news : Led) (vs : List Value),
    Fr Γ.g Γ.L s.heap m → News Γ.g Γ.L s.heap news → RepL c news vs ds →
    (∀ v news' h' tk', Fr Γ.g Γ.L h' m → News Γ.g Γ.L h' news' → (∀ p ∈ news, p ∈ news') → Rep c news' v out → Q v { s with heap := h', toks := tk' }) →
    wpAny (model Pg c.w) Γ.A (call (.ref f) vs) Q E s
end

/-- two lists of names with what they hold, side by side -/
inductive Side (c : Ctx) (news : Led) : List (Str × Value) → Rho → Prop
  | nil : Side c news [] []
  | cons {x : Str} {v : Value} {d : PyData} {l : List (Str × Value)} {ρ : Rho} : Rep c news v d → Side c news l ρ → Side c news ((x, v) :: l) ((x, d) :: ρ)
section
variable {c : Ctx} {news : Led}
theorem Side.append : ∀ {l l' : List (Str × Value)} {ρ ρ' : Rho}, Side c news l ρ → Side c news l' ρ' → Side c news (l ++ l') (ρ ++ ρ')
  | _, _, _, _, .nil, r => r
  | _, _, _, _, .cons h r, q => .cons h (Side.append r q)
theorem Side.reverse : ∀ {l : List (Str × Value)} {ρ : Rho}, Side c news l ρ → Side c news l.reverse ρ.reverse
  | _, _, .nil => .nil
  | _, _, .cons h r => by
    rw [List.reverse_cons, List.reverse_cons]
    exact Side.append (Side.reverse r) (.cons h .nil)
theorem Side.loc : ∀ {l : List (Str × Value)} {ρ : Rho}, Side c news l ρ → Loc c news ρ fun y => l.lookup y
  | _, _, .nil => fun x d e => by simp at e
  | _, _, .cons (x := x) h r => fun y d e => by
    by_cases hy : (y == x) = true
    · rw [List.lookup_cons, hy] at e
      obtain rfl := Option.some.inj e
      exact ⟨_, by show List.lookup y (_ :: _) = _; rw [List.lookup_cons, hy], h⟩
    · have hy' : (y == x) = false := Bool.eq_false_iff.mpr hy
      rw [List.lookup_cons, hy'] at e
      obtain ⟨v, h1, h2⟩ := Side.loc r y d e
      exact ⟨v, by show List.lookup y (_ :: _) = _; rw [List.lookup_cons, hy']; exact h1, h2⟩
theorem Side.zip : ∀ (ns : List Str) {vs : List Value} {ds : List PyData}, RepL c news vs ds → Side c news (ns.zip vs) (ns.zip ds)
  | [], _, _, _ => by simp only [List.zip_nil_left]; exact .nil
  | n :: ns, _, _, .nil => by simp only [List.zip_nil_right]; exact .nil
  | n :: ns, _, _, .cons h r => by
    simp only [List.zip_cons_cons]
    exact .cons h (Side.zip ns r)
end

/-- a def of the text's, by its body -/
theorem fun_of {c : Ctx} {k : Nat} {f : Addr} {ds dds : List PyData} {out : PyData} {name qual : Str} {params : Arguments} {body : List Stmt} {scope : Scope} {dV kV doc pm cdv ct oc : Value} {an od : Option Addr} {osl : Array (Option Value)} (ns : List Str) (dvs : List Value)
    (ho : (Kf c.w).lookup f = some ⟨oc, od, .func (fnOf name qual params body scope dV kV doc pm an cdv ct), osl⟩) (hcd : codeIn (Kf c.w) cdv qual = true)
    (hd : RepL c [] dvs dds)
    (hbind : ∀ (s : Shared) (vs : List Value), vs.length = ds.length → (Kf c.w).In s.heap → BindsTo s (fnOf name qual params body scope dV kV doc pm an cdv ct) ⟨vs, []⟩ (ns.zip (vs ++ dvs)))
    (hloc : ∀ x ∈ ns, scope.names.lookup x = some .local)
    (hb : ∀ Γ : Frm c k qual scope f cdv, Exs Γ (ns.zip (ds ++ dds)).reverse body (.ret out))
    (hco : scope.isCoroutine = false) (hgen : scope.isGenerator = false) (hk : scope.kind = .function) (hcell : ∀ x ∈ scope.names, x.2 ≠ .cell) : Fun c (k + 1) f ds out := by
  refine ⟨fun cn cs a ccd Γ Q E s m news vs F N R h => ?_⟩
  refine wpAny_call ?_
  refine code_def (binds := ns.zip (vs ++ dvs)) Γ.below F Γ.inK N Γ.top rfl rfl Γ.isFn ho hcd ?_ ?_ ?_ ?_ hco hgen hk hcell
  · have := Γ.room
    show Γ.dp < recursionLimit
    omega
  · exact hbind s vs R.length (Γ.inK.keeps F.keep)
  · intro y hy
    exact hloc _ (List.of_mem_zip hy).1
  · intro g L' h₁ FG F' N' B' X' T'
    let Γ' : Frm c k qual scope f cdv := ⟨Γ.dp + 1, Γ.un + 3, (Γ.A.deeper (envOf qual scope L' f cdv)).guards, L', Γ.env :: Γ.outer, Γ.A, Γ.base, g, Γ.p, Γ.loose, Γ.mean, Γ.mg, Γ.mb, B', X', T', hk, Γ.scr, by have := Γ.room; omega, by have := Γ.units; omega⟩
    have hat : At Γ' (ns.zip (ds ++ dds)).reverse news h₁ := ⟨⟨_, F', (Side.zip ns (R.append (hd.mono fun p hp => absurd hp List.not_mem_nil))).reverse.loc⟩, N'⟩
    refine (hb Γ').run _ _ _ _ hat fun fl news' h' tk' hok hs => ?_
    obtain ⟨v, rfl, ⟨m', F2⟩, N2, r⟩ := hok
    exact ⟨L', m', news', F2, N2, fun F3 N3 => h v news' h' tk' F3 N3 hs r⟩

section
variable {c : Ctx} {k : Nat} {cn : Str} {cs : Scope} {a : Addr} {ccd : Value} {Γ : Frm c k cn cs a ccd} {ρ ρ' : Rho}

theorem At.mono {news news' : Led} {h h' : Heap} {m : Str → Option Value} (F : Fr Γ.g Γ.L h' m) (l : Loc c news ρ m) (N : News Γ.g Γ.L h' news') (hs : ∀ p ∈ news, p ∈ news') : At Γ ρ news' h' := ⟨⟨m, F, l.mono hs⟩, N⟩

-- names and constants
theorem ev_local {x : Str} {pos : Pos} {d : PyData} (h : ρ.lookup x = some d) (hx : (envX cn cs Γ.L a ccd []).kindOf x = some .local := by rfl) (hd : (x == ("__debug__" : Str)) = false := by decide) : Ev Γ ρ (.Name x pos) d := by
  refine ⟨fun Q E s news hat hk => ?_⟩
  obtain ⟨⟨m, F, l⟩, N⟩ := hat
  obtain ⟨v, hv, r⟩ := l x d h
  exact nameX_L F hv (hk v news s.heap s.toks ⟨⟨m, F, l⟩, N⟩ (fun _ h => h) r) Γ.isFn hx hd
theorem ev_global {x : Str} {pos : Pos} {v : Value} {d : PyData} (e : nsIn (Kf c.w) mainGlobals x = some (some v)) (r : Rep c [] v d) (hx : (envX cn cs Γ.L a ccd []).kindOf x = some .globalImplicit := by rfl) (hd : (x == ("__debug__" : Str)) = false := by decide) : Ev Γ ρ (.Name x pos) d := by
  refine ⟨fun Q E s news hat hk => ?_⟩
  obtain ⟨⟨m, F, l⟩, N⟩ := hat
  exact nameX_K F Γ.inK (topRead_of Γ.top) e (hk v news s.heap s.toks ⟨⟨m, F, l⟩, N⟩ (fun _ h => h) (r.mono fun p hp => absurd hp List.not_mem_nil)) Γ.isFn hx hd
theorem ev_int {i : Int} {n : Nat} {pos : Pos} : Ev Γ ρ (.Constant (.int i) n pos) (.int i) := by
  refine ⟨fun Q E s news hat hk => ?_⟩
  exact wpAny_Constant_int (hk _ news s.heap _ hat (fun _ h => h) (.int i _))
theorem ev_str {x : Str} {n : Nat} {pos : Pos} : Ev Γ ρ (.Constant (.str x) n pos) (.str x) := by
  refine ⟨fun Q E s news hat hk => ?_⟩
  exact Constant_str (hk _ news s.heap _ hat (fun _ h => h) (.str x _))
theorem ev_bool {b : Bool} {n : Nat} {pos : Pos} : Ev Γ ρ (.Constant (.bool b) n pos) (.bool b) := by
  refine ⟨fun Q E s news hat hk => ?_⟩
  exact fun _ _ _ => hk _ news s.heap s.toks hat (fun _ h => h) (.bool b)
theorem ev_none {n : Nat} {pos : Pos} : Ev Γ ρ (.Constant .none n pos) .none := by
  refine ⟨fun Q E s news hat hk => ?_⟩
  exact fun _ _ _ => hk _ news s.heap s.toks hat (fun _ h => h) .none

-- two-place operations upon ints
structure BinI (op : Operator) (x y r : Int) : Prop where
  run : ∀ (w : World) (A : Around) (Q E : Value → Shared → Prop) (s : Shared) (t u : Tok), Q (.int r s.toks) { s with toks := s.toks + 1 } → wpAny (model Pg w) A (binaryOp op (.int x t) (.int y u)) Q E s
structure InpI (op : Operator) (x y r : Int) : Prop where
  run : ∀ (w : World) (A : Around) (Q E : Value → Shared → Prop) (s : Shared) (t u : Tok), Q (.int r s.toks) { s with toks := s.toks + 1 } → wpAny (model Pg w) A (inplaceOp op (.int x t) (.int y u)) Q E s

theorem log2_of_bits {y : Int} (h : Builtin.Int.intBits y ≤ 9000) : y.natAbs.log2 < 9000 := by
  unfold Builtin.Int.intBits at h
  by_cases h0 : y = 0
  · subst h0; decide
  · rw [if_neg (by simpa using h0)] at h
    omega

theorem bin_add (x y : Int) : BinI .Add x y (x + y) := ⟨fun _ _ _ _ _ _ _ h => add_int h⟩
theorem bin_sub (x y : Int) : BinI .Sub x y (x - y) := ⟨fun _ _ _ _ _ _ _ h => sub_int h⟩
theorem bin_mul {x y : Int} (hm : IntMulOk x y) : BinI .Mult x y (x * y) := ⟨fun _ _ _ _ _ _ _ h => PyProof.Rows.mul_int h hm⟩
theorem bin_div {x y : Int} (h0 : y ≠ 0) (hs : Builtin.Int.intBits y ≤ 9000) : BinI .FloorDiv x y (x.fdiv y) := ⟨fun _ _ _ _ _ _ _ h => floordiv_int h0 h (.inl (PyProof.noPylong_of_log2 (log2_of_bits hs)))⟩
theorem bin_mod {x y : Int} (h0 : y ≠ 0) : BinI .Mod x y (x.fmod y) := ⟨fun _ _ _ _ _ _ _ h => mod_int' h0 h⟩
theorem bin_pow {x n : Int} (h0 : 0 ≤ n) (hs : (Builtin.Int.intBits x : Int) * n ≤ 2 ^ 27) : BinI .Pow x n (x ^ n.toNat) := ⟨fun _ _ _ _ _ _ _ h => pow_int h0 hs h⟩
theorem bin_shl {x n : Int} (h0 : 0 ≤ n) (hs : (Builtin.Int.intBits x : Int) + n ≤ 2 ^ 27) : BinI .LShift x n (x * 2 ^ n.toNat) := ⟨fun _ _ _ _ _ _ _ h => lshift_int h0 hs h⟩
theorem bin_shr {x n : Int} (h0 : 0 ≤ n) : BinI .RShift x n (x.fdiv (2 ^ n.toNat)) := ⟨fun _ _ _ _ _ _ _ h => rshift_int h0 h⟩
theorem bin_and (x y : Int) : BinI .BitAnd x y (Builtin.bitAnd x y) := ⟨fun _ _ _ _ _ _ _ h => and_int h⟩
theorem inp_add (x y : Int) : InpI .Add x y (x + y) := ⟨fun _ _ _ _ _ _ _ h => P.iadd_int h⟩
theorem inp_sub (x y : Int) : InpI .Sub x y (x - y) := ⟨fun _ _ _ _ _ _ _ h => PyProof.Rows.isub_int h⟩
theorem inp_shr {x n : Int} (h0 : 0 ≤ n) : InpI .RShift x n (x.fdiv (2 ^ n.toNat)) := ⟨fun _ _ _ _ _ _ _ h => irshift_int h0 h⟩
theorem inp_xor (x y : Int) : InpI .BitXor x y (Builtin.bitXor x y) := ⟨fun _ _ _ _ _ _ _ h => ixor_int h⟩

theorem ev_bin {l r : Expr} {op : Operator} {pos : Pos} {x y z : Int} (h1 : Ev Γ ρ l (.int x)) (h2 : Ev Γ ρ r (.int y)) (ho : BinI op x y z) : Ev Γ ρ (.BinOp l op r pos) (.int z) := by
  refine ⟨fun Q E s news hat hk => ?_⟩
  refine wpAny_BinOp (h1.run _ _ _ _ hat fun v n1 h t hat1 s1 r1 => ?_)
  cases r1
  refine h2.run _ _ _ _ hat1 fun v n2 h t hat2 s2 r2 => ?_
  cases r2
  exact ho.run _ _ _ _ _ _ _ (hk _ n2 _ _ hat2 (fun p hp => s2 p (s1 p hp)) (.int _ _))
theorem ev_neg {e : Expr} {pos : Pos} {x : Int} (h1 : Ev Γ ρ e (.int x)) : Ev Γ ρ (.UnaryOp .USub e pos) (.int (-x)) := by
  refine ⟨fun Q E s news hat hk => ?_⟩
  refine wpAny_UnaryOp (h1.run _ _ _ _ hat fun v n1 h t hat1 s1 r1 => ?_)
  cases r1
  exact P.neg_int (hk _ n1 _ _ hat1 s1 (.int _ _))

-- comparisons
structure CmpI (op : CmpOp) (x y : Int) (b : Bool) : Prop where
  run : ∀ (w : World) (A : Around) (Q E : Value → Shared → Prop) (s : Shared) (t u : Tok), Q (.bool b) s → wpAny (model Pg w) A (compareOp op (.int x t) (.int y u)) Q E s
theorem cmp_eq (x y : Int) : CmpI .Eq x y (x == y) := ⟨fun _ _ _ _ _ _ _ h => PySem.P.eq_int h⟩
theorem cmp_ne (x y : Int) : CmpI .NotEq x y (x != y) := ⟨fun _ _ _ _ _ _ _ h => PySem.P.ne_int h⟩
theorem cmp_lt (x y : Int) : CmpI .Lt x y (decide (x < y)) := ⟨fun _ _ _ _ _ _ _ h => PySem.P.lt_int h⟩
theorem cmp_le (x y : Int) : CmpI .LtE x y (decide (x ≤ y)) := ⟨fun _ _ _ _ _ _ _ h => PySem.P.le_int h⟩
theorem cmp_gt (x y : Int) : CmpI .Gt x y (decide (x > y)) := ⟨fun _ _ _ _ _ _ _ h => PySem.P.gt_int h⟩
theorem cmp_ge (x y : Int) : CmpI .GtE x y (decide (x ≥ y)) := ⟨fun _ _ _ _ _ _ _ h => PySem.P.ge_int h⟩

/-- a comparison's word, at a frame -/
structure Cmp (Γ : Frm c k cn cs a ccd) (op : CmpOp) (d e : PyData) (b : Bool) : Prop where
  run : ∀ (Q E : Value → Shared → Prop) (s : Shared) (m : Str → Option Value) (news : Led) (u v : Value),
  Fr Γ.g Γ.L s.heap m → News Γ.g Γ.L s.heap news → Rep c news u d → Rep c news v e → (∀ tk, Q (.bool b) { s with toks := tk }) → wpAny (model Pg c.w) Γ.A (compareOp op u v) Q E s
theorem Cmp.int {op : CmpOp} {x y : Int} {b : Bool} (h : CmpI op x y b) : Cmp Γ op (.int x) (.int y) b := ⟨fun _ _ _ _ _ _ _ _ _ r1 r2 hq => by
  cases r1
  cases r2
  exact h.run _ _ _ _ _ _ _ (hq _)⟩
theorem Cmp.streq {x y : Str} : Cmp Γ .Eq (.str x) (.str y) (x == y) := ⟨fun _ _ _ _ _ _ _ _ _ r1 r2 hq => by
  cases r1
  cases r2
  exact PyProof.Rows.eq_str (hq _)⟩
theorem Cmp.dataEq {d e : PyData} (hd : SeqAt.shaped d = true) (he : SeqAt.shaped e = true) : Cmp Γ .Eq d e (PyData.eqv d e) := ⟨fun _ _ _ _ _ _ _ F N r1 r2 hq => by
  obtain ⟨as, q1⟩ := r1.reads Γ.inK Γ.scr Γ.below.stays F N
  obtain ⟨bs, q2⟩ := r2.reads Γ.inK Γ.scr Γ.below.stays F N
  exact eq_dataH q1 q2 hd he (by have := Γ.units; show Γ.un + 64 < cLine; omega) (hq _)⟩
theorem Cmp.dataNe {d e : PyData} (hd : SeqAt.shaped d = true) (he : SeqAt.shaped e = true) : Cmp Γ .NotEq d e (!PyData.eqv d e) := ⟨fun _ _ _ _ _ _ _ F N r1 r2 hq => by
  obtain ⟨as, q1⟩ := r1.reads Γ.inK Γ.scr Γ.below.stays F N
  obtain ⟨bs, q2⟩ := r2.reads Γ.inK Γ.scr Γ.below.stays F N
  exact ne_dataH q1 q2 hd he (by have := Γ.units; show Γ.un + 64 < cLine; omega) (hq _)⟩
theorem Cmp.inTup {d : PyData} {es : List PyData} (he : PyData.canLayAll0 es = true) (hd : d.canLay0 = true) (hn : min (PyData.depthAll es) d.depth < 60) : Cmp Γ .In d (.tuple es) (es.any fun y => PyData.eqv y d) := ⟨fun _ _ _ _ _ _ _ F N r1 r2 hq => by
  obtain ⟨as, q1⟩ := r1.reads Γ.inK Γ.scr Γ.below.stays F N
  obtain ⟨bs, q2⟩ := r2.reads Γ.inK Γ.scr Γ.below.stays F N
  exact SeqAt.in_tuple_reads q2 q1 he hd (by have := Γ.units; show Γ.un + 1 + _ < cLine; omega) (hq _)⟩

theorem ev_cmp {l r : Expr} {op : CmpOp} {pos : Pos} {d e : PyData} {b : Bool} (h1 : Ev Γ ρ l d) (h2 : Ev Γ ρ r e) (ho : Cmp Γ op d e b) (hm : behindInMarks op r = false := by with_unfolding_all rfl) : Ev Γ ρ (.Compare l [op] [r] pos) (.bool b) := by
  refine ⟨fun Q E s news hat hk => ?_⟩
  refine wpAny_Compare1 (h1.run _ _ _ _ hat fun v n1 h t hat1 s1 r1 => ?_) hm
  refine h2.run _ _ _ _ hat1 fun v n2 h t hat2 s2 r2 => ?_
  obtain ⟨⟨m, F, l⟩, N⟩ := hat2
  exact ho.run _ _ _ _ _ _ _ F N (r1.mono s2) r2 fun tk => hk _ n2 _ _ ⟨⟨m, F, l⟩, N⟩ (fun p hp => s2 p (s1 p hp)) (.bool _)
theorem ts_cmp {l r : Expr} {op : CmpOp} {pos : Pos} {d e : PyData} {b : Bool} (h1 : Ev Γ ρ l d) (h2 : Ev Γ ρ r e) (ho : Cmp Γ op d e b) (hm : behindInMarks op r = false := by with_unfolding_all rfl) : Ts Γ ρ (.Compare l [op] [r] pos) b := by
  refine ⟨fun Q E s news hat hk => ?_⟩
  refine wpAny_isTrue_Compare1 (h1.run _ _ _ _ hat fun v n1 h t hat1 s1 r1 => ?_) hm
  refine h2.run _ _ _ _ hat1 fun v n2 h t hat2 s2 r2 => ?_
  obtain ⟨⟨m, F, l⟩, N⟩ := hat2
  exact ho.run _ _ _ _ _ _ _ F N (r1.mono s2) r2 fun tk => wpAny_truthy_bool (hk n2 _ _ ⟨⟨m, F, l⟩, N⟩ (fun p hp => s2 p (s1 p hp)))

-- truth
/-- what is true -/
def PyTrue : PyData → Bool
  | .none => false
  | .bool b => b
  | .int i => i != 0
  | _ => true
/-- whose truth is known at sight -/
def Sight : PyData → Bool
  | .none => true
  | .bool _ => true
  | .int _ => true
  | _ => false
theorem truthy_rep {d : PyData} {v : Value} {news : Led} {A : Around} {w : World} {Q : Bool → Shared → Prop} {E : Value → Shared → Prop} {s : Shared} (r : Rep c news v d) (hd : Sight d = true) (h : ∀ tk, Q (PyTrue d) { s with toks := tk }) : wpAny (model Pg w) A (truthy v) Q E s := by
  cases r with
  | none => exact truthy_none (h _)
  | bool b => exact wpAny_truthy_bool (h _)
  | int i t => exact PySem.P.truthy_int (h _)
  | str => cases hd
  | tup => cases hd
  | lst => cases hd
theorem ts_plain {e : Expr} {d : PyData} (h1 : Ev Γ ρ e d) (hd : Sight d = true := by rfl) (he : isTrue e Γ.env (eval e Γ.env) = (do let v ← eval e Γ.env; standAt e.pos; holding [v] (truthy v)) := by rfl) : Ts Γ ρ e (PyTrue d) := by
  refine ⟨fun Q E s news hat hk => ?_⟩
  exact isTrue_plain (h1.run _ _ _ _ hat fun v n1 h t hat1 s1 r1 => truthy_rep r1 hd fun tk => hk n1 _ _ hat1 s1) he
theorem ts_int {e : Expr} {i : Int} (h1 : Ev Γ ρ e (.int i)) (he : isTrue e Γ.env (eval e Γ.env) = (do let v ← eval e Γ.env; standAt e.pos; holding [v] (truthy v)) := by rfl) : Ts Γ ρ e (i != 0) := ts_plain h1 rfl he
theorem ts_boolv {e : Expr} {b : Bool} (h1 : Ev Γ ρ e (.bool b)) (he : isTrue e Γ.env (eval e Γ.env) = (do let v ← eval e Γ.env; standAt e.pos; holding [v] (truthy v)) := by rfl) : Ts Γ ρ e b := ts_plain h1 rfl he
theorem ts_not {e : Expr} {pos : Pos} {b : Bool} (h1 : Ts Γ ρ e b) : Ts Γ ρ (.UnaryOp .Not e pos) (!b) := by
  refine ⟨fun Q E s news hat hk => ?_⟩
  exact isTrue_not (h1.run _ _ _ _ hat hk)
theorem tsb_and_nil {pos : Pos} : TsB Γ ρ .And [] pos true := by
  refine ⟨fun whole Q E s news hat hk => ?_⟩
  exact isTrue_and_nil (hk news s.heap s.toks hat fun _ h => h)
theorem tsb_or_nil {pos : Pos} : TsB Γ ρ .Or [] pos false := by
  refine ⟨fun whole Q E s news hat hk => ?_⟩
  exact isTrue_or_nil (hk news s.heap s.toks hat fun _ h => h)
theorem tsb_and {x : Expr} {rest : List Expr} {pos : Pos} {b b' : Bool} (h1 : Ts Γ ρ x b) (h2 : b = true → TsB Γ ρ .And rest pos b') : TsB Γ ρ .And (x :: rest) pos (b && b') := by
  refine ⟨fun whole Q E s news hat hk => ?_⟩
  refine isTrue_and (h1.run _ _ _ _ hat fun n1 h t hat1 s1 => ?_)
  cases b with
  | true => exact (if_pos rfl).mpr ((h2 rfl).run _ _ _ _ _ hat1 fun n2 h t hat2 s2 => hk n2 _ _ hat2 fun p hp => s2 p (s1 p hp))
  | false => exact (if_neg Bool.false_ne_true).mpr (hk n1 _ _ hat1 s1)
theorem tsb_or {x : Expr} {rest : List Expr} {pos : Pos} {b b' : Bool} (h1 : Ts Γ ρ x b) (h2 : b = false → TsB Γ ρ .Or rest pos b') : TsB Γ ρ .Or (x :: rest) pos (b || b') := by
  refine ⟨fun whole Q E s news hat hk => ?_⟩
  refine isTrue_or (h1.run _ _ _ _ hat fun n1 h t hat1 s1 => ?_)
  cases b with
  | true => exact (if_pos rfl).mpr (hk n1 _ _ hat1 s1)
  | false => exact (if_neg Bool.false_ne_true).mpr ((h2 rfl).run _ _ _ _ _ hat1 fun n2 h t hat2 s2 => hk n2 _ _ hat2 fun p hp => s2 p (s1 p hp))
theorem ts_bool {op : BoolOp} {es : List Expr} {pos : Pos} {b : Bool} (h : TsB Γ ρ op es pos b) : Ts Γ ρ (.BoolOp op es pos) b := by
  refine ⟨fun Q E s news hat hk => ?_⟩
  exact h.run _ _ _ _ _ hat hk
theorem ts_eq {e : Expr} {b b' : Bool} (h : Ts Γ ρ e b) (hb : b = b') : Ts Γ ρ e b' := hb ▸ h
theorem ev_eq {e : Expr} {d d' : PyData} (h : Ev Γ ρ e d) (hd : d = d') : Ev Γ ρ e d' := hd ▸ h

-- values of and, or
theorem ev_bool1 {op : BoolOp} {e : Expr} {pos : Pos} {d : PyData} (h : Ev Γ ρ e d) : Ev Γ ρ (.BoolOp op [e] pos) d := by
  refine ⟨fun Q E s news hat hk => ?_⟩
  exact BoolOp_one (h.run _ _ _ _ hat hk)
theorem ev_or {e e₂ : Expr} {rest : List Expr} {pos : Pos} {b b' : Bool} (h1 : Ev Γ ρ e (.bool b)) (h2 : b = false → Ev Γ ρ (.BoolOp .Or (e₂ :: rest) pos) (.bool b')) : Ev Γ ρ (.BoolOp .Or (e :: e₂ :: rest) pos) (.bool (b || b')) := by
  refine ⟨fun Q E s news hat hk => ?_⟩
  refine BoolOp_or (h1.run _ _ _ _ hat fun v n1 h t hat1 s1 r1 => ?_)
  cases r1
  refine wpAny_truthy_bool ?_
  cases b with
  | true => exact (if_pos rfl).mpr (hk _ n1 _ _ hat1 s1 (.bool true))
  | false => exact (if_neg Bool.false_ne_true).mpr ((h2 rfl).run _ _ _ _ hat1 fun v n2 h t hat2 s2 r2 => hk _ n2 _ _ hat2 (fun p hp => s2 p (s1 p hp)) r2)
theorem ev_orI {e e₂ : Expr} {pos : Pos} {x y : Int} (h1 : Ev Γ ρ e (.int x)) (h2 : Ev Γ ρ e₂ (.int y)) : Ev Γ ρ (.BoolOp .Or [e, e₂] pos) (.int (if x = 0 then y else x)) := by
  refine ⟨fun Q E s news hat hk => ?_⟩
  refine BoolOp_or (h1.run _ _ _ _ hat fun v n1 h t hat1 s1 r1 => ?_)
  cases r1
  refine PySem.P.truthy_int ?_
  by_cases hx : x = 0
  · subst hx
    exact (if_neg (by decide)).mpr (BoolOp_one (h2.run _ _ _ _ hat1 fun v n2 h t hat2 s2 r2 => hk _ n2 _ _ hat2 (fun p hp => s2 p (s1 p hp)) r2))
  · refine (if_pos (by simpa using hx)).mpr (hk _ n1 _ _ hat1 s1 ?_)
    rw [if_neg hx]
    exact .int _ _
theorem ev_and {e e₂ : Expr} {rest : List Expr} {pos : Pos} {b b' : Bool} (h1 : Ev Γ ρ e (.bool b)) (h2 : b = true → Ev Γ ρ (.BoolOp .And (e₂ :: rest) pos) (.bool b')) : Ev Γ ρ (.BoolOp .And (e :: e₂ :: rest) pos) (.bool (b && b')) := by
  refine ⟨fun Q E s news hat hk => ?_⟩
  refine BoolOp_and (h1.run _ _ _ _ hat fun v n1 h t hat1 s1 r1 => ?_)
  cases r1
  refine wpAny_truthy_bool ?_
  cases b with
  | true => exact (if_pos rfl).mpr ((h2 rfl).run _ _ _ _ hat1 fun v n2 h t hat2 s2 r2 => hk _ n2 _ _ hat2 (fun p hp => s2 p (s1 p hp)) r2)
  | false => exact (if_neg Bool.false_ne_true).mpr (hk _ n1 _ _ hat1 s1 (.bool false))
theorem ev_iteI {t x y : Expr} {pos : Pos} {b : Bool} {i j : Int} (h : Ts Γ ρ t b) (h1 : b = true → Ev Γ ρ x (.int i)) (h2 : b = false → Ev Γ ρ y (.int j)) : Ev Γ ρ (.IfExp t x y pos) (.int (if b = true then i else j)) := by
  refine ⟨fun Q E s news hat hk => ?_⟩
  refine wpAny_IfExp (h.run _ _ _ _ hat fun n1 h t hat1 s1 => ?_)
  cases b with
  | true => exact (if_pos rfl).mpr ((h1 rfl).run _ _ _ _ hat1 fun v n2 h t hat2 s2 r2 => hk _ n2 _ _ hat2 (fun p hp => s2 p (s1 p hp)) r2)
  | false => exact (if_neg Bool.false_ne_true).mpr ((h2 rfl).run _ _ _ _ hat1 fun v n2 h t hat2 s2 r2 => hk _ n2 _ _ hat2 (fun p hp => s2 p (s1 p hp)) r2)
theorem ev_ite {t x y : Expr} {pos : Pos} {b : Bool} {d : PyData} (h : Ts Γ ρ t b) (h1 : b = true → Ev Γ ρ x d) (h2 : b = false → Ev Γ ρ y d) : Ev Γ ρ (.IfExp t x y pos) d := by
  refine ⟨fun Q E s news hat hk => ?_⟩
  refine wpAny_IfExp (h.run _ _ _ _ hat fun n1 h t hat1 s1 => ?_)
  cases b with
  | true => exact (if_pos rfl).mpr ((h1 rfl).run _ _ _ _ hat1 fun v n2 h t hat2 s2 r2 => hk _ n2 _ _ hat2 (fun p hp => s2 p (s1 p hp)) r2)
  | false => exact (if_neg Bool.false_ne_true).mpr ((h2 rfl).run _ _ _ _ hat1 fun v n2 h t hat2 s2 r2 => hk _ n2 _ _ hat2 (fun p hp => s2 p (s1 p hp)) r2)

-- many
theorem evs_nil {pos : Pos} : Evs Γ ρ pos [] [] := by
  refine ⟨fun Q E s news hat hk => ?_⟩
  exact args_nil (hk [] news s.heap s.toks hat (fun _ h => h) .nil)
theorem evs_cons {pos : Pos} {e : Expr} {es : List Expr} {d : PyData} {ds : List PyData} (h1 : Ev Γ ρ e d) (h2 : Evs Γ ρ pos es ds) (he : starEach (e :: es) Γ.env = (false, eval e Γ.env) :: starEach es Γ.env := by rfl) : Evs Γ ρ pos (e :: es) (d :: ds) := by
  refine ⟨fun Q E s news hat hk => ?_⟩
  refine args_cons (h1.run _ _ _ _ hat fun v n1 h t hat1 s1 r1 => ?_) he
  exact h2.run _ _ _ _ hat1 fun vs n2 h t hat2 s2 r2 => hk _ n2 _ _ hat2 (fun p hp => s2 p (s1 p hp)) (.cons (r1.mono s2) r2)
theorem ev_tuple {es : List Expr} {n : Nat} {pos : Pos} {ds : List PyData} (h : Evs Γ ρ pos es ds) (hz : ds.length ≤ 100) : Ev Γ ρ (.Tuple es n pos) (.tuple ds) := by
  refine ⟨fun Q E s news hat hk => ?_⟩
  refine Tuple_ (h.run _ _ _ _ hat fun vs n1 h t hat1 s1 r1 => ?_)
  obtain ⟨⟨m, F, l⟩, N⟩ := hat1
  refine newTuple_N F N (fun h' F' N' => hk _ _ _ _ ⟨⟨m, F', l.mono fun p hp => .tail _ hp⟩, N'⟩ (fun p hp => .tail _ (s1 p hp)) (.tup (.inr ⟨_, .head _⟩) (r1.mono fun p hp => .tail _ hp))) ?_
  rw [r1.length]
  exact Nat.le_trans hz (by decide +kernel)
theorem ev_list {es : List Expr} {pos : Pos} {ds : List PyData} (h : Evs Γ ρ pos es ds) (hz : ds.length ≤ 100) : Ev Γ ρ (.List es pos) (.list ds) := by
  refine ⟨fun Q E s news hat hk => ?_⟩
  refine List_ (h.run _ _ _ _ hat fun vs n1 h t hat1 s1 r1 => ?_)
  obtain ⟨⟨m, F, l⟩, N⟩ := hat1
  refine newList_N F N (fun h' F' N' => hk _ _ _ _ ⟨⟨m, F', l.mono fun p hp => .tail _ hp⟩, N'⟩ (fun p hp => .tail _ (s1 p hp)) (.lst (.inr ⟨_, .head _⟩) (r1.mono fun p hp => .tail _ hp))) ?_
  rw [r1.length]
  exact Nat.le_trans hz (by decide +kernel)

-- calls
theorem ev_call {fn : Str} {pf pos : Pos} {e : Expr} {es : List Expr} {fa : Addr} {k' : Nat} {ds : List PyData} {out : PyData} (hn : nsIn (Kf c.w) mainGlobals fn = some (some (.ref fa))) (hkp : keepIn (Kf c.w) (.ref fa) = true)
    (ha : Evs Γ ρ pos (e :: es) ds) (hf : Fun c k' fa ds out) (hk' : k' ≤ k) (hx : (envX cn cs Γ.L a ccd []).kindOf fn = some .globalImplicit := by rfl) (hd : (fn == ("__debug__" : Str)) = false := by decide)
    (he : starEach (e :: es) Γ.env = (false, eval e Γ.env) :: starEach es Γ.env := by rfl) (hplain : (backTo pos (starEach es Γ.env)).any (·.1) = false := by rfl) (hee : ∀ args : List Expr, eval (.Call (.Name fn pf) args [] pos) Γ.env = (do callWith pos (← eval (.Name fn pf) Γ.env) [] (backTo pos (starEach args Γ.env)) (backToKw pos (keywordEach [] Γ.env))) := by intro _; rfl) :
    Ev Γ ρ (.Call (.Name fn pf) (e :: es) [] pos) out := by
  refine ⟨fun Q E s news hat hk => ?_⟩
  obtain ⟨⟨m, F, l⟩, N⟩ := hat
  refine Call_ (nameX_K F Γ.inK (topRead_of Γ.top) hn ?_ Γ.isFn hx hd) (hee _)
  refine callWith_K Γ.inK hkp ?_ he hplain
  refine ha.run _ _ _ _ ⟨⟨m, F, l⟩, N⟩ fun vs n1 h t hat1 s1 r1 => ?_
  obtain ⟨⟨m, F, l⟩, N⟩ := hat1
  refine ⟨Γ.inK.keeps F.keep, ?_⟩
  exact hf.run _ _ _ _ (Γ.less k' hk') _ _ _ _ _ _ F N r1 fun v n2 h' tk' F' N' s2 r2 => hk v n2 h' tk' ⟨⟨m, F', l.mono s2⟩, N'⟩ (fun p hp => s2 p (s1 p hp)) r2
theorem ev_call0 {fn : Str} {pf pos : Pos} {fa : Addr} {k' : Nat} {out : PyData} (hn : nsIn (Kf c.w) mainGlobals fn = some (some (.ref fa))) (hkp : keepIn (Kf c.w) (.ref fa) = true)
    (hf : Fun c k' fa [] out) (hk' : k' ≤ k) (hx : (envX cn cs Γ.L a ccd []).kindOf fn = some .globalImplicit := by rfl) (hd : (fn == ("__debug__" : Str)) = false := by decide)
    (hee : ∀ args : List Expr, eval (.Call (.Name fn pf) args [] pos) Γ.env = (do callWith pos (← eval (.Name fn pf) Γ.env) [] (backTo pos (starEach args Γ.env)) (backToKw pos (keywordEach [] Γ.env))) := by intro _; rfl) :
    Ev Γ ρ (.Call (.Name fn pf) [] [] pos) out := by
  refine ⟨fun Q E s news hat hk => ?_⟩
  obtain ⟨⟨m, F, l⟩, N⟩ := hat
  refine Call_ (nameX_K F Γ.inK (topRead_of Γ.top) hn ?_ Γ.isFn hx hd) (hee _)
  refine callWith_K0 (Γ.inK.keeps F.keep) hkp ?_
  exact hf.run _ _ _ _ (Γ.less k' hk') _ _ _ _ _ _ F N .nil fun v n2 h' tk' F' N' s2 r2 => hk v n2 h' tk' ⟨⟨m, F', l.mono s2⟩, N'⟩ s2 r2

end

section
variable {c : Ctx} {k : Nat} {cn : Str} {cs : Scope} {a : Addr} {ccd : Value} {Γ : Frm c k cn cs a ccd} {ρ ρ' : Rho}

-- stores
theorem store_at {x : Str} {v : Value} {d : PyData} {E : Value → Shared → Prop} {Q : Unit → Shared → Prop} {s : Shared} {news : Led} (hat : At Γ ρ news s.heap) (r : Rep c news v d) (hx : (envX cn cs Γ.L a ccd []).kindOf x = some .local)
    (h : ∀ h' tk', At Γ ((x, d) :: ρ) news h' → Q () { s with heap := h', toks := tk' }) : wpAny (model Pg c.w) Γ.A (storeName Γ.env x v) Q E s := by
  obtain ⟨⟨m, F, l⟩, N⟩ := hat
  exact storeX_L F N (fun h' F' N' => h h' _ ⟨⟨_, F', l.set r⟩, N'⟩) Γ.isFn hx

theorem ex_assign {x : Str} {pos' pos : Pos} {e : Expr} {d : PyData} (h1 : Ev Γ ρ e d) (hx : (envX cn cs Γ.L a ccd []).kindOf x = some .local := by rfl) (hs : swapsWith e (some (.Name x pos')) pos.line Γ.env = pure false := by rfl) :
    Ex Γ ρ (.Assign [.Name x pos'] e pos) (.next ((x, d) :: ρ)) := by
  refine ⟨fun Q E s news hat hk => ?_⟩
  refine wpAny_Assign_Name (h1.run _ _ _ _ hat fun v n1 h t hat1 s1 r1 => ?_) hs
  exact store_at hat1 r1 hx fun h' tk' hat2 => hk .next n1 _ _ ⟨rfl, hat2⟩ s1
theorem ex_aug {x : Str} {op : Operator} {pos' pos : Pos} {e : Expr} {y z r : Int} (hl : ρ.lookup x = some (.int y)) (h1 : Ev Γ ρ e (.int z)) (ho : InpI op y z r) (hx : (envX cn cs Γ.L a ccd []).kindOf x = some .local := by rfl) :
    Ex Γ ρ (.AugAssign (.Name x pos') op e pos) (.next ((x, .int r) :: ρ)) := by
  refine ⟨fun Q E s news hat hk => ?_⟩
  obtain ⟨⟨m, F, l⟩, N⟩ := hat
  obtain ⟨v, hv, r⟩ := l x _ hl
  cases r
  refine wpAny_AugAssign_Name (wpAny_loadName_local Γ.isFn hx F.ns hv ?_)
  refine h1.run _ _ _ _ ⟨⟨m, F, l⟩, N⟩ fun v n1 h t hat1 s1 r1 => ?_
  cases r1
  refine ho.run _ _ _ _ _ _ _ ?_
  exact store_at (s := { s with heap := h, toks := _ }) hat1 (.int _ _) hx fun h' tk' hat2 => hk .next n1 _ _ ⟨rfl, hat2⟩ s1

/-- values given to places, in order -/
structure Asg (Γ : Frm c k cn cs a ccd) (ρ : Rho) (ts : List (Value → Sem Unit)) (ds : List PyData) (ρ' : Rho) : Prop where
  run : ∀ (Q : Unit → Shared → Prop) (E : Value → Shared → Prop) (s : Shared) (news : Led) (vs : List Value), At Γ ρ news s.heap → RepL c news vs ds →
    (∀ h' tk', At Γ ρ' news h' → Q () { s with heap := h', toks := tk' }) → wpAny (model Pg c.w) Γ.A (assignInOrder ts vs) Q E s
theorem asg_nil : Asg Γ ρ [] [] ρ := by
  refine ⟨fun Q E s news vs hat r hk => ?_⟩
  exact assignInOrder_nil (hk s.heap s.toks hat)
theorem asg_name {x : Str} {pos : Pos} {ts : List (Value → Sem Unit)} {d : PyData} {ds : List PyData} (h : Asg Γ ((x, d) :: ρ) ts ds ρ') (hx : (envX cn cs Γ.L a ccd []).kindOf x = some .local := by rfl) : Asg Γ ρ (assign (.Name x pos) Γ.env :: ts) (d :: ds) ρ' := by
  refine ⟨fun Q E s news vs hat r hk => ?_⟩
  cases r with
  | cons r1 r2 =>
    refine assignInOrder_cons (assign_Name ?_)
    exact store_at hat r1 hx fun h' tk' hat2 => h.run _ _ { s with heap := h', toks := tk' } _ _ hat2 r2 fun h2 tk2 hat3 => hk h2 tk2 hat3
theorem asg_bind {x : Str} {ts : List (Value → Sem Unit)} {d : PyData} {ds : List PyData} (h : Asg Γ ((x, d) :: ρ) ts ds ρ') (hx : (envX cn cs Γ.L a ccd []).kindOf x = some .local := by rfl) : Asg Γ ρ (bindName Γ.env x :: ts) (d :: ds) ρ' := by
  refine ⟨fun Q E s news vs hat r hk => ?_⟩
  cases r with
  | cons r1 r2 =>
    refine assignInOrder_cons (bindName_ ?_)
    exact store_at hat r1 hx fun h' tk' hat2 => h.run _ _ { s with heap := h', toks := tk' } _ _ hat2 r2 fun h2 tk2 hat3 => hk h2 tk2 hat3

theorem ex_unpack {elts : List Expr} {n : Nat} {tpos pos : Pos} {value : Expr} {ds : List PyData} (h1 : Ev Γ ρ value (.tuple ds)) (hn : (assignEach elts Γ.env).length = ds.length) (h2 : Asg Γ ρ ((assignEach elts Γ.env).map (·.2)) ds ρ')
    (hstar : (assignEach elts Γ.env).findIdx? (·.1) = none := by rfl) (hs : swapsWithSole [.Tuple elts n tpos] value pos.line Γ.env = pure false := by rfl) (hw : swappedStores [.Tuple elts n tpos] value Γ.env = pure none := by rfl) :
    Ex Γ ρ (.Assign [.Tuple elts n tpos] value pos) (.next ρ') := by
  refine ⟨fun Q E s news hat hk => ?_⟩
  refine Assign_Tuple (h1.run _ _ _ _ hat fun v n1 h t hat1 s1 r1 => ?_) hs hw
  cases r1 with
  | @tup D vs _ S r =>
    obtain ⟨⟨m, F, l⟩, N⟩ := hat1
    refine unpackN_ F N (S.tup Γ.inK F N) rfl (by rw [hn, ← r.length]; simp) hstar fun h' F' N' => ?_
    exact h2.run _ _ { s with heap := h', toks := t } _ _ ⟨⟨m, F', l⟩, N'⟩ r fun h3 t3 hat3 => hk .next n1 h3 t3 ⟨rfl, hat3⟩ s1
theorem RepL.reverse {news : Led} : ∀ {vs : List Value} {ds : List PyData}, RepL c news vs ds → RepL c news vs.reverse ds.reverse
  | _, _, .nil => .nil
  | _, _, .cons h r => by
    rw [List.reverse_cons, List.reverse_cons]
    exact RepL.append (RepL.reverse r) (.cons h .nil)
theorem ex_unpackS {elts : List Expr} {n : Nat} {tpos pos : Pos} {value : Expr} {ds : List PyData} {names : List Str} (hw : swappedStores [.Tuple elts n tpos] value Γ.env = pure (some names)) (h1 : Ev Γ ρ value (.tuple ds)) (hn : names.length = ds.length) (h2 : Asg Γ ρ (names.reverse.map fun n => bindName Γ.env n) ds.reverse ρ')
    (hs : swapsWithSole [.Tuple elts n tpos] value pos.line Γ.env = pure false := by rfl) :
    Ex Γ ρ (.Assign [.Tuple elts n tpos] value pos) (.next ρ') := by
  refine ⟨fun Q E s news hat hk => ?_⟩
  refine Assign_Tuple_swapped (h1.run _ _ _ _ hat fun v n1 h t hat1 s1 r1 => ?_) hs hw
  cases r1 with
  | @tup D vs _ S r =>
    obtain ⟨⟨m, F, l⟩, N⟩ := hat1
    refine unpackItemsN_ F N (S.tup Γ.inK F N) rfl (by rw [hn, ← r.length]; simp) fun h' F' N' => ?_
    exact h2.run _ _ { s with heap := h', toks := t } _ _ ⟨⟨m, F', l⟩, N'⟩ r.reverse fun h3 t3 hat3 => hk .next n1 h3 t3 ⟨rfl, hat3⟩ s1

-- the rest
theorem ex_ret {e : Expr} {pos : Pos} {d : PyData} (h1 : Ev Γ ρ e d) : Ex Γ ρ (.Return (some e) pos) (.ret d) := by
  refine ⟨fun Q E s news hat hk => ?_⟩
  refine wpAny_Return_some (h1.run _ _ _ _ hat fun v n1 h t hat1 s1 r1 => ?_)
  obtain ⟨⟨m, F, l⟩, N⟩ := hat1
  exact hk _ n1 h t ⟨v, rfl, ⟨m, F⟩, N, r1⟩ s1
theorem ex_assert {e : Expr} {pos : Pos} (h1 : Ts Γ ρ e true) : Ex Γ ρ (.Assert e none pos) (.next ρ) := by
  refine ⟨fun Q E s news hat hk => ?_⟩
  refine wpAny_Assert_new rfl (h1.run _ _ _ _ hat fun n1 h t hat1 s1 => ?_)
  exact (if_pos rfl).mpr (hk _ n1 h t ⟨rfl, hat1⟩ s1)

theorem exs_nil (h : ∀ q ∈ ρ', ρ.lookup q.1 = some q.2) : Exs Γ ρ [] (.next ρ') := by
  refine ⟨fun Q E s news hat hk => ?_⟩
  obtain ⟨⟨m, F, l⟩, N⟩ := hat
  refine wpAny_execs_nil (hk .next news s.heap s.toks ⟨rfl, ⟨m, F, fun x d e => ?_⟩, N⟩ fun _ h => h)
  have hm : ∀ (l : Rho), l.lookup x = some d → (x, d) ∈ l := by
    intro l
    induction l with
    | nil => intro h; simp at h
    | cons q r ih =>
      intro h
      rw [List.lookup_cons] at h
      by_cases hq : (x == q.1) = true
      · rw [hq] at h
        obtain rfl := Option.some.inj h
        rw [beq_iff_eq.mp hq]
        exact .head _
      · rw [Bool.eq_false_iff.mpr hq] at h
        exact .tail _ (ih h)
  exact l x d (h (x, d) (hm ρ' e))
theorem exs_here : Exs Γ ρ [] (.next ρ) := by
  refine ⟨fun Q E s news hat hk => ?_⟩
  exact wpAny_execs_nil (hk .next news s.heap s.toks ⟨rfl, hat⟩ fun _ h => h)
theorem exs_next {st : Stmt} {rest : List Stmt} {o : Oc} (h1 : Ex Γ ρ st (.next ρ')) (h2 : Exs Γ ρ' rest o) : Exs Γ ρ (st :: rest) o := by
  refine ⟨fun Q E s news hat hk => ?_⟩
  refine wpAny_execs_cons (h1.run _ _ _ _ hat fun f n1 h t hok s1 => ?_)
  obtain ⟨rfl, hat1⟩ := hok
  exact h2.run _ _ { s with heap := h, toks := t } _ hat1 fun f n2 h2 t2 hok s2 => hk f n2 h2 t2 hok fun p hp => s2 p (s1 p hp)
theorem exs_ret {st : Stmt} {rest : List Stmt} {d d' : PyData} (h1 : Ex Γ ρ st (.ret d)) (hd : d = d') : Exs Γ ρ (st :: rest) (.ret d') := by
  subst hd
  refine ⟨fun Q E s news hat hk => ?_⟩
  refine wpAny_execs_cons (h1.run _ _ _ _ hat fun f n1 h t hok s1 => ?_)
  obtain ⟨v, rfl, r⟩ := hok
  exact hk _ n1 h t ⟨v, rfl, r⟩ s1
theorem ex_if {test : Expr} {body orelse : List Stmt} {pos : Pos} {b : Bool} {o : Oc} (h : Ts Γ ρ test b) (h1 : b = true → Exs Γ ρ body o) (h2 : b = false → Exs Γ ρ orelse o) : Ex Γ ρ (.If test body orelse pos) o := by
  refine ⟨fun Q E s news hat hk => ?_⟩
  refine wpAny_If (h.run _ _ _ _ hat fun n1 hh t hat1 s1 => ?_)
  cases b with
  | true => exact (if_pos rfl).mpr ((h1 rfl).run _ _ { s with heap := hh, toks := t } _ hat1 fun f n2 h2 t2 hok s2 => hk f n2 h2 t2 hok fun p hp => s2 p (s1 p hp))
  | false => exact (if_neg Bool.false_ne_true).mpr ((h2 rfl).run _ _ { s with heap := hh, toks := t } _ hat1 fun f n2 h2 t2 hok s2 => hk f n2 h2 t2 hok fun p hp => s2 p (s1 p hp))
theorem ex_ifT {test : Expr} {body orelse : List Stmt} {pos : Pos} {o : Oc} (h : Ts Γ ρ test true) (h1 : Exs Γ ρ body o) : Ex Γ ρ (.If test body orelse pos) o := ex_if h (fun _ => h1) fun h => nomatch h
theorem ex_ifF {test : Expr} {body orelse : List Stmt} {pos : Pos} {o : Oc} (h : Ts Γ ρ test false) (h1 : Exs Γ ρ orelse o) : Ex Γ ρ (.If test body orelse pos) o := ex_if h (fun h => nomatch h) fun _ => h1

theorem exs_while {α : Type} (ρs : α → Rho) (cnd : α → Bool) (nx : α → α) (P : α → Prop) (μ : α → Nat) {test : Expr} {body rest : List Stmt} {pos : Pos} {o : Oc} (a₀ : α) (h0 : P a₀) (hρ : ρ = ρs a₀)
    (ht : ∀ a, P a → Ts Γ (ρs a) test (cnd a)) (hb : ∀ a, P a → cnd a = true → Exs Γ (ρs a) body (.next (ρs (nx a)))) (hP : ∀ a, P a → cnd a = true → P (nx a) ∧ μ (nx a) < μ a)
    (hr : ∀ a, P a → cnd a = false → Exs Γ (ρs a) rest o) : Exs Γ ρ (.While test body [] pos :: rest) o := by
  subst hρ
  refine ⟨fun Q E s news hat hk => ?_⟩
  refine wpAny_execs_cons (wpAny_While ?_)
  refine codeAny_whileLoop (fun n s' => ∃ a news' h' tk', P a ∧ μ a = n ∧ s' = { s with heap := h', toks := tk' } ∧ At Γ (ρs a) news' h' ∧ ∀ p ∈ news, p ∈ news') (fun n s' hI => ?_) (μ a₀) ⟨a₀, news, s.heap, s.toks, h0, rfl, rfl, hat, fun _ h => h⟩
  obtain ⟨a, n1, h', tk', hPa, rfl, rfl, hat1, s1⟩ := hI
  refine (ht a hPa).run _ _ { s with heap := h', toks := tk' } _ hat1 fun n2 h2 t2 hat2 s2 => ?_
  cases hc : cnd a with
  | true =>
    refine (if_pos rfl).mpr ((hb a hPa hc).run _ _ { s with heap := h2, toks := t2 } _ hat2 fun f n3 h3 t3 hok s3 => ?_)
    obtain ⟨rfl, hat3⟩ := hok
    exact ⟨_, (hP a hPa hc).2, nx a, n3, h3, t3, (hP a hPa hc).1, rfl, rfl, hat3, fun p hp => s3 p (s2 p (s1 p hp))⟩
  | false =>
    refine (if_neg Bool.false_ne_true).mpr (wpAny_execs_nil ?_)
    exact (hr a hPa hc).run _ _ { s with heap := h2, toks := t2 } _ hat2 fun f n3 h3 t3 hok s3 => hk f n3 h3 t3 hok fun p hp => s3 p (s2 p (s1 p hp))

-- an item of a tuple, of a list
theorem seqIndex_nat {i n : Nat} (h : i < n) : seqIndex? (i : Int) n = some i := by
  unfold seqIndex?
  have h1 : ¬ ((i : Int) < 0) := by omega
  have h2 : (i : Int) < (n : Int) := by omega
  simp [h1, h2]
theorem ev_item {value slice : Expr} {pos : Pos} {ds : List PyData} {i : Nat} {d : PyData} (h1 : Ev Γ ρ value (.tuple ds)) (h2 : Ev Γ ρ slice (.int (i : Int))) (hd : ds[i]? = some d) (hi : i < 1000)
    (hs : ∀ t k u, subscripted slice false (.ref t) (.int k u) = operate [.ref t, .int k u] (getItem (.ref t) (.int k u)) := by intro _ _ _; with_unfolding_all rfl) : Ev Γ ρ (.Subscript value slice pos) d := by
  refine ⟨fun Q E s news hat hk => ?_⟩
  refine Subscript_ (h1.run _ _ _ _ hat fun v n1 h t hat1 s1 r1 => ?_)
  refine h2.run _ _ _ _ hat1 fun v n2 h t hat2 s2 r2 => ?_
  cases r2
  cases r1 with
  | @tup D vs _ S r =>
    obtain ⟨⟨m, F, l⟩, N⟩ := hat2
    obtain ⟨v, hv, rv⟩ := (r.mono s2).get hd
    have hlt : i < vs.length := by
      rw [r.length]
      exact (List.getElem?_eq_some_iff.mp hd).1
    exact item_tupleT ((S.mono s2).tup Γ.inK F N) (by omega) (by omega) (seqIndex_nat hlt) hv (hk v n2 _ _ ⟨⟨m, F, l⟩, N⟩ (fun p hp => s2 p (s1 p hp)) rv) (hs _ _ _)
theorem ev_itemL {value slice : Expr} {pos : Pos} {ds : List PyData} {i : Int} {d : PyData} (h1 : Ev Γ ρ value (.list ds)) (h2 : Ev Γ ρ slice (.int i)) (h0 : 0 ≤ i) (hd : ds[i.toNat]? = some d) (hi : i < 2 ^ 63)
    (hs : ∀ t k u, subscripted slice false (.ref t) (.int k u) = operate [.ref t, .int k u] (getItem (.ref t) (.int k u)) := by intro _ _ _; with_unfolding_all rfl) : Ev Γ ρ (.Subscript value slice pos) d := by
  refine ⟨fun Q E s news hat hk => ?_⟩
  refine Subscript_ (h1.run _ _ _ _ hat fun v n1 h t hat1 s1 r1 => ?_)
  refine h2.run _ _ _ _ hat1 fun v n2 h t hat2 s2 r2 => ?_
  cases r2
  cases r1 with
  | @lst D vs _ S r =>
    obtain ⟨⟨m, F, l⟩, N⟩ := hat2
    obtain ⟨v, hv, rv⟩ := (r.mono s2).get hd
    refine kba_turn (value' := .Name (Str.ofString "_") default) (fun _ => rfl) ?_
    exact item_listL ((S.mono s2).lst Γ.scr Γ.below.stays F N) h0 hi hv (hk v n2 _ _ ⟨⟨m, F, l⟩, N⟩ (fun p hp => s2 p (s1 p hp)) rv) (hs _ _ _) (fun _ => rfl)

-- built-in functions
theorem ev_bits {e : Expr} {apos pos : Pos} {x : Int} {pl : Sem Bool} (h1 : Ev Γ ρ e (.int x))
    (he : eval (.Call (.Attribute e (Str.ofString "bit_length") apos) [] [] pos) Γ.env = (do
      let ov ← eval e Γ.env
      standAt apos.atName
      let (f, first) ← holding [ov] (getMethod ov (Str.ofString "bit_length") pl)
      callWith pos f first (backTo pos (starEach [] Γ.env)) (backToKw pos (keywordEach [] Γ.env))) := by rfl) : Ev Γ ρ (.Call (.Attribute e (Str.ofString "bit_length") apos) [] [] pos) (.int (Builtin.Int.intBits x)) := by
  refine ⟨fun Q E s news hat hk => ?_⟩
  refine MethodCall_ (h1.run _ _ _ _ hat fun v n1 h t hat1 s1 r1 => ?_) he
  cases r1
  refine getMethod_int_bit_length ?_
  refine callWith_method0 ?_
  exact call_int_bit_length (hk _ n1 _ _ hat1 s1 (.int _ _))

/-- a call of a built-in function -/
structure BFun (Γ : Frm c k cn cs a ccd) (id : String) (ds : List PyData) (out : PyData) : Prop where
  run : ∀ (Q : Value → Shared → Prop) (E : Value → Shared → Prop) (s : Shared) (m : Str → Option Value) (news : Led) (vs : List Value),
    Fr Γ.g Γ.L s.heap m → News Γ.g Γ.L s.heap news → RepL c news vs ds →
    (∀ v news' h' tk', Fr Γ.g Γ.L h' m → News Γ.g Γ.L h' news' → (∀ p ∈ news, p ∈ news') → Rep c news' v out → Q v { s with heap := h', toks := tk' }) →
    wpAny (model Pg c.w) Γ.A (call (.builtin id) vs) Q E s
theorem ev_callB {fn : Str} {id : String} {pf pos : Pos} {e : Expr} {es : List Expr} {ds : List PyData} {out : PyData} (hn : nsIn (Kf c.w) mainGlobals fn = some none) (hv : bootBuiltins fn = some (.builtin id)) (hne : fn ≠ "__name__")
    (ha : Evs Γ ρ pos (e :: es) ds) (hf : BFun Γ id ds out) (hx : (envX cn cs Γ.L a ccd []).kindOf fn = some .globalImplicit := by rfl) (hd : (fn == ("__debug__" : Str)) = false := by decide)
    (he : starEach (e :: es) Γ.env = (false, eval e Γ.env) :: starEach es Γ.env := by rfl) (hplain : (backTo pos (starEach es Γ.env)).any (·.1) = false := by rfl) (hee : ∀ args : List Expr, eval (.Call (.Name fn pf) args [] pos) Γ.env = (do callWith pos (← eval (.Name fn pf) Γ.env) [] (backTo pos (starEach args Γ.env)) (backToKw pos (keywordEach [] Γ.env))) := by intro _; rfl) :
    Ev Γ ρ (.Call (.Name fn pf) (e :: es) [] pos) out := by
  refine ⟨fun Q E s news hat hk => ?_⟩
  obtain ⟨⟨m, F, l⟩, N⟩ := hat
  refine Call_ (nameX_B F Γ.inK (topRead_of Γ.top) hn hv hne ?_ Γ.isFn hx hd) (hee _)
  refine callWith_method1 ?_ he hplain
  refine ha.run _ _ _ _ ⟨⟨m, F, l⟩, N⟩ fun vs n1 h t hat1 s1 r1 => ?_
  obtain ⟨⟨m, F, l⟩, N⟩ := hat1
  exact hf.run _ _ { s with heap := h, toks := t } _ _ _ F N r1 fun v n2 h' tk' F' N' s2 r2 => hk v n2 h' tk' ⟨⟨m, F', l.mono s2⟩, N'⟩ (fun p hp => s2 p (s1 p hp)) r2
theorem bfun_divmod {x y : Int} (h0 : y ≠ 0) (hs : Builtin.Int.intBits y ≤ 9000) : BFun Γ "divmod" [.int x, .int y] (.tuple [.int (x.fdiv y), .int (x.fmod y)]) := by
  refine ⟨fun Q E s m news vs F N r hk => ?_⟩
  cases r with
  | cons r1 r =>
    cases r with
    | cons r2 r =>
      cases r
      cases r1
      cases r2
      exact divmod_N F N h0 (fun h' F' N' => hk _ _ _ _ F' N' (fun p hp => .tail _ hp) (.tup (.inr ⟨_, .head _⟩) (.cons (.int _ _) (.cons (.int _ _) .nil)))) (.inl (PyProof.noPylong_of_log2 (log2_of_bits hs)))
theorem bfun_min {x y : Int} : BFun Γ "min" [.int x, .int y] (.int (if y < x then y else x)) := by
  refine ⟨fun Q E s m news vs F N r hk => ?_⟩
  cases r with
  | cons r1 r =>
    cases r with
    | cons r2 r =>
      cases r
      cases r1
      cases r2
      exact min_two_N rfl F N (fun h' tk F' N' => hk _ _ _ _ F' N' (fun _ h => h) (.int _ _))
theorem ev_callInt {pf pos : Pos} {e : Expr} {x : Int} (hn : nsIn (Kf c.w) mainGlobals (Str.ofString "int") = some none) (hv : bootBuiltins (Str.ofString "int") = some (.type "int"))
    (ha : Evs Γ ρ pos [e] [.int x]) (hx : (envX cn cs Γ.L a ccd []).kindOf (Str.ofString "int") = some .globalImplicit := by rfl)
    (he : starEach [e] Γ.env = (false, eval e Γ.env) :: starEach [] Γ.env := by rfl) (hee : ∀ args : List Expr, eval (.Call (.Name (Str.ofString "int") pf) args [] pos) Γ.env = (do callWith pos (← eval (.Name (Str.ofString "int") pf) Γ.env) [] (backTo pos (starEach args Γ.env)) (backToKw pos (keywordEach [] Γ.env))) := by intro _; rfl) :
    Ev Γ ρ (.Call (.Name (Str.ofString "int") pf) [e] [] pos) (.int x) := by
  refine ⟨fun Q E s news hat hk => ?_⟩
  obtain ⟨⟨m, F, l⟩, N⟩ := hat
  refine Call_ (nameX_B F Γ.inK (topRead_of Γ.top) hn hv (by decide) ?_ Γ.isFn hx (by decide)) (hee _)
  refine Pv.callWith_type1 ?_ he rfl
  refine ha.run _ _ _ _ ⟨⟨m, F, l⟩, N⟩ fun vs n1 h t hat1 s1 r1 => ?_
  cases r1 with
  | cons r1 r =>
    cases r
    cases r1
    exact call_int_int (hk _ n1 h t hat1 s1 (.int _ _))
theorem ev_len {pf pos : Pos} {e : Expr} {ds : List PyData} (hn : nsIn (Kf c.w) mainGlobals (Str.ofString "len") = some none) (hv : bootBuiltins (Str.ofString "len") = some (.builtin "len"))
    (ha : Evs Γ ρ pos [e] [.list ds]) (hsz : ds.length < 2 ^ 60) (hx : (envX cn cs Γ.L a ccd []).kindOf (Str.ofString "len") = some .globalImplicit := by rfl)
    (he : starEach [e] Γ.env = (false, eval e Γ.env) :: starEach [] Γ.env := by rfl) (hee : ∀ args : List Expr, eval (.Call (.Name (Str.ofString "len") pf) args [] pos) Γ.env = (do callWith pos (← eval (.Name (Str.ofString "len") pf) Γ.env) [] (backTo pos (starEach args Γ.env)) (backToKw pos (keywordEach [] Γ.env))) := by intro _; rfl) :
    Ev Γ ρ (.Call (.Name (Str.ofString "len") pf) [e] [] pos) (.int ds.length) := by
  refine ⟨fun Q E s news hat hk => ?_⟩
  obtain ⟨⟨m, F, l⟩, N⟩ := hat
  refine Call_ (nameX_B F Γ.inK (topRead_of Γ.top) hn hv (by decide) ?_ Γ.isFn hx (by decide)) (hee _)
  refine callWith_method1 ?_ he rfl
  refine ha.run _ _ _ _ ⟨⟨m, F, l⟩, N⟩ fun vs n1 h t hat1 s1 r1 => ?_
  cases r1 with
  | cons r1 r =>
    cases r
    cases r1 with
    | @lst D vs _ S r =>
      obtain ⟨⟨m, F, l⟩, N⟩ := hat1
      have hle := r.length
      refine len_list (S.lst Γ.scr Γ.below.stays F N) (by simp; omega) ?_
      have e : (vs.toArray.size : Int) = (ds.length : Int) := by simp [hle]
      rw [e]
      exact hk _ n1 h _ ⟨⟨m, F, l⟩, N⟩ s1 (.int _ _)
end

-- the text's names
section
variable (w : World)
theorem b_divmod : bootBuiltins (Str.ofString "divmod") = some (.builtin "divmod") := boot_divmod
theorem b_len : bootBuiltins (Str.ofString "len") = some (.builtin "len") := boot_len
theorem b_min : bootBuiltins (Str.ofString "min") = some (.builtin "min") := by decide +kernel
theorem b_int : bootBuiltins (Str.ofString "int") = some (.type "int") := by decide +kernel
theorem n_divmod : nsIn (Kf w) mainGlobals (Str.ofString "divmod") = some none := by rfl
theorem n_len : nsIn (Kf w) mainGlobals (Str.ofString "len") = some none := by rfl
theorem n_min : nsIn (Kf w) mainGlobals (Str.ofString "min") = some none := by rfl
theorem n_int : nsIn (Kf w) mainGlobals (Str.ofString "int") = some none := by rfl
theorem n_trailing : nsIn (Kf w) mainGlobals (Str.ofString "trailing") = some (some (.ref 21)) := by rfl
theorem n_law_mod_right : nsIn (Kf w) mainGlobals (Str.ofString "_law_mod_right") = some (some (.ref 216)) := by rfl
theorem k_trailing : keepIn (Kf w) (.ref 21) = true := by rfl
theorem k_law_mod_right : keepIn (Kf w) (.ref 216) = true := by rfl
end

/-- a tuple of four -/
def T4 (x : Int × Int × Int × Int) : PyData := .tuple [.int x.1, .int x.2.1, .int x.2.2.1, .int x.2.2.2]

section
variable (c : Ctx)
theorem r_fzero : Rep c [] (.ref 22) (T4 (0, 0, 0, 0)) := .tup (vs := [_, _, _, _]) (.inl ⟨_, _, _, rfl⟩) (.cons (.int _ _) (.cons (.int _ _) (.cons (.int _ _) (.cons (.int _ _) .nil))))
theorem r_fone : Rep c [] (.ref 23) (T4 (0, 1, 0, 1)) := .tup (vs := [_, _, _, _]) (.inl ⟨_, _, _, rfl⟩) (.cons (.int _ _) (.cons (.int _ _) (.cons (.int _ _) (.cons (.int _ _) .nil))))
theorem r_fnone : Rep c [] (.ref 24) (T4 (1, 1, 0, 1)) := .tup (vs := [_, _, _, _]) (.inl ⟨_, _, _, rfl⟩) (.cons (.int _ _) (.cons (.int _ _) (.cons (.int _ _) (.cons (.int _ _) .nil))))
theorem r_fnan : Rep c [] (.ref 25) (T4 (0, 0, -123, -1)) := .tup (vs := [_, _, _, _]) (.inl ⟨_, _, _, rfl⟩) (.cons (.int _ _) (.cons (.int _ _) (.cons (.int _ _) (.cons (.int _ _) .nil))))
theorem r_finf : Rep c [] (.ref 26) (T4 (0, 0, -456, -2)) := .tup (vs := [_, _, _, _]) (.inl ⟨_, _, _, rfl⟩) (.cons (.int _ _) (.cons (.int _ _) (.cons (.int _ _) (.cons (.int _ _) .nil))))
theorem r_fninf : Rep c [] (.ref 27) (T4 (1, 0, -789, -3)) := .tup (vs := [_, _, _, _]) (.inl ⟨_, _, _, rfl⟩) (.cons (.int _ _) (.cons (.int _ _) (.cons (.int _ _) (.cons (.int _ _) .nil))))
end

section
variable {c : Ctx} {k : Nat} {cn : Str} {cs : Scope} {a : Addr} {ccd : Value} {Γ : Frm c k cn cs a ccd} {ρ ρ' : Rho}

theorem lk {x : Str} {d d' : PyData} (h : ρ.lookup x = some d) (e : d = d') : ρ.lookup x = some d' := e ▸ h
theorem lkI {x : Str} {i j : Int} (h : ρ.lookup x = some (.int i)) (e : i = j) : ρ.lookup x = some (.int j) := e ▸ h
/-- an if whose ways meet -/
theorem exs_join {test : Expr} {body orelse rest : List Stmt} {pos : Pos} {b : Bool} {o : Oc} (ρ' : Rho) (h : Ts Γ ρ test b) (h1 : b = true → Exs Γ ρ body (.next ρ')) (h2 : b = false → Exs Γ ρ orelse (.next ρ')) (h3 : Exs Γ ρ' rest o) : Exs Γ ρ (.If test body orelse pos :: rest) o :=
  exs_next (ex_if h h1 h2) h3
theorem exs_forget (ρ' : Rho) {sts : List Stmt} {o : Oc} (h : ∀ q ∈ ρ', ρ.lookup q.1 = some q.2) (h2 : Exs Γ ρ' sts o) : Exs Γ ρ sts o := by
  refine ⟨fun Q E s news hat hk => h2.run _ _ _ _ ?_ hk⟩
  obtain ⟨⟨m, F, l⟩, N⟩ := hat
  refine ⟨⟨m, F, fun x d e => ?_⟩, N⟩
  have hm : ∀ (l : Rho), l.lookup x = some d → (x, d) ∈ l := by
    intro l
    induction l with
    | nil => intro h; simp at h
    | cons q r ih =>
      intro h
      rw [List.lookup_cons] at h
      by_cases hq : (x == q.1) = true
      · rw [hq] at h
        obtain rfl := Option.some.inj h
        rw [beq_iff_eq.mp hq]
        exact .head _
      · rw [Bool.eq_false_iff.mpr hq] at h
        exact .tail _ (ih h)
  exact l x d (h (x, d) (hm ρ' e))

theorem Cmp.isNone : Cmp Γ .Is .none .none true := ⟨fun _ _ _ _ _ _ _ _ _ r1 r2 hq => by
  cases r1
  cases r2
  exact is_none_none (hq _)⟩
theorem Cmp.isBool {b : Bool} : Cmp Γ .Is (.bool b) .none false := ⟨fun _ _ _ _ _ _ _ _ _ r1 r2 hq => by
  cases r1
  cases r2
  exact is_bool_none (hq _)⟩

theorem rstr_n (r : Rn) : (r.str == Str.ofString "n") = decide (r = .n) := by cases r <;> decide
theorem rstr_f (r : Rn) : (r.str == Str.ofString "f") = decide (r = .f) := by cases r <;> decide
theorem rstr_c (r : Rn) : (r.str == Str.ofString "c") = decide (r = .c) := by cases r <;> decide
theorem rstr_d (r : Rn) : (r.str == Str.ofString "d") = decide (r = .d) := by cases r <;> decide
theorem rstr_u (r : Rn) : (r.str == Str.ofString "u") = decide (r = .u) := by cases r <;> decide

/-- shifts_down[rnd][sign] -/
theorem ev_shifts {x y : Str} {p1 p2 p3 p4 p5 : Pos} (r : Rn) (hr : r ≠ .n) {sg : Int} (hs : sg = 0 ∨ sg = 1) (h1 : ρ.lookup x = some (.str r.str)) (h2 : ρ.lookup y = some (.int sg)) (hx1 : (envX cn cs Γ.L a ccd []).kindOf (Str.ofString "shifts_down") = some .globalImplicit := by rfl)
    (hx2 : (envX cn cs Γ.L a ccd []).kindOf x = some .local := by rfl) (hx3 : (envX cn cs Γ.L a ccd []).kindOf y = some .local := by rfl) (hd2 : (x == ("__debug__" : Str)) = false := by decide) (hd3 : (y == ("__debug__" : Str)) = false := by decide) :
    Ev Γ ρ (.Subscript (.Subscript (.Name (Str.ofString "shifts_down") p1) (.Name x p2) p3) (.Name y p4) p5) (.int (sdF r sg)) := by
  refine ⟨fun Q E s news hat hk => ?_⟩
  obtain ⟨⟨m, F, l⟩, N⟩ := hat
  obtain ⟨v1, hv1, r1⟩ := l _ _ h1
  obtain ⟨v2, hv2, r2⟩ := l _ _ h2
  cases r1
  cases r2
  rename_i t1 t2
  have hat : At Γ ρ news s.heap := ⟨⟨m, F, l⟩, N⟩
  refine Subscript_ (Subscript_ (nameX_K (v := .ref 35) F Γ.inK (topRead_of Γ.top) rfl ?_ Γ.isFn hx1 (by decide)))
  refine nameX_L F hv1 ?_ Γ.isFn hx2 hd2
  have key : ∀ D : Addr, nsIn (Kf c.w) 35 r.str = some (some (.ref D)) → (∃ i j t u, sdF r sg = (if sg = 0 then i else j) ∧ (Kf c.w).lookup D = some ⟨.type "tuple", none, .seq #[.int i t, .int j u] 0, #[]⟩) →
      wpAny (model Pg c.w) Γ.A (subscriptTail (.Name (Str.ofString "shifts_down") p1) (.Name x p2) (.ref 35) (.str r.str t1)) (fun v s₁ => wpAny (model Pg c.w) Γ.A (eval (.Name y p4) Γ.env) (fun i s₂ => wpAny (model Pg c.w) Γ.A (subscriptTail (.Subscript (.Name (Str.ofString "shifts_down") p1) (.Name x p2) p3) (.Name y p4) v i) Q E s₂) E s₁) E s := by
    rintro D hD ⟨i, j, t, u, e, hl⟩
    refine topItem_K (v := .ref D) F Γ.inK (K := Kf c.w) rfl ?_ hD ?_
    · exact ⟨⟨_, _, rfl, rfl⟩, ⟨_, _, rfl, rfl⟩, ⟨_, _, rfl, rfl⟩, ⟨_, _, rfl, rfl⟩, True.intro⟩
    · refine nameX_L F hv2 ?_ Γ.isFn hx3 hd3
      rcases hs with rfl | rfl
      · refine topTup_K (l := [.int i t, .int j u]) F Γ.inK hl (by decide) (by decide) (j := 0) rfl rfl ?_
        rw [if_pos rfl] at e
        exact hk _ news _ _ hat (fun _ h => h) (e ▸ .int _ _)
      · refine topTup_K (l := [.int i t, .int j u]) F Γ.inK hl (by decide) (by decide) (j := 1) rfl rfl ?_
        rw [if_neg (by decide)] at e
        exact hk _ news _ _ hat (fun _ h => h) (e ▸ .int _ _)
  cases r with
  | n => exact absurd rfl hr
  | f => exact key 36 rfl ⟨_, _, _, _, by rcases hs with rfl | rfl <;> rfl, rfl⟩
  | c => exact key 37 rfl ⟨_, _, _, _, by rcases hs with rfl | rfl <;> rfl, rfl⟩
  | d => exact key 38 rfl ⟨1, 1, _, _, by rcases hs with rfl | rfl <;> rfl, rfl⟩
  | u => exact key 39 rfl ⟨0, 0, _, _, by rcases hs with rfl | rfl <;> rfl, rfl⟩
end

theorem n_fzero (w : World) : nsIn (Kf w) mainGlobals (Str.ofString "fzero") = some (some (.ref 22)) := by rfl
theorem n_fone (w : World) : nsIn (Kf w) mainGlobals (Str.ofString "fone") = some (some (.ref 23)) := by rfl
theorem n_fnone (w : World) : nsIn (Kf w) mainGlobals (Str.ofString "fnone") = some (some (.ref 24)) := by rfl
theorem n_fnan (w : World) : nsIn (Kf w) mainGlobals (Str.ofString "fnan") = some (some (.ref 25)) := by rfl
theorem n_finf (w : World) : nsIn (Kf w) mainGlobals (Str.ofString "finf") = some (some (.ref 26)) := by rfl
theorem n_fninf (w : World) : nsIn (Kf w) mainGlobals (Str.ofString "fninf") = some (some (.ref 27)) := by rfl
theorem n_MPZ_ONE (w : World) : nsIn (Kf w) mainGlobals (Str.ofString "MPZ_ONE") = some (some (.int 1 189)) := by rfl
theorem n_round_nearest (w : World) : nsIn (Kf w) mainGlobals (Str.ofString "round_nearest") = some (some (.str (Str.ofString "n") 202)) := by rfl
theorem n_round_floor (w : World) : nsIn (Kf w) mainGlobals (Str.ofString "round_floor") = some (some (.str (Str.ofString "f") 204)) := by rfl
theorem n_round_ceiling (w : World) : nsIn (Kf w) mainGlobals (Str.ofString "round_ceiling") = some (some (.str (Str.ofString "c") 206)) := by rfl
theorem n_round_up (w : World) : nsIn (Kf w) mainGlobals (Str.ofString "round_up") = some (some (.str (Str.ofString "u") 208)) := by rfl
theorem n_round_down (w : World) : nsIn (Kf w) mainGlobals (Str.ofString "round_down") = some (some (.str (Str.ofString "d") 210)) := by rfl
theorem n_round_fast (w : World) : nsIn (Kf w) mainGlobals (Str.ofString "round_fast") = some (some (.str (Str.ofString "d") 210)) := by rfl
theorem n_round_int (w : World) : nsIn (Kf w) mainGlobals (Str.ofString "round_int") = some (some (.ref 34)) := by rfl
theorem k_round_int (w : World) : keepIn (Kf w) (.ref 34) = true := by rfl
theorem n_normalize0 (w : World) : nsIn (Kf w) mainGlobals (Str.ofString "_normalize") = some (some (.ref 46)) := by rfl
theorem k_normalize0 (w : World) : keepIn (Kf w) (.ref 46) = true := by rfl
theorem n_normalize (w : World) : nsIn (Kf w) mainGlobals (Str.ofString "normalize") = some (some (.ref 53)) := by rfl
theorem k_normalize (w : World) : keepIn (Kf w) (.ref 53) = true := by rfl
theorem n_to_man_exp (w : World) : nsIn (Kf w) mainGlobals (Str.ofString "to_man_exp") = some (some (.ref 61)) := by rfl
theorem k_to_man_exp (w : World) : keepIn (Kf w) (.ref 61) = true := by rfl
theorem n_to_int (w : World) : nsIn (Kf w) mainGlobals (Str.ofString "to_int") = some (some (.ref 69)) := by rfl
theorem k_to_int (w : World) : keepIn (Kf w) (.ref 69) = true := by rfl
theorem n_mpf_round_int (w : World) : nsIn (Kf w) mainGlobals (Str.ofString "mpf_round_int") = some (some (.ref 76)) := by rfl
theorem k_mpf_round_int (w : World) : keepIn (Kf w) (.ref 76) = true := by rfl
theorem n_mpf_floor (w : World) : nsIn (Kf w) mainGlobals (Str.ofString "mpf_floor") = some (some (.ref 84)) := by rfl
theorem k_mpf_floor (w : World) : keepIn (Kf w) (.ref 84) = true := by rfl
theorem n_mpf_ceil (w : World) : nsIn (Kf w) mainGlobals (Str.ofString "mpf_ceil") = some (some (.ref 92)) := by rfl
theorem k_mpf_ceil (w : World) : keepIn (Kf w) (.ref 92) = true := by rfl
theorem n_mpf_nint (w : World) : nsIn (Kf w) mainGlobals (Str.ofString "mpf_nint") = some (some (.ref 100)) := by rfl
theorem k_mpf_nint (w : World) : keepIn (Kf w) (.ref 100) = true := by rfl
theorem n_mpf_frac (w : World) : nsIn (Kf w) mainGlobals (Str.ofString "mpf_frac") = some (some (.ref 108)) := by rfl
theorem k_mpf_frac (w : World) : keepIn (Kf w) (.ref 108) = true := by rfl
theorem n_to_rational (w : World) : nsIn (Kf w) mainGlobals (Str.ofString "to_rational") = some (some (.ref 115)) := by rfl
theorem k_to_rational (w : World) : keepIn (Kf w) (.ref 115) = true := by rfl
theorem n_to_fixed (w : World) : nsIn (Kf w) mainGlobals (Str.ofString "to_fixed") = some (some (.ref 122)) := by rfl
theorem k_to_fixed (w : World) : keepIn (Kf w) (.ref 122) = true := by rfl
theorem n_mpf_pos (w : World) : nsIn (Kf w) mainGlobals (Str.ofString "mpf_pos") = some (some (.ref 130)) := by rfl
theorem k_mpf_pos (w : World) : keepIn (Kf w) (.ref 130) = true := by rfl
theorem n_mpf_neg (w : World) : nsIn (Kf w) mainGlobals (Str.ofString "mpf_neg") = some (some (.ref 138)) := by rfl
theorem k_mpf_neg (w : World) : keepIn (Kf w) (.ref 138) = true := by rfl
theorem n_mpf_add (w : World) : nsIn (Kf w) mainGlobals (Str.ofString "mpf_add") = some (some (.ref 146)) := by rfl
theorem k_mpf_add (w : World) : keepIn (Kf w) (.ref 146) = true := by rfl
theorem n_mpf_sub (w : World) : nsIn (Kf w) mainGlobals (Str.ofString "mpf_sub") = some (some (.ref 154)) := by rfl
theorem k_mpf_sub (w : World) : keepIn (Kf w) (.ref 154) = true := by rfl
theorem n_mpf_mod (w : World) : nsIn (Kf w) mainGlobals (Str.ofString "mpf_mod") = some (some (.ref 162)) := by rfl
theorem k_mpf_mod (w : World) : keepIn (Kf w) (.ref 162) = true := by rfl
theorem n_law_mixed (w : World) : nsIn (Kf w) mainGlobals (Str.ofString "_law_mixed") = some (some (.ref 169)) := by rfl
theorem k_law_mixed (w : World) : keepIn (Kf w) (.ref 169) = true := by rfl
theorem n_law_raw (w : World) : nsIn (Kf w) mainGlobals (Str.ofString "_law_raw") = some (some (.ref 176)) := by rfl
theorem k_law_raw (w : World) : keepIn (Kf w) (.ref 176) = true := by rfl
theorem n_law_worth (w : World) : nsIn (Kf w) mainGlobals (Str.ofString "_law_worth") = some (some (.ref 183)) := by rfl
theorem k_law_worth (w : World) : keepIn (Kf w) (.ref 183) = true := by rfl
theorem n_law_rounded (w : World) : nsIn (Kf w) mainGlobals (Str.ofString "_law_rounded") = some (some (.ref 190)) := by rfl
theorem k_law_rounded (w : World) : keepIn (Kf w) (.ref 190) = true := by rfl
theorem n_law_whole (w : World) : nsIn (Kf w) mainGlobals (Str.ofString "_law_whole") = some (some (.ref 197)) := by rfl
theorem k_law_whole (w : World) : keepIn (Kf w) (.ref 197) = true := by rfl
theorem n_law_error (w : World) : nsIn (Kf w) mainGlobals (Str.ofString "_law_error") = some (some (.ref 204)) := by rfl
theorem k_law_error (w : World) : keepIn (Kf w) (.ref 204) = true := by rfl
theorem n_law_others_right (w : World) : nsIn (Kf w) mainGlobals (Str.ofString "_law_others_right") = some (some (.ref 209)) := by rfl
theorem k_law_others_right (w : World) : keepIn (Kf w) (.ref 209) = true := by rfl

section
variable {c : Ctx} {k : Nat} {cn : Str} {cs : Scope} {a : Addr} {ccd : Value} {Γ : Frm c k cn cs a ccd} {ρ ρ' : Rho} {pos : Pos}
theorem e_fzero (hx : (envX cn cs Γ.L a ccd []).kindOf (Str.ofString "fzero") = some .globalImplicit) : Ev Γ ρ (.Name (Str.ofString "fzero") pos) (T4 (0, 0, 0, 0)) := ev_global (n_fzero c.w) (r_fzero c) hx
theorem e_fone (hx : (envX cn cs Γ.L a ccd []).kindOf (Str.ofString "fone") = some .globalImplicit) : Ev Γ ρ (.Name (Str.ofString "fone") pos) (T4 (0, 1, 0, 1)) := ev_global (n_fone c.w) (r_fone c) hx
theorem e_fnone (hx : (envX cn cs Γ.L a ccd []).kindOf (Str.ofString "fnone") = some .globalImplicit) : Ev Γ ρ (.Name (Str.ofString "fnone") pos) (T4 (1, 1, 0, 1)) := ev_global (n_fnone c.w) (r_fnone c) hx
theorem e_fnan (hx : (envX cn cs Γ.L a ccd []).kindOf (Str.ofString "fnan") = some .globalImplicit) : Ev Γ ρ (.Name (Str.ofString "fnan") pos) (T4 (0, 0, -123, -1)) := ev_global (n_fnan c.w) (r_fnan c) hx
theorem e_finf (hx : (envX cn cs Γ.L a ccd []).kindOf (Str.ofString "finf") = some .globalImplicit) : Ev Γ ρ (.Name (Str.ofString "finf") pos) (T4 (0, 0, -456, -2)) := ev_global (n_finf c.w) (r_finf c) hx
theorem e_fninf (hx : (envX cn cs Γ.L a ccd []).kindOf (Str.ofString "fninf") = some .globalImplicit) : Ev Γ ρ (.Name (Str.ofString "fninf") pos) (T4 (1, 0, -789, -3)) := ev_global (n_fninf c.w) (r_fninf c) hx
theorem e_MPZ_ONE (hx : (envX cn cs Γ.L a ccd []).kindOf (Str.ofString "MPZ_ONE") = some .globalImplicit) : Ev Γ ρ (.Name (Str.ofString "MPZ_ONE") pos) (.int 1) := ev_global (n_MPZ_ONE c.w) (.int _ _) hx
theorem e_round_nearest (hx : (envX cn cs Γ.L a ccd []).kindOf (Str.ofString "round_nearest") = some .globalImplicit) : Ev Γ ρ (.Name (Str.ofString "round_nearest") pos) (.str (Str.ofString "n")) := ev_global (n_round_nearest c.w) (.str _ _) hx
theorem e_round_floor (hx : (envX cn cs Γ.L a ccd []).kindOf (Str.ofString "round_floor") = some .globalImplicit) : Ev Γ ρ (.Name (Str.ofString "round_floor") pos) (.str (Str.ofString "f")) := ev_global (n_round_floor c.w) (.str _ _) hx
theorem e_round_ceiling (hx : (envX cn cs Γ.L a ccd []).kindOf (Str.ofString "round_ceiling") = some .globalImplicit) : Ev Γ ρ (.Name (Str.ofString "round_ceiling") pos) (.str (Str.ofString "c")) := ev_global (n_round_ceiling c.w) (.str _ _) hx
theorem e_round_up (hx : (envX cn cs Γ.L a ccd []).kindOf (Str.ofString "round_up") = some .globalImplicit) : Ev Γ ρ (.Name (Str.ofString "round_up") pos) (.str (Str.ofString "u")) := ev_global (n_round_up c.w) (.str _ _) hx
theorem e_round_down (hx : (envX cn cs Γ.L a ccd []).kindOf (Str.ofString "round_down") = some .globalImplicit) : Ev Γ ρ (.Name (Str.ofString "round_down") pos) (.str (Str.ofString "d")) := ev_global (n_round_down c.w) (.str _ _) hx
theorem e_round_fast (hx : (envX cn cs Γ.L a ccd []).kindOf (Str.ofString "round_fast") = some .globalImplicit) : Ev Γ ρ (.Name (Str.ofString "round_fast") pos) (.str (Str.ofString "d")) := ev_global (n_round_fast c.w) (.str _ _) hx
theorem e_round_nearest' (hx : (envX cn cs Γ.L a ccd []).kindOf (Str.ofString "round_nearest") = some .globalImplicit) : Ev Γ ρ (.Name (Str.ofString "round_nearest") pos) (.str Rn.n.str) := ev_global (n_round_nearest c.w) (.str _ _) hx
theorem e_round_floor' (hx : (envX cn cs Γ.L a ccd []).kindOf (Str.ofString "round_floor") = some .globalImplicit) : Ev Γ ρ (.Name (Str.ofString "round_floor") pos) (.str Rn.f.str) := ev_global (n_round_floor c.w) (.str _ _) hx
theorem e_round_ceiling' (hx : (envX cn cs Γ.L a ccd []).kindOf (Str.ofString "round_ceiling") = some .globalImplicit) : Ev Γ ρ (.Name (Str.ofString "round_ceiling") pos) (.str Rn.c.str) := ev_global (n_round_ceiling c.w) (.str _ _) hx
end

section
variable {c : Ctx} {k : Nat} {cn : Str} {cs : Scope} {a : Addr} {ccd : Value} {Γ : Frm c k cn cs a ccd} {ρ ρ' : Rho}

/-- the ledger without one place -/
def Off (I : Addr) (news : Led) : Led := news.filter fun p => decide (p.1 ≠ I)
theorem mem_off {I : Addr} {news : Led} {p : Addr × Obj} : p ∈ Off I news ↔ p ∈ news ∧ p.1 ≠ I := by
  unfold Off
  rw [List.mem_filter, decide_eq_true_eq]
section
variable {news : Led} {g h : Heap} {L I : Addr} {o : Obj}
theorem SeeT.off (N : News g L h news) (ho : h.get? I = some o) (hc : o.cls = .type "list_iterator") {D : Addr} {items : Array Value} (S : SeeT c news D items) : SeeT c (Off I news) D items := by
  rcases S with S | ⟨n, hm⟩
  · exact .inl S
  · refine .inr ⟨n, mem_off.mpr ⟨hm, fun e => ?_⟩⟩
    have := N.get hm
    have e' : D = I := e
    rw [e', ho] at this
    obtain rfl := Option.some.inj this
    exact absurd hc (by intro x; exact absurd (Value.type.inj x) (by decide))
theorem SeeL.off (N : News g L h news) (ho : h.get? I = some o) (hc : o.cls = .type "list_iterator") {D : Addr} {items : Array Value} (S : SeeL c news D items) : SeeL c (Off I news) D items := by
  rcases S with S | ⟨n, hm⟩
  · exact .inl S
  · refine .inr ⟨n, mem_off.mpr ⟨hm, fun e => ?_⟩⟩
    have := N.get hm
    have e' : D = I := e
    rw [e', ho] at this
    obtain rfl := Option.some.inj this
    exact absurd hc (by intro x; exact absurd (Value.type.inj x) (by decide))
mutual
theorem Rep.off (N : News g L h news) (ho : h.get? I = some o) (hc : o.cls = .type "list_iterator") : ∀ {v : Value} {d : PyData}, Rep c news v d → Rep c (Off I news) v d
  | _, _, .none => .none
  | _, _, .bool b => .bool b
  | _, _, .int i t => .int i t
  | _, _, .str x t => .str x t
  | _, _, .tup S r => .tup (S.off N ho hc) (RepL.off N ho hc r)
  | _, _, .lst S r => .lst (S.off N ho hc) (RepL.off N ho hc r)
theorem RepL.off (N : News g L h news) (ho : h.get? I = some o) (hc : o.cls = .type "list_iterator") : ∀ {vs : List Value} {ds : List PyData}, RepL c news vs ds → RepL c (Off I news) vs ds
  | _, _, .nil => .nil
  | _, _, .cons a r => .cons (Rep.off N ho hc a) (RepL.off N ho hc r)
end
end

/-- one value given to one place -/
structure AsgT (Γ : Frm c k cn cs a ccd) (ρ : Rho) (target : Expr) (d : PyData) (ρ' : Rho) : Prop where
  run : ∀ (Q : Unit → Shared → Prop) (E : Value → Shared → Prop) (s : Shared) (news : Led) (v : Value), At Γ ρ news s.heap → Rep c news v d →
    (∀ h' tk', At Γ ρ' news h' → Q () { s with heap := h', toks := tk' }) → wpAny (model Pg c.w) Γ.A (assign target Γ.env v) Q E s
theorem asgT_tup {elts : List Expr} {n : Nat} {pos : Pos} {ds : List PyData} (h : Asg Γ ρ ((assignEach elts Γ.env).map (·.2)) ds ρ') (hn : (assignEach elts Γ.env).length = ds.length) (hstar : (assignEach elts Γ.env).findIdx? (·.1) = none := by rfl) : AsgT Γ ρ (.Tuple elts n pos) (.tuple ds) ρ' := by
  refine ⟨fun Q E s news v hat r hk => ?_⟩
  cases r with
  | @tup D vs _ S r =>
    obtain ⟨⟨m, F, l⟩, N⟩ := hat
    refine unpackN_ F N (S.tup Γ.inK F N) rfl (by rw [hn, ← r.length]; simp) hstar fun h' F' N' => ?_
    exact h.run _ _ { s with heap := h' } _ _ ⟨⟨m, F', l⟩, N'⟩ r fun h3 t3 hat3 => hk h3 t3 hat3

theorem ex_for {elts : List Expr} {nn : Nat} {tpos pos : Pos} {iter : Expr} {body : List Stmt} {ds : List PyData} (ρt : Nat → Rho) (h1 : Ev Γ ρ iter (.list ds)) (hA : ∀ i d, ds[i]? = some d → AsgT Γ ρ (.Tuple elts nn tpos) d (ρt i) ∧ ∃ es, d = .tuple es) (hB : ∀ i d, ds[i]? = some d → Exs Γ (ρt i) body (.next ρ))
    (hsf : ∀ x, foldedSetIterable iter Γ.env x = pure x := by intro _; rfl) : Ex Γ ρ (.For (.Tuple elts nn tpos) iter body [] pos) (.next ρ) := by
  refine ⟨fun Q E s news hat hk => ?_⟩
  refine wpAny_For (h1.run _ _ _ _ hat fun v n1 h t hat1 s1 r1 => ?_) hsf
  cases r1 with
  | @lst ax vs _ S r =>
    obtain ⟨⟨m, F, l⟩, N⟩ := hat1
    refine wpAny_pyIter_list (S.lst Γ.scr Γ.below.stays F N) ?_
    dsimp only
    have hI₀ : Γ.g.get? h.objs.size = none := next_is_new F
    have hIL : h.objs.size ≠ Γ.L := Nat.ne_of_gt F.ns.lt
    generalize hI : h.objs.size = I at *
    have up : ∀ b o, h.get? b = some o → (h.push { cls := .type "list_iterator", data := .fields #[.ref ax, .int 0 0] }).get? b = some o := fun b o e => Heap.get?_push_of_some _ e
    have N1 : News Γ.g Γ.L (h.push { cls := .type "list_iterator", data := .fields #[.ref ax, .int 0 0] }) n1 := N.grown up
    have hnI : ∀ p ∈ n1, p.1 ≠ I := fun p hp => Nat.ne_of_lt (hI ▸ Heap.lt_size (N p hp).1)
    refine codeAny_forLoop_any (fun n s' => ∃ i n2 h2 t2, i ≤ vs.length ∧ n = vs.length - i ∧ s' = { s with heap := h2, toks := t2 } ∧ At Γ ρ n2 h2 ∧ (∀ p ∈ n1, p ∈ n2) ∧ (∀ p ∈ n2, p.1 ≠ I) ∧ h2.IsListIter I ax i) (fun n s' hInv => ?_) vs.length
      ⟨0, n1, _, t, Nat.zero_le _, rfl, rfl, ⟨⟨m, F.keeps up, l⟩, N1⟩, fun _ h => h, hnI, ⟨_, hI ▸ Heap.get?_push_size _ rfl, rfl, rfl⟩⟩
    obtain ⟨i, n2, h2, t2, hi, rfl, rfl, hat2, s2, hn2, hit⟩ := hInv
    obtain ⟨⟨m2, F2, l2⟩, N2⟩ := hat2
    have S2 := S.mono s2
    have r2 := r.mono s2
    have hl2 := S2.lst Γ.scr Γ.below.stays F2 N2
    by_cases hlt : i < vs.length
    · have hx : vs.toArray[i]? = some vs[i] := by simp [hlt]
      refine wpAny_pyNext_list_item hit hl2 hx fun h3 hit3 hs3 => ?_
      have F3 : Fr Γ.g Γ.L h3 m2 := F2.change hs3 hIL hI₀
      have N3 : News Γ.g Γ.L h3 n2 := fun p hp => ⟨hs3.extBut _ _ (hn2 p hp) (N2 p hp).1, (N2 p hp).2⟩
      have hlen : i < ds.length := by rw [← r.length]; exact hlt
      obtain ⟨v', hv', rv⟩ := r2.get (List.getElem?_eq_getElem hlen)
      have hvv : v' = vs[i] := by
        rw [List.getElem?_eq_getElem hlt] at hv'
        exact (Option.some.inj hv').symm
      subst hvv
      obtain ⟨hAi, es, hes⟩ := hA i _ (List.getElem?_eq_getElem hlen)
      have hBi := hB i _ (List.getElem?_eq_getElem hlen)
      obtain ⟨oI, hoI, hcI, hdI⟩ := id hit3
      have N4 : News Γ.g Γ.L h3 ((I, oI) :: n2) := fun p hp => by
        rcases List.mem_cons.mp hp with rfl | hp
        · exact ⟨hoI, hIL, hI₀⟩
        · exact N3 p hp
      have hgo : ∀ (Q' : Unit → Shared → Prop) (E' : Value → Shared → Prop), Q' () { s with heap := h3, toks := t2 } → wpAny (model Pg c.w) Γ.A (letOwnedTupleGo (.Tuple elts nn tpos) (.ref I) vs[i]) Q' E' { s with heap := h3, toks := t2 } := by
        intro Q' E' hq
        rw [hes] at rv
        generalize vs[i] = vv at *
        cases rv
        exact wpAny_letOwnedTupleGo_listiter hit3 hq
      refine hgo _ _ ?_
      refine hAi.run _ _ { s with heap := h3, toks := t2 } ((I, oI) :: n2) _ ⟨⟨m2, F3, l2.mono fun p hp => .tail _ hp⟩, N4⟩ (rv.mono fun p hp => .tail _ hp) fun h4 t4 hat4 => ?_
      refine hBi.run _ _ { s with heap := h4, toks := t4 } _ hat4 fun f n5 h5 t5 hok s5 => ?_
      obtain ⟨rfl, ⟨m5, F5, l5⟩, N5⟩ := hok
      have hmI := s5 (I, oI) (.head _)
      have hgI := N5.get hmI
      refine ⟨vs.length - (i + 1), by omega, i + 1, Off I n5, h5, t5, by omega, rfl, rfl, ⟨⟨m5, F5, fun x d e => ?_⟩, fun p hp => N5 p (mem_off.mp hp).1⟩, fun p hp => ?_, fun p hp => (mem_off.mp hp).2, ⟨oI, hgI, hcI, hdI⟩⟩
      · obtain ⟨v, q1, q2⟩ := l5 x d e
        exact ⟨v, q1, q2.off N5 hgI hcI⟩
      · exact mem_off.mpr ⟨s5 p (.tail _ (s2 p hp)), hnI p hp⟩
    · obtain rfl : i = vs.length := by omega
      refine wpAny_pyNext_list_end rfl hit hl2 (by simp) fun h3 he3 => ?_
      refine wpAny_execs_nil ?_
      have hk3 : ∀ b o, b ∉ [I] → h2.get? b = some o → h3.get? b = some o := fun b o hb e => he3 b o (by simpa using hb) e
      have F3 : Fr Γ.g Γ.L h3 m2 := LCg.fr_but F2 hk3 (Ne.symm hIL) hI₀
      have N3 : News Γ.g Γ.L h3 n2 := LCg.news_but N2 hk3 hn2
      exact hk .next n2 h3 t2 ⟨rfl, ⟨m2, F3, l2⟩, N3⟩ fun p hp => s2 p (s1 p hp)
end

section
variable {prog : Program} {w : World} {A : Around} {E : Value → Shared → Prop} {R : Result → Shared → Prop} {s : Shared}
theorem compTurn2_0 (elt iter1 iter2 : Expr) (x y : Str) (px py : Pos) (scope : Scope) (pos : Pos) (it acc : Value) (env : Env) :
    compTurn (.ListComp elt [⟨.Name x px, iter1, [], 0⟩, ⟨.Name y py, iter2, [], 0⟩] scope pos) 0 it acc env = (standAt iter1.pos >>= fun _ => pyNext it >>= fun r => match r with
      | none => pure (.done .next)
      | some v => letOwnedTupleGo (.Name x px) it v >>= fun _ => assign (.Name x px) env v >>= fun _ =>
        eval iter2 env >>= fun xv => standAt iter2.pos >>= fun _ => foldedSetIterable iter2 env xv >>= fun xv => holding [xv] (pyIter xv) >>= fun it2 =>
          runOwn (.compStart (.ListComp elt [⟨.Name x px, iter1, [], 0⟩, ⟨.Name y py, iter2, [], 0⟩] scope pos) 1 it2 acc env) env >>= fun _ =>
            again (.compLoop (.ListComp elt [⟨.Name x px, iter1, [], 0⟩, ⟨.Name y py, iter2, [], 0⟩] scope pos) 0 it acc env)) := by rfl
theorem compTurn2_1 (elt iter1 iter2 : Expr) (x y : Str) (px py : Pos) (scope : Scope) (pos : Pos) (it acc : Value) (env : Env) :
    compTurn (.ListComp elt [⟨.Name x px, iter1, [], 0⟩, ⟨.Name y py, iter2, [], 0⟩] scope pos) 1 it acc env = (standAt iter2.pos >>= fun _ => pyNext it >>= fun r => match r with
      | none => pure (.done .next)
      | some v => letOwnedTupleGo (.Name y py) it v >>= fun _ => assign (.Name y py) env v >>= fun _ =>
        (eval elt env >>= fun x => call (.builtin "list.append") [acc, x] >>= fun _ => pure ()) >>= fun _ =>
            again (.compLoop (.ListComp elt [⟨.Name x px, iter1, [], 0⟩, ⟨.Name y py, iter2, [], 0⟩] scope pos) 1 it acc env)) := by rfl

theorem compLoop2_0 {elt iter1 iter2 : Expr} {x y : Str} {px py : Pos} {scope : Scope} {pos : Pos} {it acc : Value} {env : Env} (I : Nat → Shared → Prop)
    (turn : ∀ n s (E : Value → Shared → Prop), I n s → wpAny (model prog w) A (pyNext it) (fun r s₁ => match r with
      | none => R (.ok .next) s₁
      | some v => wpAny (model prog w) A (assign (.Name x px) env v) (fun _ s₂ => wpAny (model prog w) A (eval iter2 env) (fun xv s₃ => wpAny (model prog w) A (pyIter xv) (fun it2 s₄ =>
          codeAny (model prog w) A (.compStart (.ListComp elt [⟨.Name x px, iter1, [], 0⟩, ⟨.Name y py, iter2, [], 0⟩] scope pos) 1 it2 acc env) (fun r s₅ => (∃ f, r = .ok f) ∧ ∃ m, m < n ∧ I m s₅) s₄) E s₃) E s₂) E s₁) E s)
    (n : Nat) (h : I n s) (hs2 : ∀ x, foldedSetIterable iter2 env x = pure x) :
    codeAny (model prog w) A (.compLoop (.ListComp elt [⟨.Name x px, iter1, [], 0⟩, ⟨.Name y py, iter2, [], 0⟩] scope pos) 0 it acc env) R s := by
  refine codeAny_loop rfl I (fun n s hI => ?_) n h
  show wpAny _ A ((compTurn (.ListComp elt [⟨.Name x px, iter1, [], 0⟩, ⟨.Name y py, iter2, [], 0⟩] scope pos) 0 it acc env).onRaise (fun x => do noteFrame x env; theTreesLotGoes x)) _ _ s
  refine wpAny_noted ?_
  rw [compTurn2_0]
  refine wpAny_bind (wpAny_standAt (wpAny_bind (wpAny_mono (turn n s _ hI) (fun r s₁ h₁ => ?_) fun _ _ h' => h')))
  cases r with
  | none => exact wpAny_pure h₁
  | some v =>
    refine wpAny_bind (wpAny_of_eq (show letOwnedTupleGo (.Name x px) it v = pure () from rfl) ?_)
    refine wpAny_bind (wpAny_mono h₁ (fun _ s₂ h₂ => wpAny_bind (wpAny_mono h₂ (fun xv s₃ h₃ => ?_) fun _ _ h' => h')) fun _ _ h' => h')
    refine wpAny_bind (wpAny_standAt (wpAny_bind (wpAny_of_eq (hs2 xv) (wpAny_bind (wpAny_holding (wpAny_mono h₃ (fun it2 s₄ h₄ => ?_) fun _ _ h' => h'))))))
    refine wpAny_bind (wpAny_runOwn (codeAny_mono h₄ fun r s₅ hr => ?_))
    obtain ⟨⟨f, rfl⟩, hI⟩ := hr
    exact wpAny_pure ⟨rfl, hI⟩

theorem compLoop2_1 {elt iter1 iter2 : Expr} {x y : Str} {px py : Pos} {scope : Scope} {pos : Pos} {it acc : Value} {env : Env} (I : Nat → Shared → Prop)
    (turn : ∀ n s (E : Value → Shared → Prop), I n s → wpAny (model prog w) A (pyNext it) (fun r s₁ => match r with
      | none => R (.ok .next) s₁
      | some v => wpAny (model prog w) A (assign (.Name y py) env v) (fun _ s₂ => wpAny (model prog w) A (eval elt env) (fun z s₃ => wpAny (model prog w) A (call (.builtin "list.append") [acc, z]) (fun _ s₄ => ∃ m, m < n ∧ I m s₄) E s₃) E s₂) E s₁) E s)
    (n : Nat) (h : I n s) :
    codeAny (model prog w) A (.compLoop (.ListComp elt [⟨.Name x px, iter1, [], 0⟩, ⟨.Name y py, iter2, [], 0⟩] scope pos) 1 it acc env) R s := by
  refine codeAny_loop rfl I (fun n s hI => ?_) n h
  show wpAny _ A ((compTurn (.ListComp elt [⟨.Name x px, iter1, [], 0⟩, ⟨.Name y py, iter2, [], 0⟩] scope pos) 1 it acc env).onRaise (fun x => do noteFrame x env; theTreesLotGoes x)) _ _ s
  refine wpAny_noted ?_
  rw [compTurn2_1]
  refine wpAny_bind (wpAny_standAt (wpAny_bind (wpAny_mono (turn n s _ hI) (fun r s₁ h₁ => ?_) fun _ _ h' => h')))
  cases r with
  | none => exact wpAny_pure h₁
  | some v =>
    refine wpAny_bind (wpAny_of_eq (show letOwnedTupleGo (.Name y py) it v = pure () from rfl) ?_)
    refine wpAny_bind (wpAny_mono h₁ (fun _ s₂ h₂ => ?_) fun _ _ h' => h')
    exact wpAny_bind (wpAny_bind (wpAny_mono h₂ (fun x s₃ h₃ => wpAny_bind (wpAny_mono h₃ (fun _ s₄ h₄ => wpAny_pure (wpAny_pure ⟨rfl, h₄⟩)) fun _ _ h' => h')) fun _ _ h' => h'))

theorem compStart2_1 {elt iter1 iter2 : Expr} {x y : Str} {px py : Pos} {scope : Scope} {pos : Pos} {it acc : Value} {env : Env}
    (h0 : codeAny (model prog w) A (.compLoop (.ListComp elt [⟨.Name x px, iter1, [], 0⟩, ⟨.Name y py, iter2, [], 0⟩] scope pos) 1 it acc env) R s)
    (h : ∀ E, wpAny (model prog w) A (pyIter it) (fun it' s' => codeAny (model prog w) A (.compLoop (.ListComp elt [⟨.Name x px, iter1, [], 0⟩, ⟨.Name y py, iter2, [], 0⟩] scope pos) 1 it' acc env) R s') E s) :
    codeAny (model prog w) A (.compStart (.ListComp elt [⟨.Name x px, iter1, [], 0⟩, ⟨.Name y py, iter2, [], 0⟩] scope pos) 1 it acc env) R s := by
  refine codeAny_of_tree ?_
  show wpAny _ _ ((compStart (.ListComp elt [⟨.Name x px, iter1, [], 0⟩, ⟨.Name y py, iter2, [], 0⟩] scope pos) 1 it acc env).onRaise (fun x => do noteFrame x env; standAt theWindowsPlace)) _ _ s
  refine wpAny_notedAt ?_
  unfold compStart
  show wpAny _ _ (ask >>= _) _ _ s
  refine wpAny_bind (wpAny_askSetting (wpAny_ite ?_))
  split
  · first
      | exact wpAny_bind (wpAny_pure (wpAny_pure (And.intro rfl h0)))
      | exact wpAny_pure (And.intro rfl h0)
  · first
      | exact wpAny_bind (wpAny_rule (wpAny_bind (wpAny_standAt (wpAny_bind (wpAny_mono (h _) (fun it' s' h' => wpAny_pure (And.intro rfl h')) fun _ _ x => x)))))
      | (refine wpAny_bind (wpAny_rule ?_); show wpAny _ _ (standAt iter2.pos >>= _) _ _ s; exact wpAny_bind (wpAny_standAt (wpAny_bind (wpAny_mono (h _) (fun it' s' h' => wpAny_pure (And.intro rfl h')) fun _ _ x => x))))
end

/-- a list as a display makes it -/
abbrev lst0 (ys : List Value) : Obj := { cls := .type "list", data := .seq ys.toArray }
theorem ints_snoc : ∀ {zs : List Value} {rs : List Int} {r : Int} {t : Tok}, IntsAre zs rs → IntsAre (zs ++ [.int r t]) (rs ++ [r])
  | _, _, _, _, .nil => .cons _ _ .nil
  | _, _, _, _, .cons n t h => .cons n t (ints_snoc h)

/-- the caller's frame, whose slots an exception may touch -/
structure Gd (A₀ : Around) (base : Heap) (outer : List Env) (K : Frag) (p : Program) (loose : List Str) (mean : ExcName → Option Value) (mg mb : Str → Option Value) (g : Heap) (Ll : Addr) (oL : Obj) : Prop where
  below : Below A₀ base outer g
  frames : outer.filterMap (·.frame) = [Ll]
  XB : K.In base
  TB : Top p loose mean mg mb base
  dicts : KtsDicts (outer.filterMap (·.frame)) g
  at_ : g.get? Ll = some oL
abbrev slt (o : Obj) (sl : Array (Option Value)) : Obj := { o with slots := sl }
section
variable {A₀ : Around} {base : Heap} {outer : List Env} {K : Frag} {p : Program} {loose : List Str} {mean : ExcName → Option Value} {mg mb : Str → Option Value} {g : Heap} {Ll L : Addr} {oL : Obj} {h : Heap} {m : Str → Option Value} {Kp : Led}
theorem hide_none {b : Addr} (h0 : (hideAll g [Ll]).get? b = none) (hb : b ≠ Ll) : g.get? b = none := by
  cases q : g.get? b with
  | none => rfl
  | some o =>
    have := hideAll_get [Ll] q (by simpa using hb)
    rw [this] at h0
    cases h0
theorem Gd.open (G : Gd A₀ base outer K p loose mean mg mb g Ll oL) {sl : Array (Option Value)} (F : Fr (hideAll g [Ll]) L h m) (N : News (hideAll g [Ll]) L h ((Ll, slt oL sl) :: Kp)) (off : ∀ q ∈ Kp, q.1 ≠ Ll) :
    ∃ g', KtsTurn (outer.filterMap (·.frame)) g g' ∧ Fr g' L h m ∧ News g' L h Kp ∧ Below A₀ base outer g' ∧ K.In g' ∧ Top p loose mean mg mb g' ∧ KtsDicts (outer.filterMap (·.frame)) g' := by
  obtain ⟨T₁, S₁⟩ := kts_turn_at (h := h) (fs := outer.filterMap (·.frame)) (g := g)
    (fun b hb => by
      obtain ⟨_, o, ho', _⟩ := G.below.frames.mem hb
      exact ⟨o, ho'⟩)
    (fun b o e nmem => F.keep b o (hideAll_get _ e (by rw [← G.frames]; exact nmem)))
    (fun b o e hm => by
      rw [G.frames] at hm
      obtain rfl := List.mem_singleton.mp hm
      rw [G.at_] at e
      cases e
      exact ⟨sl, (N _ (.head _)).1⟩)
  have B₃ : Below A₀ base outer (ktsHeap h (outer.filterMap (·.frame)) g) := ⟨G.below.stack, fun b o e => T₁.other b o (G.below.stays b o e) (fun hm => by
    rw [(G.below.frames.mem hm).1] at e
    cases e), G.below.frames.of_keeps fun b o e _ => by
    obtain ⟨sl', hs'⟩ := T₁.up e
    exact ⟨_, hs', rfl⟩⟩
  refine ⟨_, T₁, ⟨F.ns, S₁, ?_⟩, fun q hq => ⟨(N q (.tail _ hq)).1, (N q (.tail _ hq)).2.1, T₁.none_ _ (hide_none (N q (.tail _ hq)).2.2 (off q hq))⟩, B₃, G.XB.keeps B₃.stays, G.TB.keeps B₃.stays, G.dicts.turn T₁⟩
  rw [T₁.size, ← hideAll_size [Ll] g]
  exact F.above
theorem Gd.close (G : Gd A₀ base outer K p loose mean mg mb g Ll oL) {g' : Heap} (T : KtsTurn (outer.filterMap (·.frame)) g g') (F : Fr g' L h m) (N : News g' L h Kp) :
    ∃ sl, Fr (hideAll g [Ll]) L h m ∧ News (hideAll g [Ll]) L h ((Ll, slt oL sl) :: Kp) := by
  obtain ⟨sl, hs⟩ := T.up G.at_
  have hlt : Ll < g.objs.size := Heap.lt_size G.at_
  have hsz := F.above
  rw [T.size] at hsz
  refine ⟨sl, ⟨F.ns, fun b o e => F.keep b o (T.other b o (of_hideAll _ e) fun hm => ?_), by rw [hideAll_size]; exact hsz⟩, fun q hq => ?_⟩
  · rw [G.frames] at hm
    rw [hideAll_none _ hm] at e
    cases e
  · rcases List.mem_cons.mp hq with rfl | hq
    · exact ⟨F.keep _ _ hs, Nat.ne_of_lt (Nat.lt_of_lt_of_le hlt hsz), hideAll_none _ (.head _)⟩
    · refine ⟨(N q hq).1, (N q hq).2.1, ?_⟩
      cases e : (hideAll g [Ll]).get? q.1 with
      | none => rfl
      | some o =>
        obtain ⟨sl', hs'⟩ := T.up (of_hideAll _ e)
        rw [(N q hq).2.2] at hs'
        cases hs'
theorem Gd.hidden (G : Gd A₀ base outer K p loose mean mg mb g Ll oL) : base.StaysIn (hideAll g [Ll]) := fun b o e => hideAll_get _ (G.below.stays b o e) fun hm => by
  rw [← G.frames] at hm
  rw [(G.below.frames.mem hm).1] at e
  cases e
end

section
variable {prog : Program} {w : World} {A : Around} {R : Result → Shared → Prop} {s : Shared} {gH : Heap} {Ll L : Addr} {oL : Obj} {m : Str → Option Value}
/-- _law_error of a number, in a frame -/
def ElAt (prog : Program) (w : World) (A : Around) (gH : Heap) (Ll : Addr) (oL : Obj) (L : Addr) (m : Str → Option Value) (k : Int) (q : Addr × Obj) (r : Int) : Prop :=
  ∀ (t : Tok) (sl : Array (Option Value)) (Kp : Led) (s : Shared) (Q E : Value → Shared → Prop), q ∈ Kp → (∀ q ∈ Kp, q.1 ≠ Ll) → Fr gH L s.heap m → News gH L s.heap ((Ll, slt oL sl) :: Kp) →
    (∀ (t' : Tok) (sl' : Array (Option Value)) (h' : Heap) (tk' : Nat), Fr gH L h' m → News gH L h' ((Ll, slt oL sl') :: Kp) → Q (.int r t') { s with heap := h', toks := tk' }) →
    wpAny (model prog w) A (call (.ref 204) [.int k t, .ref q.1]) Q E s

/-- the ledger while the inner loop goes -/
abbrev led2 (Ll : Addr) (oL : Obj) (sl : Array (Option Value)) (J : Addr) (oJ : Obj) (C : Addr) (oC : Obj) (D : Addr) (ys : List Value) (Kp : Led) : Led := (Ll, slt oL sl) :: (J, oJ) :: (C, oC) :: (D, LCg.lst ys) :: Kp

theorem inner2 (hh : A.handled = none) {elt iter1 iter2 : Expr} {x y : Str} {px py : Pos} {scope scope' : Scope} {cl : List (Str × Addr)} {pos : Pos} {env : Env} {C D J lx : Addr} {Kp : Led} {its : List (Addr × Obj)} {k : Int} {t : Tok} {rs : List Int} {ys₀ : List Value}
    (hx : ∀ C, (compEnvC scope' cl C env).kindOf y = some .local) (hfn : ∀ C, ((compEnvC scope' cl C env).scope.kind == .class || ((compEnvC scope' cl C env).scope.kind == .module && (compEnvC scope' cl C env).locals != (compEnvC scope' cl C env).globals)) = false)
    (hxy : x ≠ y)
    (helt : ∀ (oC : Obj) (mC : Str → Option Value) (q : Addr × Obj) (r : Int) (sl : Array (Option Value)) (Kq : Led) (s : Shared) (Q E : Value → Shared → Prop), LCg.NsObj oC mC → mC x = some (.int k t) → mC y = some (.ref q.1) → ElAt prog w A gH Ll oL L m k q r → (C, oC) ∈ Kq → q ∈ Kq → (∀ q ∈ Kq, q.1 ≠ Ll) →
      Fr gH L s.heap m → News gH L s.heap ((Ll, slt oL sl) :: Kq) →
      (∀ (t' : Tok) (sl' : Array (Option Value)) (h' : Heap) (tk' : Nat), Fr gH L h' m → News gH L h' ((Ll, slt oL sl') :: Kq) → Q (.int r t') { s with heap := h', toks := tk' }) →
      wpAny (model prog w) A (eval elt (compEnvC scope' cl C env)) Q E s)
    (hlx : (lx, lst0 (its.map fun q => Value.ref q.1)) ∈ Kp) (hits : ∀ q ∈ its, q ∈ Kp) (hlen : rs.length = its.length) (hel : ∀ (j : Nat) (q : Addr × Obj) (r : Int), its[j]? = some q → rs[j]? = some r → ElAt prog w A gH Ll oL L m k q r)
    (hsz : its.length ≤ 100) (hys : ys₀.length ≤ 100)
    (hJC : J ≠ C) (hJD : J ≠ D) (hCD : C ≠ D) (hJl : J ≠ Ll) (hCl : C ≠ Ll) (hDl : D ≠ Ll) (hJx : lx ≠ J) (off : ∀ q ∈ Kp, q.1 ≠ J ∧ q.1 ≠ C ∧ q.1 ≠ D ∧ q.1 ≠ Ll)
    {sl : Array (Option Value)} {oJ oC : Obj} {mC : Str → Option Value} (F : Fr gH L s.heap m) (N : News gH L s.heap (led2 Ll oL sl J oJ C oC D ys₀ Kp)) (hC : LCg.NsObj oC mC) (hk : mC x = some (.int k t)) (hit : s.heap.IsListIter J lx 0)
    (hR : ∀ h tk sl oC mC zs, Fr gH L h m → News gH L h ((Ll, slt oL sl) :: (C, oC) :: (D, LCg.lst (ys₀ ++ zs)) :: Kp) → LCg.NsObj oC mC → IntsAre zs rs → R (.ok .next) { s with heap := h, toks := tk }) :
    codeAny (model prog w) A (.compLoop (.ListComp elt [⟨.Name x px, iter1, [], 0⟩, ⟨.Name y py, iter2, [], 0⟩] scope pos) 1 (.ref J) (.ref D) (compEnvC scope' cl C env)) R s := by
  let items : Array Value := (its.map fun q => Value.ref q.1).toArray
  have hisz : items.size = its.length := by simp [items]
  have W := Walks.list (prog := prog) (w := w) hh J lx hJx items
  have lst_of : ∀ {h : Heap} {l : Led}, News gH L h l → (∀ q ∈ Kp, q ∈ l) → h.IsList lx items := fun N hs => ⟨_, (N _ (hs _ hlx)).1, rfl, _, rfl⟩
  have sub0 : ∀ {sl oJ oC ys}, ∀ q ∈ Kp, q ∈ led2 Ll oL sl J oJ C oC D ys Kp := fun q hq => .tail _ (.tail _ (.tail _ (.tail _ hq)))
  refine compLoop2_1 (fun n s' => ∃ h tk j sl oJ oC mC zs, s' = { s with heap := h, toks := tk } ∧ j ≤ its.length ∧ n = its.length - j ∧ Fr gH L h m ∧ News gH L h (led2 Ll oL sl J oJ C oC D (ys₀ ++ zs) Kp) ∧ LCg.NsObj oC mC ∧ mC x = some (.int k t) ∧ h.IsListIter J lx j ∧ IntsAre zs (rs.take j) ∧ zs.length = j) ?_ its.length
    ⟨s.heap, s.toks, 0, sl, oJ, oC, mC, [], rfl, Nat.zero_le _, rfl, F, by rw [List.append_nil]; exact N, hC, hk, hit, by simpa using IntsAre.nil, rfl⟩
  rintro n s' E ⟨h, tk, j, sl, oJ, oC, mC, zs, rfl, hj, rfl, F, N, hC, hk, hit, hzs, hzl⟩
  have nJ := N (J, oJ) (.tail _ (.head _))
  have nC := N (C, oC) (.tail _ (.tail _ (.head _)))
  have nD := N (D, LCg.lst (ys₀ ++ zs)) (.tail _ (.tail _ (.tail _ (.head _))))
  by_cases hlt : j < its.length
  · refine W.item j _ _ _ (by rw [hisz]; exact hlt) ⟨hit, lst_of N sub0⟩ fun v h₂ tk₂ hPv hst₂ hk₂ => ?_
    obtain ⟨q, hq⟩ : ∃ q, its[j]? = some q := ⟨its[j], List.getElem?_eq_getElem hlt⟩
    obtain ⟨r, hr⟩ : ∃ r, rs[j]? = some r := ⟨rs[j], List.getElem?_eq_getElem (by rw [hlen]; exact hlt)⟩
    have hv : v = .ref q.1 := by
      have e : items[j]? = some (.ref q.1) := by simp [items, hq]
      rw [e] at hPv
      exact (Option.some.inj hPv).symm
    subst hv
    have hnC : h₂.Ns C mC := (hC.ns nC.1).at' fun o e => hk₂ _ o (by simpa using Ne.symm hJC) e
    refine wpAny_assign_Name (wpAny_storeName_local (hx C) hnC (fun h₃ hn₃ hs₃ => ?_) (hfn C))
    have hs₃' : Heap.SameBut C h₂ h₃ := hs₃
    have hn₃' : h₃.Ns C (fun z => if z = y then some (.ref q.1) else mC z) := hn₃
    obtain ⟨oC₃, heC, hoC⟩ := LCg.ns_obj hn₃'
    obtain ⟨oJ₂, heJ2, hrJ⟩ := hst₂.1
    have heJ : h₃.get? J = some oJ₂ := hs₃'.extBut _ _ hJC heJ2
    have F₃ : Fr gH L h₃ m := (LCg.fr_but F hk₂ (Ne.symm nJ.2.1) nJ.2.2).change hs₃' nC.2.1 nC.2.2
    have keep : ∀ b o, b ≠ J → b ≠ C → h.get? b = some o → h₃.get? b = some o := fun b o z1 z2 e => hs₃'.extBut _ _ z2 (hk₂ _ _ (by simpa using z1) e)
    have N₃ : News gH L h₃ (led2 Ll oL sl J oJ₂ C oC₃ D (ys₀ ++ zs) Kp) := fun p hp => by
      rcases List.mem_cons.mp hp with rfl | hp
      · exact ⟨keep _ _ (Ne.symm hJl) (Ne.symm hCl) (N _ (.head _)).1, (N _ (.head _)).2⟩
      rcases List.mem_cons.mp hp with rfl | hp
      · exact ⟨heJ, nJ.2⟩
      rcases List.mem_cons.mp hp with rfl | hp
      · exact ⟨heC, nC.2⟩
      rcases List.mem_cons.mp hp with rfl | hp
      · exact ⟨keep _ _ (Ne.symm hJD) (Ne.symm hCD) nD.1, nD.2⟩
      · exact ⟨keep _ _ (off p hp).1 (off p hp).2.1 (N p (sub0 _ hp)).1, (N p (sub0 _ hp)).2⟩
    have hqK : q ∈ Kp := hits q (List.mem_of_getElem? hq)
    refine helt oC₃ _ q r sl ((J, oJ₂) :: (C, oC₃) :: (D, LCg.lst (ys₀ ++ zs)) :: Kp) _ _ _ hoC (by simp [hxy, hk]) (by simp) (hel j q r hq hr) (.tail _ (.head _)) (.tail _ (.tail _ (.tail _ hqK))) (fun p hp => ?_) F₃ N₃ fun t' sl' h₄ tk₄ F₄ N₄ => ?_
    · rcases List.mem_cons.mp hp with rfl | hp
      · exact hJl
      rcases List.mem_cons.mp hp with rfl | hp
      · exact hCl
      rcases List.mem_cons.mp hp with rfl | hp
      · exact hDl
      · exact (off p hp).2.2.2
    · have zD := (N₄ (D, LCg.lst (ys₀ ++ zs)) (.tail _ (.tail _ (.tail _ (.head _))))).1
      have hz : (ys₀ ++ zs).toArray.size ≤ sizeLine := by
        rw [List.size_toArray, List.length_append, hzl]
        exact Nat.le_trans (by omega : ys₀.length + j ≤ 200) (by decide +kernel)
      refine append_at (hsz := hz) zD fun h₅ hs₅ hD₅ => ?_
      refine ⟨its.length - (j + 1), by omega, h₅, tk₄, j + 1, sl', oJ₂, oC₃, _, zs ++ [.int r t'], rfl, hlt, rfl, F₄.change hs₅ nD.2.1 nD.2.2, fun p hp => ?_, hoC, by simp [hxy, hk], ?_, ?_, by simp [hzl]⟩
      · have keep5 : ∀ p ∈ led2 Ll oL sl' J oJ₂ C oC₃ D (ys₀ ++ zs) Kp, p.1 ≠ D → h₅.get? p.1 = some p.2 ∧ p.1 ≠ L ∧ gH.get? p.1 = none := fun p hp hd => ⟨hs₅.extBut _ _ hd (N₄ p hp).1, (N₄ p hp).2⟩
        rcases List.mem_cons.mp hp with rfl | hp
        · exact keep5 _ (.head _) (Ne.symm hDl)
        rcases List.mem_cons.mp hp with rfl | hp
        · exact keep5 _ (.tail _ (.head _)) hJD
        rcases List.mem_cons.mp hp with rfl | hp
        · exact keep5 _ (.tail _ (.tail _ (.head _))) hCD
        rcases List.mem_cons.mp hp with rfl | hp
        · exact ⟨hD₅.trans (congrArg some ((LCg.lst_snoc (ys₀ ++ zs) (.int r t')).trans (by rw [List.append_assoc]))), nD.2⟩
        · exact keep5 _ (sub0 _ hp) (off p hp).2.2.1
      · exact ⟨oJ₂, hs₅.extBut _ _ hJD (N₄ (J, oJ₂) (.tail _ (.head _))).1, hrJ⟩
      · have e : rs.take (j + 1) = rs.take j ++ [r] := by rw [List.take_add_one, hr]; rfl
        rw [e]
        exact ints_snoc hzs
  · obtain rfl : j = its.length := Nat.le_antisymm hj (Nat.not_lt.mp hlt)
    refine W.done _ _ _ ⟨by rw [hisz]; exact hit, lst_of N sub0⟩ fun h₂ tk₂ hk₂ => ?_
    have hrs : rs.take its.length = rs := by rw [← hlen]; exact List.take_length
    rw [hrs] at hzs
    refine hR h₂ tk₂ sl oC mC zs (LCg.fr_but F hk₂ (Ne.symm nJ.2.1) nJ.2.2) (fun p hp => ?_) hC hzs
    have keep : ∀ b o, b ≠ J → h.get? b = some o → h₂.get? b = some o := fun b o z1 e => hk₂ _ _ (by simpa using z1) e
    rcases List.mem_cons.mp hp with rfl | hp
    · exact ⟨keep _ _ (Ne.symm hJl) (N _ (.head _)).1, (N _ (.head _)).2⟩
    rcases List.mem_cons.mp hp with rfl | hp
    · exact ⟨keep _ _ (Ne.symm hJC) nC.1, nC.2⟩
    rcases List.mem_cons.mp hp with rfl | hp
    · exact ⟨keep _ _ (Ne.symm hJD) nD.1, nD.2⟩
    · exact ⟨keep _ _ (off p hp).1 (N p (sub0 _ hp)).1, (N p (sub0 _ hp)).2⟩
end

theorem intsAre_len : ∀ {zs : List Value} {rs : List Int}, IntsAre zs rs → zs.length = rs.length
  | _, _, .nil => rfl
  | _, _, .cons n t h => by rw [List.length_cons, List.length_cons, intsAre_len h]
theorem intsAre_app : ∀ {zs : List Value} {rs : List Int} {zs' : List Value} {rs' : List Int}, IntsAre zs rs → IntsAre zs' rs' → IntsAre (zs ++ zs') (rs ++ rs')
  | _, _, _, _, .nil, h => h
  | _, _, _, _, .cons n t g, h => .cons n t (intsAre_app g h)
section
variable {prog : Program} {w : World} {A : Around} {E : Value → Shared → Prop} {s : Shared} {gH : Heap} {Ll L : Addr} {oL : Obj} {m : Str → Option Value}
theorem comp2 (hh : A.handled = none) {elt iter1 iter2 : Expr} {x y : Str} {px py : Pos} {scope : Scope} {cl : List (Str × Addr)} {pos : Pos} {env : Env} {Kp : Led} {its : List (Addr × Obj)} {n : Nat} {rsf : Nat → List Int} {Q : Value → Shared → Prop}
    (hclos : closureFor scope env = pure cl) (hcell : ∀ y ∈ scope.names, y.2 ≠ .cell) (hkind : scope.kind = .function) (hnames : ∀ y ∈ scope.names, y.2 = .local → scope.names.lookup y.1 = some .local)
    (hs1 : ∀ x, foldedSetIterable iter1 env x = pure x) (hs2 : ∀ C x, foldedSetIterable iter2 (compEnvC scope cl C env) x = pure x)
    (hx : ∀ C, (compEnvC scope cl C env).kindOf x = some .local) (hy : ∀ C, (compEnvC scope cl C env).kindOf y = some .local)
    (hfn : ∀ C, ((compEnvC scope cl C env).scope.kind == .class || ((compEnvC scope cl C env).scope.kind == .module && (compEnvC scope cl C env).locals != (compEnvC scope cl C env).globals)) = false)
    (hxy : x ≠ y)
    (hfirst : wpAny (model prog w) A (eval iter1 env) (fun xv s₁ => ∃ r t u v h tk sl, xv = .ref r ∧ s₁ = { s with heap := h, toks := tk } ∧ Fr gH L h m ∧ News gH L h ((Ll, slt oL sl) :: Kp) ∧ IsRange h r 0 (n : Int) 1 t u v) E s)
    (hsm : Builtin.Range.small 0 (n : Int) 1 = true) (hrs : Builtin.Range.rangeSize 0 (n : Int) 1 = (n : Int))
    (hiter2 : ∀ (C : Addr) (Kq : Led) (s : Shared) (Q E : Value → Shared → Prop), (∀ p ∈ Kp, p ∈ Kq) → Fr gH L s.heap m → News gH L s.heap Kq →
      (∀ lx h', Fr gH L h' m → News gH L h' ((lx, lst0 (its.map fun q => Value.ref q.1)) :: Kq) → (∀ p ∈ Kq, p.1 ≠ lx) → Q (.ref lx) { s with heap := h' }) → wpAny (model prog w) A (eval iter2 (compEnvC scope cl C env)) Q E s)
    (helt : ∀ (C : Addr) (k : Int) (t : Tok) (oC : Obj) (mC : Str → Option Value) (q : Addr × Obj) (r : Int) (sl : Array (Option Value)) (Kq : Led) (s : Shared) (Q E : Value → Shared → Prop), LCg.NsObj oC mC → mC x = some (.int k t) → mC y = some (.ref q.1) → ElAt prog w A gH Ll oL L m k q r → (C, oC) ∈ Kq → q ∈ Kq → (∀ q ∈ Kq, q.1 ≠ Ll) →
      Fr gH L s.heap m → News gH L s.heap ((Ll, slt oL sl) :: Kq) →
      (∀ (t' : Tok) (sl' : Array (Option Value)) (h' : Heap) (tk' : Nat), Fr gH L h' m → News gH L h' ((Ll, slt oL sl') :: Kq) → Q (.int r t') { s with heap := h', toks := tk' }) →
      wpAny (model prog w) A (eval elt (compEnvC scope cl C env)) Q E s)
    (hits : ∀ q ∈ its, q ∈ Kp) (hlen : ∀ i, (rsf i).length = its.length) (hel : ∀ (i j : Nat) (q : Addr × Obj) (r : Int), i < n → its[j]? = some q → (rsf i)[j]? = some r → ElAt prog w A gH Ll oL L m (i : Int) q r)
    (hsz : its.length ≤ 100) (hn : n ≤ 100) (hys : ∀ i, i ≤ n → ((List.range i).flatMap rsf).length ≤ 100) (off : ∀ q ∈ Kp, q.1 ≠ Ll)
    (hQ : ∀ D h tk sl ys, Fr gH L h m → News gH L h ((D, LCg.lst ys) :: (Ll, slt oL sl) :: Kp) → IntsAre ys ((List.range n).flatMap rsf) → Q (.ref D) { s with heap := h, toks := tk }) :
    wpAny (model prog w) A (eval (.ListComp elt [⟨.Name x px, iter1, [], 0⟩, ⟨.Name y py, iter2, [], 0⟩] scope pos) env) Q E s := by
  rw [eval_ListComp]
  refine wpAny_comprehension_free (use := none) rfl hs1 hclos hkind hnames (wpAny_mono hfirst (fun xv s₁ h₁ => ?_) fun _ _ e => e)
  obtain ⟨r, t, u, v, h, tk, sl, rfl, rfl, F, N, hr⟩ := h₁
  refine wpAny_pyIter_range hr hsm ?_
  -- the iterator
  have upI : ∀ b o, h.get? b = some o → (h.push { cls := .type "range_iterator", data := .fields #[rawInt 0, rawInt (Builtin.Range.rangeSize 0 (n : Int) 1), rawInt 1] }).get? b = some o := fun b o e => Heap.get?_push_of_some _ e
  have hIat : (h.push { cls := .type "range_iterator", data := .fields #[rawInt 0, rawInt (Builtin.Range.rangeSize 0 (n : Int) 1), rawInt 1] }).get? h.objs.size = some { cls := .type "range_iterator", data := .fields #[rawInt 0, rawInt (Builtin.Range.rangeSize 0 (n : Int) 1), rawInt 1] } := Heap.get?_push_size _ rfl
  have hIsz : (h.push { cls := .type "range_iterator", data := .fields #[rawInt 0, rawInt (Builtin.Range.rangeSize 0 (n : Int) 1), rawInt 1] }).objs.size = h.objs.size + 1 := Heap.size_push ..
  show wpAny _ A (newList []) _ _ ({ s with heap := h.push { cls := .type "range_iterator", data := .fields #[rawInt 0, rawInt (Builtin.Range.rangeSize 0 (n : Int) 1), rawInt 1] }, toks := tk } : Shared)
  generalize hH1 : h.push { cls := .type "range_iterator", data := .fields #[rawInt 0, rawInt (Builtin.Range.rangeSize 0 (n : Int) 1), rawInt 1] } = H1 at upI hIat hIsz ⊢
  have F1 : Fr gH L H1 m := F.keeps upI
  have N1 : News gH L H1 ((Ll, slt oL sl) :: Kp) := N.grown upI
  have hLl : Ll < h.objs.size := Heap.lt_size (N _ (.head _)).1
  have ltK : ∀ p ∈ Kp, p.1 < h.objs.size := fun p hp => Heap.lt_size (N p (.tail _ hp)).1
  have hI₀ : gH.get? h.objs.size = none := next_is_new F
  have hLI : L < h.objs.size := F.ns.lt
  refine wpAny_newObj_type (wpAny_newFunctionEnv hcell (by intro y hy; simp at hy) (fun h₁ hns₁ hsb₁ => ?_) hkind)
  dsimp only at hns₁ hsb₁ ⊢
  generalize hH2 : H1.push { cls := .type "list", dict := none, data := .seq ([] : List Value).toArray } = H2 at hns₁ hsb₁ ⊢
  have hC : H2.objs.size = H1.objs.size + 1 := by rw [← hH2, Heap.size_push]
  have hDat : H2.get? H1.objs.size = some (LCg.lst []) := hH2 ▸ Heap.get?_push_size _ rfl
  have up2 : ∀ b o, H1.get? b = some o → H2.get? b = some o := fun b o e => hH2 ▸ Heap.get?_push_of_some _ e
  have upC : ∀ b o, H2.get? b = some o → h₁.get? b = some o := fun b o e => hsb₁.extBut b o (Nat.ne_of_lt (Heap.lt_size e)) (Heap.get?_push_of_some _ e)
  have F2 : Fr gH L H2 m := F1.keeps up2
  have F3 : Fr gH L h₁ m := F2.keeps upC
  obtain ⟨oC, heC, hoC⟩ := LCg.ns_obj hns₁
  have eI : h.objs.size + 1 = H1.objs.size := hIsz.symm
  have hD₀ : gH.get? H1.objs.size = none := next_is_new F1
  have hC₀ : gH.get? H2.objs.size = none := next_is_new F2
  have nIC : h.objs.size ≠ H2.objs.size := by intro z; have z' : (h.objs.size : Nat) = H2.objs.size := z; omega
  have nID : h.objs.size ≠ H1.objs.size := by intro z; have z' : (h.objs.size : Nat) = H1.objs.size := z; omega
  have nCD : H2.objs.size ≠ H1.objs.size := by intro z; have z' : (H2.objs.size : Nat) = H1.objs.size := z; omega
  have hle1 : h.objs.size ≤ H1.objs.size := by omega
  have hle2 : h.objs.size ≤ H2.objs.size := by omega
  have nLl : Ll ≠ h.objs.size ∧ Ll ≠ H2.objs.size ∧ Ll ≠ H1.objs.size := ⟨Nat.ne_of_lt hLl, Nat.ne_of_lt (Nat.lt_of_lt_of_le hLl hle2), Nat.ne_of_lt (Nat.lt_of_lt_of_le hLl hle1)⟩
  have offK : ∀ p ∈ Kp, p.1 ≠ h.objs.size ∧ p.1 ≠ H2.objs.size ∧ p.1 ≠ H1.objs.size ∧ p.1 ≠ Ll := fun p hp => ⟨Nat.ne_of_lt (ltK p hp), Nat.ne_of_lt (Nat.lt_of_lt_of_le (ltK p hp) hle2), Nat.ne_of_lt (Nat.lt_of_lt_of_le (ltK p hp) hle1), off p hp⟩
  have hIL : h.objs.size ≠ L := Ne.symm (Nat.ne_of_lt hLI)
  have hDL : H1.objs.size ≠ L := Ne.symm (Nat.ne_of_lt (Nat.lt_of_lt_of_le hLI hle1))
  have hCL : H2.objs.size ≠ L := Ne.symm (Nat.ne_of_lt (Nat.lt_of_lt_of_le hLI hle2))
  have N3 : News gH L h₁ ((Ll, slt oL sl) :: (h.objs.size, { cls := .type "range_iterator", data := .fields #[rawInt 0, rawInt (Builtin.Range.rangeSize 0 (n : Int) 1), rawInt 1] }) :: (H2.objs.size, oC) :: (H1.objs.size, LCg.lst []) :: Kp) := fun p hp => by
    rcases List.mem_cons.mp hp with rfl | hp
    · exact ⟨upC _ _ (up2 _ _ (N1 _ (.head _)).1), (N1 _ (.head _)).2⟩
    rcases List.mem_cons.mp hp with rfl | hp
    · exact ⟨upC _ _ (up2 _ _ hIat), hIL, hI₀⟩
    rcases List.mem_cons.mp hp with rfl | hp
    · exact ⟨heC, hCL, hC₀⟩
    rcases List.mem_cons.mp hp with rfl | hp
    · exact ⟨upC _ _ hDat, hDL, hD₀⟩
    · exact ⟨upC _ _ (up2 _ _ (N1 _ (.tail _ hp)).1), (N1 _ (.tail _ hp)).2⟩
  generalize h.objs.size = I at *
  generalize hCg : H2.objs.size = C at *
  generalize hDg : H1.objs.size = D at *
  have W := LCg.range_walks (prog := prog) (w := w) (I := I) hh 0 n
  have loop : ∀ s₃ : Shared, s₃ = { s with heap := h₁, toks := tk + ([] : List (Str × Value)).length } →
      codeAny (model prog w) A (.compLoop (.ListComp elt [⟨.Name x px, iter1, [], 0⟩, ⟨.Name y py, iter2, [], 0⟩] scope pos) 0 (.ref I) (.ref D) (compEnvC scope cl C env))
        (compPost (model prog w) A E none Q (.ref D) C) s₃ := by
    rintro s₃ rfl
    refine compLoop2_0 (fun k s' => ∃ h tk i sl oI oC mC ys, s' = { s with heap := h, toks := tk } ∧ i ≤ n ∧ k = n - i ∧ Fr gH L h m ∧ News gH L h ((Ll, slt oL sl) :: (I, oI) :: (C, oC) :: (D, LCg.lst ys) :: Kp) ∧ LCg.NsObj oC mC ∧
        IsRangeIter h I (0 + (i : Nat) * 1) ((n : Int) - (i : Nat)) 1 ∧ IntsAre ys ((List.range i).flatMap rsf)) ?_ n
      ⟨h₁, _, 0, sl, _, oC, _, [], rfl, Nat.zero_le _, rfl, F3, N3, hoC, ?_, .nil⟩ (hs2 C)
    · rintro k s' E' ⟨h, tk, i, sl, oI, oC, mC, ys, rfl, hi, rfl, F, N, hoC, hst, hzs⟩
      have nI := N (I, oI) (.tail _ (.head _))
      have nC := N (C, oC) (.tail _ (.tail _ (.head _)))
      have nD := N (D, LCg.lst ys) (.tail _ (.tail _ (.tail _ (.head _))))
      by_cases hlt : i < n
      · refine W.item i _ _ _ hlt hst fun v h₂ tk₂ hPv hst₂ hk₂ => ?_
        obtain ⟨t, rfl⟩ := hPv
        have ei : (0 : Int) + (i : Nat) = ((i : Nat) : Int) := Int.zero_add _
        rw [ei]
        have hnC : h₂.Ns C mC := (hoC.ns nC.1).at' fun o e => hk₂ _ o (by simpa using Ne.symm nIC) e
        refine wpAny_assign_Name (wpAny_storeName_local (hx C) hnC (fun h₃ hn₃ hs₃ => ?_) (hfn C))
        have hs₃' : Heap.SameBut C h₂ h₃ := hs₃
        have hn₃' : h₃.Ns C (fun z => if z = x then some (.int ((i : Nat) : Int) t) else mC z) := hn₃
        obtain ⟨oC₃, heC, hoC₃⟩ := LCg.ns_obj hn₃'
        obtain ⟨oI₂, heI2⟩ : ∃ o, h₂.get? I = some o := ⟨_, hst₂⟩
        have heI : h₃.get? I = some oI₂ := hs₃'.extBut _ _ nIC heI2
        have F₃ : Fr gH L h₃ m := (LCg.fr_but F hk₂ (Ne.symm nI.2.1) nI.2.2).change hs₃' nC.2.1 nC.2.2
        have keep : ∀ b o, b ≠ I → b ≠ C → h.get? b = some o → h₃.get? b = some o := fun b o z1 z2 e => hs₃'.extBut _ _ z2 (hk₂ _ _ (by simpa using z1) e)
        have N₃ : News gH L h₃ ((Ll, slt oL sl) :: (I, oI₂) :: (C, oC₃) :: (D, LCg.lst ys) :: Kp) := fun p hp => by
          rcases List.mem_cons.mp hp with rfl | hp
          · exact ⟨keep _ _ nLl.1 nLl.2.1 (N _ (.head _)).1, (N _ (.head _)).2⟩
          rcases List.mem_cons.mp hp with rfl | hp
          · exact ⟨heI, nI.2⟩
          rcases List.mem_cons.mp hp with rfl | hp
          · exact ⟨heC, nC.2⟩
          rcases List.mem_cons.mp hp with rfl | hp
          · exact ⟨keep _ _ (Ne.symm nID) (Ne.symm nCD) nD.1, nD.2⟩
          · have z := N p (.tail _ (.tail _ (.tail _ (.tail _ hp))))
            exact ⟨keep _ _ (offK p hp).1 (offK p hp).2.1 z.1, z.2⟩
        refine hiter2 C _ _ _ _ (fun p hp => .tail _ (.tail _ (.tail _ (.tail _ hp)))) F₃ N₃ fun lx h₄ F₄ N₄ hnx => ?_
        refine wpAny_pyIter_list (items := (its.map fun q => Value.ref q.1).toArray) ⟨_, (N₄ _ (.head _)).1, rfl, _, rfl⟩ ?_
        have upJ : ∀ b o, h₄.get? b = some o → (h₄.push { cls := .type "list_iterator", data := .fields #[.ref lx, .int 0 0] }).get? b = some o := fun b o e => Heap.get?_push_of_some _ e
        have hJat : (h₄.push { cls := .type "list_iterator", data := .fields #[.ref lx, .int 0 0] }).get? h₄.objs.size = some { cls := .type "list_iterator", data := .fields #[.ref lx, .int 0 0] } := Heap.get?_push_size _ rfl
        have ltJ : ∀ p ∈ ((lx, lst0 (its.map fun q => Value.ref q.1)) :: (Ll, slt oL sl) :: (I, oI₂) :: (C, oC₃) :: (D, LCg.lst ys) :: Kp : Led), p.1 ≠ h₄.objs.size := fun p hp => Nat.ne_of_lt (Heap.lt_size (N₄ p hp).1)
        have hJ₀ : gH.get? h₄.objs.size = none := next_is_new F₄
        have hJL : h₄.objs.size ≠ L := Ne.symm (Nat.ne_of_lt F₄.ns.lt)
        show codeAny _ A _ _ ({ s with heap := h₄.push { cls := .type "list_iterator", data := .fields #[.ref lx, .int 0 0] }, toks := _ } : Shared)
        generalize h₄.push { cls := .type "list_iterator", data := .fields #[.ref lx, .int 0 0] } = h₅ at upJ hJat ⊢
        generalize h₄.objs.size = J at *
        have N₅ : News gH L h₅ (led2 Ll oL sl J { cls := .type "list_iterator", data := .fields #[.ref lx, .int 0 0] } C oC₃ D ys ((I, oI₂) :: (lx, lst0 (its.map fun q => Value.ref q.1)) :: Kp)) := fun p hp => by
          rcases List.mem_cons.mp hp with rfl | hp
          · exact ⟨upJ _ _ (N₄ _ (.tail _ (.head _))).1, (N₄ _ (.tail _ (.head _))).2⟩
          rcases List.mem_cons.mp hp with rfl | hp
          · exact ⟨hJat, hJL, hJ₀⟩
          rcases List.mem_cons.mp hp with rfl | hp
          · exact ⟨upJ _ _ (N₄ (C, oC₃) (.tail _ (.tail _ (.tail _ (.head _))))).1, nC.2⟩
          rcases List.mem_cons.mp hp with rfl | hp
          · exact ⟨upJ _ _ (N₄ (D, LCg.lst ys) (.tail _ (.tail _ (.tail _ (.tail _ (.head _)))))).1, nD.2⟩
          rcases List.mem_cons.mp hp with rfl | hp
          · exact ⟨upJ _ _ (N₄ (I, oI₂) (.tail _ (.tail _ (.head _)))).1, nI.2⟩
          rcases List.mem_cons.mp hp with rfl | hp
          · exact ⟨upJ _ _ (N₄ (lx, _) (.head _)).1, (N₄ (lx, _) (.head _)).2⟩
          · have z := N₄ p (.tail _ (.tail _ (.tail _ (.tail _ (.tail _ hp)))))
            exact ⟨upJ _ _ z.1, z.2⟩
        have lp : ∀ tk', codeAny (model prog w) A (.compLoop (.ListComp elt [⟨.Name x px, iter1, [], 0⟩, ⟨.Name y py, iter2, [], 0⟩] scope pos) 1 (.ref J) (.ref D) (compEnvC scope cl C env))
            (fun r s₅ => (∃ f, r = .ok f) ∧ ∃ m_1, m_1 < n - i ∧ ∃ h tk i sl oI oC mC ys, s₅ = { s with heap := h, toks := tk } ∧ i ≤ n ∧ m_1 = n - i ∧ Fr gH L h m ∧ News gH L h ((Ll, slt oL sl) :: (I, oI) :: (C, oC) :: (D, LCg.lst ys) :: Kp) ∧ LCg.NsObj oC mC ∧
              IsRangeIter h I (0 + (i : Nat) * 1) ((n : Int) - (i : Nat)) 1 ∧ IntsAre ys ((List.range i).flatMap rsf)) ({ s with heap := h₅, toks := tk' } : Shared) := fun tk' => by
          refine inner2 hh hy hfn hxy (k := ((i : Nat) : Int)) (t := t) (rs := rsf i) (its := its) (fun oC mC q r sl Kq s Q E => helt C _ t oC mC q r sl Kq s Q E) (.tail _ (.head _)) (fun q hq => .tail _ (.tail _ (hits q hq))) (hlen i) (fun j q r e1 e2 => hel i j q r hlt e1 e2) hsz
            (by rw [intsAre_len hzs]; exact hys i hi) (Ne.symm (ltJ (C, oC₃) (.tail _ (.tail _ (.tail _ (.head _)))))) (Ne.symm (ltJ (D, LCg.lst ys) (.tail _ (.tail _ (.tail _ (.tail _ (.head _))))))) nCD (Ne.symm (ltJ (Ll, slt oL sl) (.tail _ (.head _)))) (Ne.symm nLl.2.1) (Ne.symm nLl.2.2) (ltJ (lx, _) (.head _)) (fun p hp => ?_) (F₄.keeps upJ) N₅ hoC₃ (by simp) ⟨_, hJat, rfl, rfl⟩ fun h tk sl oC mC zs F₆ N₆ hoC₆ hz => ?_
          · rcases List.mem_cons.mp hp with rfl | hp
            · exact ⟨ltJ (I, oI₂) (.tail _ (.tail _ (.head _))), nIC, nID, Ne.symm nLl.1⟩
            rcases List.mem_cons.mp hp with rfl | hp
            · exact ⟨ltJ (lx, _) (.head _), Ne.symm (hnx (C, oC₃) (.tail _ (.tail _ (.head _)))), Ne.symm (hnx (D, LCg.lst ys) (.tail _ (.tail _ (.tail _ (.head _))))), Ne.symm (hnx (Ll, slt oL sl) (.head _))⟩
            · exact ⟨ltJ p (.tail _ (.tail _ (.tail _ (.tail _ (.tail _ hp))))), (offK p hp).2.1, (offK p hp).2.2.1, (offK p hp).2.2.2⟩
          · refine ⟨⟨_, rfl⟩, n - (i + 1), by omega, h, tk, i + 1, sl, oI₂, oC, mC, ys ++ zs, rfl, hlt, rfl, F₆, fun p hp => ?_, hoC₆, ?_, ?_⟩
            · rcases List.mem_cons.mp hp with rfl | hp
              · exact N₆ _ (.head _)
              rcases List.mem_cons.mp hp with rfl | hp
              · exact N₆ _ (.tail _ (.tail _ (.tail _ (.head _))))
              rcases List.mem_cons.mp hp with rfl | hp
              · exact N₆ _ (.tail _ (.head _))
              rcases List.mem_cons.mp hp with rfl | hp
              · exact N₆ _ (.tail _ (.tail _ (.head _)))
              · exact N₆ _ (.tail _ (.tail _ (.tail _ (.tail _ (.tail _ hp)))))
            · exact LCg.range_st (h₀ := gH) (L := L) (i + 1) _ _ oI₂ [] hst₂ heI2 (N₆ (I, oI₂) (.tail _ (.tail _ (.tail _ (.head _))))).1 F₆.keep (fun _ hp => nomatch hp) trivial
            · rw [List.range_succ, List.flatMap_append, List.flatMap_singleton]
              exact intsAre_app hzs hz
        exact compStart2_1 (lp _) fun E => (Walks.list (prog := prog) (w := w) hh J lx (ltJ (lx, _) (.head _)) (its.map fun q => Value.ref q.1).toArray).self 0 _ _ _ ⟨⟨_, hJat, rfl, rfl⟩, ⟨_, upJ _ _ (N₄ _ (.head _)).1, rfl, _, rfl⟩⟩ (lp _)
      · obtain rfl : i = n := Nat.le_antisymm hi (Nat.not_lt.mp hlt)
        refine W.done _ _ _ hst fun h₂ tk₂ hk₂ => ?_
        have F₂ : Fr gH L h₂ m := LCg.fr_but F hk₂ (Ne.symm nI.2.1) nI.2.2
        refine ⟨mC, (hoC.ns nC.1).at' fun o e => hk₂ _ o (by simpa using Ne.symm nIC) e, fun h' hs' => hQ D h' _ sl ys (F₂.change hs' nC.2.1 nC.2.2) (fun p hp => ?_) hzs⟩
        have keep : ∀ b o, b ≠ I → b ≠ C → h.get? b = some o → h'.get? b = some o := fun b o z1 z2 e => hs'.extBut _ _ z2 (hk₂ _ _ (by simpa using z1) e)
        rcases List.mem_cons.mp hp with rfl | hp
        · exact ⟨keep _ _ (Ne.symm nID) (Ne.symm nCD) nD.1, nD.2⟩
        rcases List.mem_cons.mp hp with rfl | hp
        · exact ⟨keep _ _ nLl.1 nLl.2.1 (N _ (.head _)).1, (N _ (.head _)).2⟩
        · have z := N p (.tail _ (.tail _ (.tail _ (.tail _ hp))))
          exact ⟨keep _ _ (offK p hp).1 (offK p hp).2.1 z.1, z.2⟩
    · have := (N3 (I, _) (.tail _ (.head _))).1
      rw [hrs] at this
      show IsRangeIter _ _ _ _ _
      simpa using this
  exact codeAny_compStart_list (loop _ rfl) (W.self 0 _ _ _ (by
    have := (N3 (I, _) (.tail _ (.head _))).1
    rw [hrs] at this
    show IsRangeIter _ _ _ _ _
    simpa using this) (loop _ rfl))
end

section
variable {prog : Program} {w : World} {A : Around} {E : Value → Shared → Prop} {s : Shared} {gH : Heap} {Ll L : Addr} {oL : Obj} {m : Str → Option Value}
theorem comp1 (hh : A.handled = none) {elt iter : Expr} {y : Str} {py : Pos} {scope : Scope} {cl : List (Str × Addr)} {pos : Pos} {env : Env} {Kp : Led} {its : List (Addr × Obj)} {rs : List Int} {k : Int} {Q : Value → Shared → Prop}
    (hclos : closureFor scope env = pure cl) (hcell : ∀ y ∈ scope.names, y.2 ≠ .cell) (hkind : scope.kind = .function) (hnames : ∀ y ∈ scope.names, y.2 = .local → scope.names.lookup y.1 = some .local)
    (hs1 : ∀ x, foldedSetIterable iter env x = pure x) (hy : scope.names.lookup y = some .local)
    (F₀ : Fr gH L s.heap m)
    (hfirst : wpAny (model prog w) A (eval iter env) (fun xv s₁ => ∃ lx h tk sl, xv = .ref lx ∧ s₁ = { s with heap := h, toks := tk } ∧ Fr gH L h m ∧ News gH L h ((lx, lst0 (its.map fun q => Value.ref q.1)) :: (Ll, slt oL sl) :: Kp) ∧ lx ≠ Ll) E s)
    (helt : ∀ (C : Addr) (oC : Obj) (mC : Str → Option Value) (q : Addr × Obj) (r : Int) (sl : Array (Option Value)) (Kq : Led) (s : Shared) (Q E : Value → Shared → Prop), LCg.NsObj oC mC → mC y = some (.ref q.1) → ElAt prog w A gH Ll oL L m k q r → (C, oC) ∈ Kq → q ∈ Kq → (∀ q ∈ Kq, q.1 ≠ Ll) →
      Fr gH L s.heap m → News gH L s.heap ((Ll, slt oL sl) :: Kq) →
      (∀ (t' : Tok) (sl' : Array (Option Value)) (h' : Heap) (tk' : Nat), Fr gH L h' m → News gH L h' ((Ll, slt oL sl') :: Kq) → Q (.int r t') { s with heap := h', toks := tk' }) →
      wpAny (model prog w) A (eval elt (compEnvC scope cl C env)) Q E s)
    (hits : ∀ q ∈ its, q ∈ Kp) (hlen : rs.length = its.length) (hel : ∀ (j : Nat) (q : Addr × Obj) (r : Int), its[j]? = some q → rs[j]? = some r → ElAt prog w A gH Ll oL L m k q r)
    (hsz : its.length ≤ 100) (off : ∀ q ∈ Kp, q.1 ≠ Ll)
    (hQ : ∀ D h tk sl ys, Fr gH L h m → News gH L h ((D, LCg.lst ys) :: (Ll, slt oL sl) :: Kp) → IntsAre ys rs → Q (.ref D) { s with heap := h, toks := tk }) :
    wpAny (model prog w) A (eval (.ListComp elt [⟨.Name y py, iter, [], 0⟩] scope pos) env) Q E s := by
  refine LCg.ListComp_U F₀ hclos hcell hkind hnames hy (wpAny_mono hfirst (fun xv s₁ h₁ => ?_) fun _ _ e => e) hs1
  obtain ⟨lx, h, tk, sl, rfl, rfl, F, N, hlx⟩ := h₁
  have hisz : (its.map fun q => Value.ref q.1).toArray.size = its.length := by simp
  refine .inl ⟨lx, (its.map fun q => Value.ref q.1).toArray, _, rfl, hh, F, N, .inr ⟨_, .head _, rfl, _, rfl⟩, by rw [hisz]; exact Nat.le_trans hsz (by decide +kernel), fun s₂ hs₂ => ?_⟩
  obtain ⟨h₂, rfl⟩ := hs₂
  rw [hisz]
  have key : ∀ (n j : Nat) (ys : List Value) (sl : Array (Option Value)), n + j = its.length → IntsAre ys (rs.take j) →
      LCg.CompRest prog w A gH L m env elt y scope cl { { s with heap := h, toks := tk } with heap := h₂ } (LCg.SrcAt gH lx (its.map fun q => Value.ref q.1).toArray) (fun i v => (its.map fun q => Value.ref q.1).toArray[i]? = some v)
        (LCg.FinE gH L m { { s with heap := h, toks := tk } with heap := h₂ } Q) n j ys ((lx, lst0 (its.map fun q => Value.ref q.1)) :: (Ll, slt oL sl) :: Kp) := by
    intro n
    induction n with
    | zero =>
      intro j ys sl hj hz
      have e : rs.take j = rs := by
        rw [show j = rs.length by omega]
        exact List.take_length
      rw [e] at hz
      intro D h tk F N o1
      exact hQ D h tk sl ys F (fun p hp => N p (by
        rcases List.mem_cons.mp hp with rfl | hp
        · exact .head _
        · exact .tail _ (.tail _ hp))) hz
    | succ n ih =>
      intro j ys sl hj hz v I oI C oC D m₂ h₃ tk₃ E' hP hoC hm F N o3 hd
      have hlt : j < its.length := by omega
      obtain ⟨q, hq⟩ : ∃ q, its[j]? = some q := ⟨its[j], List.getElem?_eq_getElem hlt⟩
      obtain ⟨r, hr⟩ : ∃ r, rs[j]? = some r := ⟨rs[j], List.getElem?_eq_getElem (by rw [hlen]; exact hlt)⟩
      have hv : v = .ref q.1 := by
        have e : (its.map fun q => Value.ref q.1).toArray[j]? = some (.ref q.1) := by simp [hq]
        have e2 := e.symm.trans hP
        exact (Option.some.inj e2).symm
      subst hv
      have o3m := LCg.Off3.mem o3
      have oLl := o3m (Ll, slt oL sl) (.tail _ (.head _))
      refine helt C oC m₂ q r sl ((I, oI) :: (C, oC) :: (D, LCg.lst ys) :: (lx, lst0 (its.map fun q => Value.ref q.1)) :: Kp) _ _ _ hoC hm (hel j q r hq hr) (.tail _ (.head _)) (.tail _ (.tail _ (.tail _ (.tail _ (hits q (List.mem_of_getElem? hq)))))) (fun p hp => ?_) F (fun p hp => N p ?_) fun t' sl' h₄ tk₄ F₄ N₄ => ?_
      · rcases List.mem_cons.mp hp with rfl | hp
        · exact Ne.symm oLl.1
        rcases List.mem_cons.mp hp with rfl | hp
        · exact Ne.symm oLl.2.1
        rcases List.mem_cons.mp hp with rfl | hp
        · exact Ne.symm oLl.2.2
        rcases List.mem_cons.mp hp with rfl | hp
        · exact hlx
        · exact off p hp
      · rcases List.mem_cons.mp hp with rfl | hp
        · exact .tail _ (.tail _ (.tail _ (.tail _ (.head _))))
        rcases List.mem_cons.mp hp with rfl | hp
        · exact .head _
        rcases List.mem_cons.mp hp with rfl | hp
        · exact .tail _ (.head _)
        rcases List.mem_cons.mp hp with rfl | hp
        · exact .tail _ (.tail _ (.head _))
        rcases List.mem_cons.mp hp with rfl | hp
        · exact .tail _ (.tail _ (.tail _ (.head _)))
        · exact .tail _ (.tail _ (.tail _ (.tail _ (.tail _ hp))))
      · refine LCg.CompEnd.intro F₄ N₄ ((lx, lst0 (its.map fun q => Value.ref q.1)) :: (Ll, slt oL sl') :: Kp) (fun p hp => ?_) ?_ (.inr ⟨_, .head _, rfl, _, rfl⟩) (ih (j + 1) _ sl' (by omega) ?_)
        · rcases List.mem_cons.mp hp with rfl | hp
          · exact .tail _ (.head _)
          rcases List.mem_cons.mp hp with rfl | hp
          · exact .tail _ (.tail _ (.head _))
          rcases List.mem_cons.mp hp with rfl | hp
          · exact .tail _ (.tail _ (.tail _ (.head _)))
          rcases List.mem_cons.mp hp with rfl | hp
          · exact .tail _ (.tail _ (.tail _ (.tail _ (.head _))))
          rcases List.mem_cons.mp hp with rfl | hp
          · exact .head _
          · exact .tail _ (.tail _ (.tail _ (.tail _ (.tail _ hp))))
        · exact ⟨o3.1, o3.2.1, o3.2.2⟩
        · have e : rs.take (j + 1) = rs.take j ++ [r] := by rw [List.take_add_one, hr]; rfl
          rw [e]
          exact ints_snoc hz
  exact key _ 0 [] sl (by omega) (by simpa using IntsAre.nil)

theorem load_cell {M : Model} {env : Env} {x : Str} {pos : Pos} {c : Addr} {o : Obj} {v : Value} {Q : Value → Shared → Prop} {g : Heap} {news : Led} (N : News g L s.heap news) (hm : (c, o) ∈ news) (hd : o.data = .cell (some v)) (hc : env.cells.lookup x = some c)
    (hk : env.scope.kind = .function) (hl : env.kindOf x = some .cell) (h : Q v s) (hb : (x == ("__debug__" : Str)) = false) : wpAny M A (eval (.Name x pos) env) Q E s :=
  wpAny_Name (wpAny_loadName_cell hk hl hc ⟨o, N.get hm, hd⟩ h) hb

/-- three names that are cells, in a list -/
theorem list3 {M : Model} {env : Env} {x1 x2 x3 : Str} {p1 p2 p3 pos : Pos} {c1 c2 c3 : Addr} {o1 o2 o3 : Obj} {v1 v2 v3 : Value} {Q : Value → Shared → Prop} {g : Heap} {news : Led} (F : Fr g L s.heap m) (N : News g L s.heap news)
    (hm1 : (c1, o1) ∈ news) (hd1 : o1.data = .cell (some v1)) (hc1 : env.cells.lookup x1 = some c1) (hl1 : env.kindOf x1 = some .cell) (hb1 : (x1 == ("__debug__" : Str)) = false)
    (hm2 : (c2, o2) ∈ news) (hd2 : o2.data = .cell (some v2)) (hc2 : env.cells.lookup x2 = some c2) (hl2 : env.kindOf x2 = some .cell) (hb2 : (x2 == ("__debug__" : Str)) = false)
    (hm3 : (c3, o3) ∈ news) (hd3 : o3.data = .cell (some v3)) (hc3 : env.cells.lookup x3 = some c3) (hl3 : env.kindOf x3 = some .cell) (hb3 : (x3 == ("__debug__" : Str)) = false)
    (hk : env.scope.kind = .function)
    (h : ∀ lx h', Fr g L h' m → News g L h' ((lx, lst0 [v1, v2, v3]) :: news) → (∀ p ∈ news, p.1 ≠ lx) → Q (.ref lx) { s with heap := h' }) : wpAny M A (eval (.List [.Name x1 p1, .Name x2 p2, .Name x3 p3] pos) env) Q E s := by
  refine List_ (args_cons (load_cell N hm1 hd1 hc1 hk hl1 ?_ hb1) (by rfl))
  refine args_cons (load_cell N hm2 hd2 hc2 hk hl2 ?_ hb2) (by rfl)
  refine args_cons (load_cell N hm3 hd3 hc3 hk hl3 ?_ hb3) (by rfl)
  refine args_nil ?_
  exact newList_N F N (fun h' F' N' => h _ h' F' N' fun p hp => Nat.ne_of_lt (Heap.lt_size (N p hp).1))
end

section
variable {prog : Program} {w : World} {A : Around} {Q E : Value → Shared → Prop} {s : Shared} {K : Frag} {h₀ : Heap} {L : Addr} {m : Str → Option Value} {news : List (Addr × Obj)}
theorem reads_ledT {D : Addr} {a b c d : Int} {ta tb tc td : Tok} {n : Nat} (N : News h₀ L s.heap news) (hm : (D, ({ cls := .type "tuple", data := .seq #[.int a ta, .int b tb, .int c tc, .int d td] n } : Obj)) ∈ news) :
    ∃ as, Reads s.heap (.ref D) (T4 (a, b, c, d)) as :=
  ⟨_, reads_tuple_at (N.get hm) rfl rfl (ReadsAll.cons (Reads.int _ _) (ReadsAll.cons (Reads.int _ _) (ReadsAll.cons (Reads.int _ _) (ReadsAll.cons (Reads.int _ _) ReadsAll.nil))))⟩
theorem reads_K {D : Addr} {a b c d : Int} {ta tb tc td : Tok} {n : Nat} {dd : Option Addr} {sl : Array (Option Value)} (F : Fr h₀ L s.heap m) (X : K.In h₀) (hl : K.lookup D = some ⟨.type "tuple", dd, .seq #[.int a ta, .int b tb, .int c tc, .int d td] n, sl⟩) :
    ∃ as, Reads s.heap (.ref D) (T4 (a, b, c, d)) as :=
  ⟨_, reads_tuple_at (F.keep _ _ (X _ _ hl)) rfl rfl (ReadsAll.cons (Reads.int _ _) (ReadsAll.cons (Reads.int _ _) (ReadsAll.cons (Reads.int _ _) (ReadsAll.cons (Reads.int _ _) ReadsAll.nil))))⟩
theorem cmp_ledK {D D' : Addr} {a b c d a' b' c' d' : Int} {ta tb tc td ta' tb' tc' td' : Tok} {n n' : Nat} {dd : Option Addr} {sl : Array (Option Value)} {r : Bool} (F : Fr h₀ L s.heap m) (X : K.In h₀) (N : News h₀ L s.heap news)
    (hm : (D, ({ cls := .type "tuple", data := .seq #[.int a ta, .int b tb, .int c tc, .int d td] n } : Obj)) ∈ news) (hl : K.lookup D' = some ⟨.type "tuple", dd, .seq #[.int a' ta', .int b' tb', .int c' tc', .int d' td'] n', sl⟩)
    (hu : A.units + 64 < cLine) (hr : PyData.eqv (T4 (a, b, c, d)) (T4 (a', b', c', d')) = r) (h : Q (.bool r) s) : wpAny (model prog w) A (compareOp .Eq (.ref D) (.ref D')) Q E s := by
  obtain ⟨_, q1⟩ := reads_ledT N hm
  obtain ⟨_, q2⟩ := reads_K F X hl
  exact eq_dataH q1 q2 rfl rfl hu (hr ▸ h)
theorem in_ledK {D T D1 D2 : Addr} {a b c d a1 b1 c1 d1 a2 b2 c2 d2 : Int} {ta tb tc td ta1 tb1 tc1 td1 ta2 tb2 tc2 td2 : Tok} {n n1 n2 n3 : Nat} {dd1 dd2 : Option Addr} {sl1 sl2 : Array (Option Value)} {r : Bool} (F : Fr h₀ L s.heap m) (X : K.In h₀) (N : News h₀ L s.heap news)
    (hm : (D, ({ cls := .type "tuple", data := .seq #[.int a ta, .int b tb, .int c tc, .int d td] n } : Obj)) ∈ news) (hT : (T, ({ cls := .type "tuple", data := .seq #[.ref D1, .ref D2] n3 } : Obj)) ∈ news)
    (hl1 : K.lookup D1 = some ⟨.type "tuple", dd1, .seq #[.int a1 ta1, .int b1 tb1, .int c1 tc1, .int d1 td1] n1, sl1⟩) (hl2 : K.lookup D2 = some ⟨.type "tuple", dd2, .seq #[.int a2 ta2, .int b2 tb2, .int c2 tc2, .int d2 td2] n2, sl2⟩)
    (hu : A.units + 64 < cLine) (hr : ([T4 (a1, b1, c1, d1), T4 (a2, b2, c2, d2)].any fun y => PyData.eqv y (T4 (a, b, c, d))) = r) (h : Q (.bool r) s) : wpAny (model prog w) A (compareOp .In (.ref D) (.ref T)) Q E s := by
  obtain ⟨_, q1⟩ := reads_ledT N hm
  obtain ⟨_, q2⟩ := reads_K F X hl1
  obtain ⟨_, q3⟩ := reads_K F X hl2
  exact SeqAt.in_tuple_reads (reads_tuple_at (N.get hT) rfl rfl (ReadsAll.cons q2 (ReadsAll.cons q3 ReadsAll.nil))) q1 rfl rfl (by have h2 := hu; simp only [T4, PyData.depth, PyData.depthAll]; omega) (hr ▸ h)
end
local macro_rules | `(tactic| walk_at "compareOp Eq ref ref") => `(tactic| (k_here; (with_reducible show wpAny _ _ (compareOp CmpOp.Eq (Value.ref _) (Value.ref _)) _ _ _); (refine' cmp_ledK ?a ?b ?c ?d ?e ?f ?g ?_; (case a => k_asm); (case b => k_asm); (case c => k_asm); (case d => k_mem); (case e => rfl); (case f => units_room); (case g => (first | exact (rfl : _ = true) | exact (rfl : _ = false))); k_whole)))
local macro_rules | `(tactic| walk_at "compareOp In ref ref") => `(tactic| (k_here; (with_reducible show wpAny _ _ (compareOp CmpOp.In (Value.ref _) (Value.ref _)) _ _ _); (refine' in_ledK ?a ?b ?c ?d ?x ?e ?e2 ?f ?g ?_; (case a => k_asm); (case b => k_asm); (case c => k_asm); (case d => k_mem); (case x => k_mem); (case e => rfl); (case e2 => rfl); (case f => units_room); (case g => (first | exact (rfl : _ = true) | exact (rfl : _ = false))); k_whole)))


section
variable {prog : Program} {w : World} {A₀ A : Around} {s : Shared} {base h₀ : Heap} {outer : List Env} {L : Addr} {m : Str → Option Value} {env : Env} {news : List (Addr × Obj)} {K : Frag} {p : Program} {loose : List Str} {mean : ExcName → Option Value} {mg mb : Str → Option Value}
  {R : Result → Shared → Prop} {name qual : Str} {params : Arguments} {body : List Stmt} {scope : Scope} {dV kV doc pm cdv ct oc : Value} {an od : Option Addr} {osl : Array (Option Value)} {f : Addr} {args : Args} {binds : List (Str × Value)}
theorem mem_frames {b : Addr} (hf : env.frame = some L) (hm : b ∈ (env :: outer).filterMap (·.frame)) : b = L ∨ b ∈ outer.filterMap (·.frame) := by
  obtain ⟨env', he, hf'⟩ := List.mem_filterMap.mp hm
  rcases List.mem_cons.mp he with rfl | he
  · exact .inl (Option.some.inj (hf'.symm.trans hf))
  · exact .inr (List.mem_filterMap.mpr ⟨env', he, hf'⟩)
theorem leaveT_end {mL : Str → Option Value} (B : Below A₀ base outer h₀) (F : Fr h₀ L s.heap m) (N : News h₀ L s.heap news) (T : Top p loose mean mg mb h₀) (XB : K.In base) (TB : Top p loose mean mg mb base) (D : KtsDicts (outer.filterMap (·.frame)) h₀)
    (hA : A.frames = some (env :: outer)) (hf : env.frame = some L) (hke : env.scope.kind = .function) :
    ∀ v s', LeaveS ((env :: outer).filterMap (·.frame)) A₀ base outer K p loose mean mg mb h₀ h₀ L m (hideAll s.heap (news.map (·.1))) R v s' → R (.ok (.ret v)) s' := by
  intro v s' hl
  obtain ⟨FG, BG, st, lv⟩ := groundX (R := R) B F N hA hf hke
  obtain ⟨oL, es, ep, hLg, hLd, hLk, hLf⟩ := FG.ns
  have nL₀ : h₀.get? L = none := kts_self F
  rcases hl with ⟨L', m', news', F', N', k⟩ | ⟨g', L', m', news', T', F', N', k⟩
  · exact lv _ _ ⟨L', m', news', F', N', k⟩
  obtain ⟨sl, hs⟩ := T'.up hLg
  obtain ⟨T₁, S₁⟩ := kts_turn_at (h := s'.heap) (fs := outer.filterMap (·.frame)) (g := h₀)
    (fun b hb => by
      obtain ⟨_, o, ho', _⟩ := B.frames.mem hb
      exact ⟨o, ho'⟩)
    (fun b o e nmem => F'.keep b o (T'.other b o (st b o e) (fun q => by
      rcases mem_frames hf q with z | z
      · rw [z, nL₀] at e
        cases e
      · exact nmem z)))
    (fun b o e hm => by
      obtain ⟨sl', hs'⟩ := T'.up (st b o e)
      exact ⟨sl', F'.keep _ _ hs'⟩)
  have B₃ : Below A₀ base outer (ktsHeap s'.heap (outer.filterMap (·.frame)) h₀) := ⟨B.stack, fun b o e => T₁.other b o (B.stays b o e) (fun hm => by
    rw [(B.frames.mem hm).1] at e
    cases e), B.frames.of_keeps fun b o e _ => by
    obtain ⟨sl', hs'⟩ := T₁.up e
    exact ⟨_, hs', rfl⟩⟩
  refine k _ T₁ ⟨⟨_, es, ep, F'.keep _ _ hs, hLd, hLk, hLf⟩, S₁, by rw [T₁.size]; exact F.above⟩ (fun p hp => ⟨(N' p hp).1, fun q => ?_, ?_⟩) B₃ (XB.keeps B₃.stays) (TB.keeps B₃.stays) (D.turn T₁)
  · have := (N' p hp).2.2; rw [q, hs] at this; cases this
  · refine T₁.none_ _ ?_
    cases q : h₀.get? p.1 with
    | none => rfl
    | some o =>
      obtain ⟨sl', hs'⟩ := T'.up (st _ _ q)
      have := (N' p hp).2.2
      rw [hs'] at this
      cases this
theorem dictsT (F : Fr h₀ L s.heap m) (N : News h₀ L s.heap news) (B : Below A₀ base outer h₀) (D : KtsDicts (outer.filterMap (·.frame)) h₀) (hA : A.frames = some (env :: outer)) (hf : env.frame = some L) (hke : env.scope.kind = .function) :
    KtsDicts ((env :: outer).filterMap (·.frame)) (hideAll s.heap (news.map (·.1))) := by
  obtain ⟨FG, BG, st, lv⟩ := groundX (R := fun _ _ => True) B F N hA hf hke
  obtain ⟨oL, es, ep, hLg, hLd, hLk, hLf⟩ := FG.ns
  intro b hb
  rcases mem_frames hf hb with rfl | hb
  · exact ⟨oL, es, ep, hLg, hLd⟩
  · obtain ⟨o, es', n', ho', hd'⟩ := D b hb
    exact ⟨o, es', n', st b o ho', hd'⟩
/-- a def that may catch what it raises, called out of any frame -/
theorem code_defT (B : Below A₀ base outer h₀) (F : Fr h₀ L s.heap m) (X₀ : K.In h₀) (N : News h₀ L s.heap news) (T : Top p loose mean mg mb h₀) (XB : K.In base) (TB : Top p loose mean mg mb base) (D : KtsDicts (outer.filterMap (·.frame)) h₀)
    (hA : A.frames = some (env :: outer)) (hf : env.frame = some L) (hke : env.scope.kind = .function)
    (ho : K.lookup f = some ⟨oc, od, .func (fnOf name qual params body scope dV kV doc pm an cdv ct), osl⟩) (hcd : codeIn K cdv qual = true) (hroom : A.depth < recursionLimit)
    (hbind : BindsTo s (fnOf name qual params body scope dV kV doc pm an cdv ct) args binds) (hloc : ∀ y ∈ binds, scope.names.lookup y.1 = some .local)
    (h : ∀ g L' h₁, Fr h₀ L g m → Fr g L' h₁ (fun y => binds.reverse.lookup y) → News g L' h₁ news → Below A base (env :: outer) g → K.In g → Top p loose mean mg mb g → KtsDicts ((env :: outer).filterMap (·.frame)) g →
      wpAny (model prog w) (A.deeper (envOf qual scope L' f cdv)) (execs body (envOf qual scope L' f cdv))
        (fun fl s' => LeaveS ((env :: outer).filterMap (·.frame)) A₀ base outer K p loose mean mg mb h₀ h₀ L m g R (match fl with | .ret v => v | _ => .none) s')
        (fun e s' => wpAny (model prog w) (A.deeper (envOf qual scope L' f cdv)) (leaving (envOf qual scope L' f cdv) e) (fun _ s'' => R (.error e) s'') (fun e' s'' => R (.error e') s'') s')
        { s with heap := h₁, toks := s.toks + binds.length })
    (hco : scope.isCoroutine = false) (hgen : scope.isGenerator = false) (hk : scope.kind = .function)
    (hcell : ∀ x ∈ scope.names, x.2 ≠ .cell) : codeAny (model prog w) A (.call (.ref f) args) R s := by
  have X := X₀.keeps F.keep
  obtain ⟨FG, BG, st, lv⟩ := groundX (R := R) B F N hA hf hke
  refine codeAny_call_def (fd := fnOf name qual params body scope dV kV doc pm an cdv ct) (body := body) (binds := binds) hroom (X _ _ ho) rfl (T.nolimit.keeps F.keep) (codeRec_of X hcd) rfl hbind hcell hloc (fun h₁ hns hk₁ => ?_) hco hgen hk
  exact wpAny_mono (h _ s.heap.objs.size h₁ FG ⟨hns, fun b o e => hk₁ b o (of_hideAll _ e), Nat.le_of_eq (hideAll_size _ _)⟩
    (fun p hp => ⟨hk₁ _ _ (N p hp).1, Nat.ne_of_lt (Heap.lt_size (N p hp).1), hideAll_none _ (List.mem_map_of_mem hp)⟩) BG (X₀.keeps st) (T.keeps st) (dictsT F N B D hA hf hke)) (fun fl s' hl => leaveT_end (mL := m) B F N T XB TB D hA hf hke _ _ hl) fun _ _ y => y
/-- the same, its names in part cells -/
theorem code_defCT (B : Below A₀ base outer h₀) (F : Fr h₀ L s.heap m) (X₀ : K.In h₀) (N : News h₀ L s.heap news) (T : Top p loose mean mg mb h₀) (XB : K.In base) (TB : Top p loose mean mg mb base) (D : KtsDicts (outer.filterMap (·.frame)) h₀)
    (hA : A.frames = some (env :: outer)) (hf : env.frame = some L) (hke : env.scope.kind = .function)
    (ho : K.lookup f = some ⟨oc, od, .func (fnOf name qual params body scope dV kV doc pm an cdv ct), osl⟩) (hcd : codeIn K cdv qual = true) (hroom : A.depth < recursionLimit)
    (hbind : BindsTo s (fnOf name qual params body scope dV kV doc pm an cdv ct) args binds) (hkind : (binds.all fun y => scope.names.lookup y.1 == some .local || scope.names.lookup y.1 == some .cell) = true)
    (hnd : ((cellsFrom 0 scope.names []).map (·.1)).Nodup)
    (h : ∀ g L' h₁ tk cells, Fr h₀ L g m → Fr g L' h₁ (bindL (envOfC qual scope L' f cdv).kindOf binds fun _ => none) → News g L' h₁ (cells ++ news) →
      CellsAre (bindC (envOfC qual scope L' f cdv).kindOf binds fun _ => none) (cellsFrom (L' + 1) scope.names []) cells → Below A base (env :: outer) g → K.In g → Top p loose mean mg mb g → KtsDicts ((env :: outer).filterMap (·.frame)) g → (∀ p ∈ news, p.1 < L') →
      wpAny (model prog w) (A.deeper (envOfC qual scope L' f cdv)) (execs body (envOfC qual scope L' f cdv))
        (fun fl s' => LeaveS ((env :: outer).filterMap (·.frame)) A₀ base outer K p loose mean mg mb h₀ h₀ L m g R (match fl with | .ret v => v | _ => .none) s')
        (fun e s' => wpAny (model prog w) (A.deeper (envOfC qual scope L' f cdv)) (leaving (envOfC qual scope L' f cdv) e) (fun _ s'' => R (.error e) s'') (fun e' s'' => R (.error e') s'') s')
        { s with heap := h₁, toks := tk })
    (hco : scope.isCoroutine = false) (hgen : scope.isGenerator = false) (hk : scope.kind = .function) : codeAny (model prog w) A (.call (.ref f) args) R s := by
  have X := X₀.keeps F.keep
  obtain ⟨FG, BG, st, lv⟩ := groundX (R := R) B F N hA hf hke
  refine codeAny_call_function (fd := fnOf name qual params body scope dV kV doc pm an cdv ct) hroom (X _ _ ho) rfl hco hgen rfl (codeRec_of X hcd) (hbind _ _ _ _ ?_)
  refine wpAny_newFunctionEnv_cells hk (kindsX hkind _) fun env' he s' x => ?_
  subst he
  refine ⟨(T.nolimit.keeps F.keep).keeps x.toInCall.keep, codeAny_func ?_⟩
  obtain ⟨h₁, tk, rfl, _⟩ := x.done
  have hk₁ := x.toInCall.keep
  obtain ⟨cells, NC, Y⟩ := Cl.news (h₀ := s.heap) (Nat.le_refl _) fun n c hm => ⟨x.cell n c (lookup_of_mem_nodup (cellsFrom_names scope.names 0 (s.heap.objs.size + 1) [] [] rfl ▸ hnd) hm), x.above n c hm⟩
  refine wpAny_mono (h _ s.heap.objs.size h₁ tk cells FG ⟨x.toInCall.ns, fun b o e => hk₁ b o (of_hideAll _ e), Nat.le_of_eq (hideAll_size _ _)⟩ (fun p hp => ?_) Y BG (X₀.keeps st) (T.keeps st) (dictsT F N B D hA hf hke) (fun p hp => Heap.lt_size (N p hp).1)) (fun fl s' hl => leaveT_end (mL := m) B F N T XB TB D hA hf hke _ _ hl) fun _ _ y => y
  rcases List.mem_append.mp hp with hp | hp
  · refine ⟨(NC p hp).1, (NC p hp).2.1, ?_⟩
    cases q : (hideAll s.heap (news.map (·.1))).get? p.1 with
    | none => rfl
    | some o => have := of_hideAll _ q; rw [(NC p hp).2.2] at this; cases this
  · exact ⟨hk₁ _ _ (N p hp).1, Nat.ne_of_lt (Heap.lt_size (N p hp).1), hideAll_none _ (List.mem_map_of_mem hp)⟩
end

local macro_rules | `(tactic| walk_at "compareOp Eq ref ref") => `(tactic| (k_here; (with_reducible show wpAny _ _ (compareOp CmpOp.Eq (Value.ref _) (Value.ref _)) _ _ _); (refine' cmp_ledK ?a ?b ?c ?d ?e ?f ?g ?_; (case a => k_asm); (case b => k_asm); (case c => k_asm); (case d => k_mem); (case e => rfl); (case f => units_room); (case g => (first | exact (rfl : _ = true) | exact (rfl : _ = false))); k_whole)))
local macro_rules | `(tactic| walk_at "compareOp In ref ref") => `(tactic| (k_here; (with_reducible show wpAny _ _ (compareOp CmpOp.In (Value.ref _) (Value.ref _)) _ _ _); (refine' in_ledK ?a ?b ?c ?d ?x ?e ?e2 ?f ?g ?_; (case a => k_asm); (case b => k_asm); (case c => k_asm); (case d => k_mem); (case x => k_mem); (case e => rfl); (case e2 => rfl); (case f => units_room); (case g => (first | exact (rfl : _ = true) | exact (rfl : _ = false))); k_whole)))

set_option maxHeartbeats 8000000 in
theorem err0g (w : World) : ∀ {gd : Option (List Code)} {cn : Str} {cs : Scope} {a : Addr} {ccd : Value} {cl : List (Str × Addr)} {outer : List Env} {A₀ : Around} {base h₀ : Heap} {L : Addr} {m : Str → Option Value} {p : Program} {loose : List Str} {mean : ExcName → Option Value} {mg mb : Str → Option Value} {news : List (Addr × Obj)} {D : Addr} {t0 t1 t2 t3 t4 : Tok} {s : Shared},
    Below A₀ base outer h₀ → Fr h₀ L s.heap m → (Mine.hd.heap_39 w.params).In h₀ → (Mine.hd.heap_39 w.params).In base → Top p loose mean mg mb base → KtsDicts (outer.filterMap (·.frame)) h₀ → News h₀ L s.heap ((D, { cls := .type "tuple", data := .seq #[.int 0 t1, .int 0 t2, .int (-456) t3, .int (-2) t4] }) :: news) → Top p loose mean mg mb h₀ → cs.kind = .function → ∀ {Q E : Value → Shared → Prop},
    (∀ t (h' h₀' : Heap) (tk' : Nat), KtsTurn (outer.filterMap (·.frame)) h₀ h₀' → Fr h₀' L h' m → News h₀' L h' ((D, { cls := .type "tuple", data := .seq #[.int 0 t1, .int 0 t2, .int (-456) t3, .int (-2) t4] }) :: news) → Q (.int 1 t) { s with heap := h', toks := tk' }) →
    wpAny (model PySem.Challenge.rw_ah5008_01.row.prog w) (ktrTop 303 10 gd cn cs L a ccd cl outer) (call (.ref 204) [.int 0 t0, .ref D]) Q E s := by
  k_fill
  intro gd cn cs a ccd cl outer A₀ base h₀ L m p loose mean mg mb news D t0 t1 t2 t3 t4 s B F X XB TB KD N T hcs Q E hret
  refine wpAny_call ?_
  k_dflt (refine' code_defT ?k1 ?k2 ?k3 ?k4 ?k5 ?XB ?TB ?D ?kA ?kF ?kK ?k6 ?k7 ?k8 ?k9 ?kB ?_ ?c2 ?c3 ?c4 ?c5; (case kA => exact rfl); (case kF => exact rfl); (case kK => assumption); (case k1 => k_asm); (case k2 => k_asm); (case k3 => k_asm); (case k4 => k_asm); (case k5 => k_asm); (case XB => assumption); (case TB => assumption); (case D => assumption); (case k6 => k_is); (case k7 => k_is); (case k8 => ktr_room); (case k9 => exact BindsTo.of_eq rfl); (case c5 => decide); (case kB => exact locs rfl); (case c2 => exact rfl); (case c3 => exact rfl); (case c4 => exact rfl); k_whole; intro g' L' h' FG' F' N' B' X' T' D'; (try dsimp only); (try k_lift B'); (try k_fold))
  clear KD FG'
  k_steps
  exact hret _ _ _ _ (by assumption) (by assumption) (by first | assumption | (rename News _ _ _ (_ :: _ :: _) => kNN; exact fun p hp => kNN p (List.Mem.tail _ hp)))

set_option maxHeartbeats 8000000 in
theorem err0l (w : World) : ∀ {gd : Option (List Code)} {cn : Str} {cs : Scope} {a : Addr} {ccd : Value} {cl : List (Str × Addr)} {outer : List Env} {A₀ : Around} {base h₀ : Heap} {L : Addr} {m : Str → Option Value} {p : Program} {loose : List Str} {mean : ExcName → Option Value} {mg mb : Str → Option Value} {news : List (Addr × Obj)} {D : Addr} {t0 t1 t2 t3 t4 : Tok} {s : Shared},
    Below A₀ base outer h₀ → Fr h₀ L s.heap m → (Mine.hd.heap_39 w.params).In h₀ → (Mine.hd.heap_39 w.params).In base → Top p loose mean mg mb base → KtsDicts (outer.filterMap (·.frame)) h₀ → News h₀ L s.heap ((D, { cls := .type "tuple", data := .seq #[.int 1 t1, .int 0 t2, .int (-789) t3, .int (-3) t4] }) :: news) → Top p loose mean mg mb h₀ → cs.kind = .function → ∀ {Q E : Value → Shared → Prop},
    (∀ t (h' h₀' : Heap) (tk' : Nat), KtsTurn (outer.filterMap (·.frame)) h₀ h₀' → Fr h₀' L h' m → News h₀' L h' ((D, { cls := .type "tuple", data := .seq #[.int 1 t1, .int 0 t2, .int (-789) t3, .int (-3) t4] }) :: news) → Q (.int 1 t) { s with heap := h', toks := tk' }) →
    wpAny (model PySem.Challenge.rw_ah5008_01.row.prog w) (ktrTop 303 10 gd cn cs L a ccd cl outer) (call (.ref 204) [.int 0 t0, .ref D]) Q E s := by
  k_fill
  intro gd cn cs a ccd cl outer A₀ base h₀ L m p loose mean mg mb news D t0 t1 t2 t3 t4 s B F X XB TB KD N T hcs Q E hret
  refine wpAny_call ?_
  k_dflt (refine' code_defT ?k1 ?k2 ?k3 ?k4 ?k5 ?XB ?TB ?D ?kA ?kF ?kK ?k6 ?k7 ?k8 ?k9 ?kB ?_ ?c2 ?c3 ?c4 ?c5; (case kA => exact rfl); (case kF => exact rfl); (case kK => assumption); (case k1 => k_asm); (case k2 => k_asm); (case k3 => k_asm); (case k4 => k_asm); (case k5 => k_asm); (case XB => assumption); (case TB => assumption); (case D => assumption); (case k6 => k_is); (case k7 => k_is); (case k8 => ktr_room); (case k9 => exact BindsTo.of_eq rfl); (case c5 => decide); (case kB => exact locs rfl); (case c2 => exact rfl); (case c3 => exact rfl); (case c4 => exact rfl); k_whole; intro g' L' h' FG' F' N' B' X' T' D'; (try dsimp only); (try k_lift B'); (try k_fold))
  clear KD FG'
  k_steps
  exact hret _ _ _ _ (by assumption) (by assumption) (by first | assumption | (rename News _ _ _ (_ :: _ :: _) => kNN; exact fun p hp => kNN p (List.Mem.tail _ hp)))

set_option maxHeartbeats 8000000 in
theorem err0n (w : World) : ∀ {gd : Option (List Code)} {cn : Str} {cs : Scope} {a : Addr} {ccd : Value} {cl : List (Str × Addr)} {outer : List Env} {A₀ : Around} {base h₀ : Heap} {L : Addr} {m : Str → Option Value} {p : Program} {loose : List Str} {mean : ExcName → Option Value} {mg mb : Str → Option Value} {news : List (Addr × Obj)} {D : Addr} {t0 t1 t2 t3 t4 : Tok} {s : Shared},
    Below A₀ base outer h₀ → Fr h₀ L s.heap m → (Mine.hd.heap_39 w.params).In h₀ → (Mine.hd.heap_39 w.params).In base → Top p loose mean mg mb base → KtsDicts (outer.filterMap (·.frame)) h₀ → News h₀ L s.heap ((D, { cls := .type "tuple", data := .seq #[.int 0 t1, .int 0 t2, .int (-123) t3, .int (-1) t4] }) :: news) → Top p loose mean mg mb h₀ → cs.kind = .function → ∀ {Q E : Value → Shared → Prop},
    (∀ t (h' h₀' : Heap) (tk' : Nat), KtsTurn (outer.filterMap (·.frame)) h₀ h₀' → Fr h₀' L h' m → News h₀' L h' ((D, { cls := .type "tuple", data := .seq #[.int 0 t1, .int 0 t2, .int (-123) t3, .int (-1) t4] }) :: news) → Q (.int 2 t) { s with heap := h', toks := tk' }) →
    wpAny (model PySem.Challenge.rw_ah5008_01.row.prog w) (ktrTop 303 10 gd cn cs L a ccd cl outer) (call (.ref 204) [.int 0 t0, .ref D]) Q E s := by
  k_fill
  intro gd cn cs a ccd cl outer A₀ base h₀ L m p loose mean mg mb news D t0 t1 t2 t3 t4 s B F X XB TB KD N T hcs Q E hret
  refine wpAny_call ?_
  k_dflt (refine' code_defT ?k1 ?k2 ?k3 ?k4 ?k5 ?XB ?TB ?D ?kA ?kF ?kK ?k6 ?k7 ?k8 ?k9 ?kB ?_ ?c2 ?c3 ?c4 ?c5; (case kA => exact rfl); (case kF => exact rfl); (case kK => assumption); (case k1 => k_asm); (case k2 => k_asm); (case k3 => k_asm); (case k4 => k_asm); (case k5 => k_asm); (case XB => assumption); (case TB => assumption); (case D => assumption); (case k6 => k_is); (case k7 => k_is); (case k8 => ktr_room); (case k9 => exact BindsTo.of_eq rfl); (case c5 => decide); (case kB => exact locs rfl); (case c2 => exact rfl); (case c3 => exact rfl); (case c4 => exact rfl); k_whole; intro g' L' h' FG' F' N' B' X' T' D'; (try dsimp only); (try k_lift B'); (try k_fold))
  clear KD FG'
  k_steps
  exact hret _ _ _ _ (by assumption) (by assumption) (by first | assumption | (rename News _ _ _ (_ :: _ :: _) => kNN; exact fun p hp => kNN p (List.Mem.tail _ hp)))

set_option maxHeartbeats 8000000 in
theorem err1g (w : World) : ∀ {gd : Option (List Code)} {cn : Str} {cs : Scope} {a : Addr} {ccd : Value} {cl : List (Str × Addr)} {outer : List Env} {A₀ : Around} {base h₀ : Heap} {L : Addr} {m : Str → Option Value} {p : Program} {loose : List Str} {mean : ExcName → Option Value} {mg mb : Str → Option Value} {news : List (Addr × Obj)} {D : Addr} {t0 t1 t2 t3 t4 : Tok} {s : Shared},
    Below A₀ base outer h₀ → Fr h₀ L s.heap m → (Mine.hd.heap_39 w.params).In h₀ → (Mine.hd.heap_39 w.params).In base → Top p loose mean mg mb base → KtsDicts (outer.filterMap (·.frame)) h₀ → News h₀ L s.heap ((D, { cls := .type "tuple", data := .seq #[.int 0 t1, .int 0 t2, .int (-456) t3, .int (-2) t4] }) :: news) → Top p loose mean mg mb h₀ → cs.kind = .function → ∀ {Q E : Value → Shared → Prop},
    (∀ t (h' h₀' : Heap) (tk' : Nat), KtsTurn (outer.filterMap (·.frame)) h₀ h₀' → Fr h₀' L h' m → News h₀' L h' ((D, { cls := .type "tuple", data := .seq #[.int 0 t1, .int 0 t2, .int (-456) t3, .int (-2) t4] }) :: news) → Q (.int 1 t) { s with heap := h', toks := tk' }) →
    wpAny (model PySem.Challenge.rw_ah5008_01.row.prog w) (ktrTop 303 10 gd cn cs L a ccd cl outer) (call (.ref 204) [.int 1 t0, .ref D]) Q E s := by
  k_fill
  intro gd cn cs a ccd cl outer A₀ base h₀ L m p loose mean mg mb news D t0 t1 t2 t3 t4 s B F X XB TB KD N T hcs Q E hret
  refine wpAny_call ?_
  k_dflt (refine' code_defT ?k1 ?k2 ?k3 ?k4 ?k5 ?XB ?TB ?D ?kA ?kF ?kK ?k6 ?k7 ?k8 ?k9 ?kB ?_ ?c2 ?c3 ?c4 ?c5; (case kA => exact rfl); (case kF => exact rfl); (case kK => assumption); (case k1 => k_asm); (case k2 => k_asm); (case k3 => k_asm); (case k4 => k_asm); (case k5 => k_asm); (case XB => assumption); (case TB => assumption); (case D => assumption); (case k6 => k_is); (case k7 => k_is); (case k8 => ktr_room); (case k9 => exact BindsTo.of_eq rfl); (case c5 => decide); (case kB => exact locs rfl); (case c2 => exact rfl); (case c3 => exact rfl); (case c4 => exact rfl); k_whole; intro g' L' h' FG' F' N' B' X' T' D'; (try dsimp only); (try k_lift B'); (try k_fold))
  clear KD FG'
  k_steps
  exact hret _ _ _ _ (by assumption) (by assumption) (by first | assumption | (rename News _ _ _ (_ :: _ :: _) => kNN; exact fun p hp => kNN p (List.Mem.tail _ hp)))

set_option maxHeartbeats 8000000 in
theorem err1l (w : World) : ∀ {gd : Option (List Code)} {cn : Str} {cs : Scope} {a : Addr} {ccd : Value} {cl : List (Str × Addr)} {outer : List Env} {A₀ : Around} {base h₀ : Heap} {L : Addr} {m : Str → Option Value} {p : Program} {loose : List Str} {mean : ExcName → Option Value} {mg mb : Str → Option Value} {news : List (Addr × Obj)} {D : Addr} {t0 t1 t2 t3 t4 : Tok} {s : Shared},
    Below A₀ base outer h₀ → Fr h₀ L s.heap m → (Mine.hd.heap_39 w.params).In h₀ → (Mine.hd.heap_39 w.params).In base → Top p loose mean mg mb base → KtsDicts (outer.filterMap (·.frame)) h₀ → News h₀ L s.heap ((D, { cls := .type "tuple", data := .seq #[.int 1 t1, .int 0 t2, .int (-789) t3, .int (-3) t4] }) :: news) → Top p loose mean mg mb h₀ → cs.kind = .function → ∀ {Q E : Value → Shared → Prop},
    (∀ t (h' h₀' : Heap) (tk' : Nat), KtsTurn (outer.filterMap (·.frame)) h₀ h₀' → Fr h₀' L h' m → News h₀' L h' ((D, { cls := .type "tuple", data := .seq #[.int 1 t1, .int 0 t2, .int (-789) t3, .int (-3) t4] }) :: news) → Q (.int 1 t) { s with heap := h', toks := tk' }) →
    wpAny (model PySem.Challenge.rw_ah5008_01.row.prog w) (ktrTop 303 10 gd cn cs L a ccd cl outer) (call (.ref 204) [.int 1 t0, .ref D]) Q E s := by
  k_fill
  intro gd cn cs a ccd cl outer A₀ base h₀ L m p loose mean mg mb news D t0 t1 t2 t3 t4 s B F X XB TB KD N T hcs Q E hret
  refine wpAny_call ?_
  k_dflt (refine' code_defT ?k1 ?k2 ?k3 ?k4 ?k5 ?XB ?TB ?D ?kA ?kF ?kK ?k6 ?k7 ?k8 ?k9 ?kB ?_ ?c2 ?c3 ?c4 ?c5; (case kA => exact rfl); (case kF => exact rfl); (case kK => assumption); (case k1 => k_asm); (case k2 => k_asm); (case k3 => k_asm); (case k4 => k_asm); (case k5 => k_asm); (case XB => assumption); (case TB => assumption); (case D => assumption); (case k6 => k_is); (case k7 => k_is); (case k8 => ktr_room); (case k9 => exact BindsTo.of_eq rfl); (case c5 => decide); (case kB => exact locs rfl); (case c2 => exact rfl); (case c3 => exact rfl); (case c4 => exact rfl); k_whole; intro g' L' h' FG' F' N' B' X' T' D'; (try dsimp only); (try k_lift B'); (try k_fold))
  clear KD FG'
  k_steps
  exact hret _ _ _ _ (by assumption) (by assumption) (by first | assumption | (rename News _ _ _ (_ :: _ :: _) => kNN; exact fun p hp => kNN p (List.Mem.tail _ hp)))

set_option maxHeartbeats 8000000 in
theorem err1n (w : World) : ∀ {gd : Option (List Code)} {cn : Str} {cs : Scope} {a : Addr} {ccd : Value} {cl : List (Str × Addr)} {outer : List Env} {A₀ : Around} {base h₀ : Heap} {L : Addr} {m : Str → Option Value} {p : Program} {loose : List Str} {mean : ExcName → Option Value} {mg mb : Str → Option Value} {news : List (Addr × Obj)} {D : Addr} {t0 t1 t2 t3 t4 : Tok} {s : Shared},
    Below A₀ base outer h₀ → Fr h₀ L s.heap m → (Mine.hd.heap_39 w.params).In h₀ → (Mine.hd.heap_39 w.params).In base → Top p loose mean mg mb base → KtsDicts (outer.filterMap (·.frame)) h₀ → News h₀ L s.heap ((D, { cls := .type "tuple", data := .seq #[.int 0 t1, .int 0 t2, .int (-123) t3, .int (-1) t4] }) :: news) → Top p loose mean mg mb h₀ → cs.kind = .function → ∀ {Q E : Value → Shared → Prop},
    (∀ t (h' h₀' : Heap) (tk' : Nat), KtsTurn (outer.filterMap (·.frame)) h₀ h₀' → Fr h₀' L h' m → News h₀' L h' ((D, { cls := .type "tuple", data := .seq #[.int 0 t1, .int 0 t2, .int (-123) t3, .int (-1) t4] }) :: news) → Q (.int 2 t) { s with heap := h', toks := tk' }) →
    wpAny (model PySem.Challenge.rw_ah5008_01.row.prog w) (ktrTop 303 10 gd cn cs L a ccd cl outer) (call (.ref 204) [.int 1 t0, .ref D]) Q E s := by
  k_fill
  intro gd cn cs a ccd cl outer A₀ base h₀ L m p loose mean mg mb news D t0 t1 t2 t3 t4 s B F X XB TB KD N T hcs Q E hret
  refine wpAny_call ?_
  k_dflt (refine' code_defT ?k1 ?k2 ?k3 ?k4 ?k5 ?XB ?TB ?D ?kA ?kF ?kK ?k6 ?k7 ?k8 ?k9 ?kB ?_ ?c2 ?c3 ?c4 ?c5; (case kA => exact rfl); (case kF => exact rfl); (case kK => assumption); (case k1 => k_asm); (case k2 => k_asm); (case k3 => k_asm); (case k4 => k_asm); (case k5 => k_asm); (case XB => assumption); (case TB => assumption); (case D => assumption); (case k6 => k_is); (case k7 => k_is); (case k8 => ktr_room); (case k9 => exact BindsTo.of_eq rfl); (case c5 => decide); (case kB => exact locs rfl); (case c2 => exact rfl); (case c3 => exact rfl); (case c4 => exact rfl); k_whole; intro g' L' h' FG' F' N' B' X' T' D'; (try dsimp only); (try k_lift B'); (try k_fold))
  clear KD FG'
  k_steps
  exact hret _ _ _ _ (by assumption) (by assumption) (by first | assumption | (rename News _ _ _ (_ :: _ :: _) => kNN; exact fun p hp => kNN p (List.Mem.tail _ hp)))

set_option maxHeartbeats 8000000 in
theorem err2g (w : World) : ∀ {gd : Option (List Code)} {cn : Str} {cs : Scope} {a : Addr} {ccd : Value} {cl : List (Str × Addr)} {outer : List Env} {A₀ : Around} {base h₀ : Heap} {L : Addr} {m : Str → Option Value} {p : Program} {loose : List Str} {mean : ExcName → Option Value} {mg mb : Str → Option Value} {news : List (Addr × Obj)} {D : Addr} {t0 t1 t2 t3 t4 : Tok} {s : Shared},
    Below A₀ base outer h₀ → Fr h₀ L s.heap m → (Mine.hd.heap_39 w.params).In h₀ → (Mine.hd.heap_39 w.params).In base → Top p loose mean mg mb base → KtsDicts (outer.filterMap (·.frame)) h₀ → News h₀ L s.heap ((D, { cls := .type "tuple", data := .seq #[.int 0 t1, .int 0 t2, .int (-456) t3, .int (-2) t4] }) :: news) → Top p loose mean mg mb h₀ → cs.kind = .function → ∀ {Q E : Value → Shared → Prop},
    (∀ t (h' h₀' : Heap) (tk' : Nat), KtsTurn (outer.filterMap (·.frame)) h₀ h₀' → Fr h₀' L h' m → News h₀' L h' ((D, { cls := .type "tuple", data := .seq #[.int 0 t1, .int 0 t2, .int (-456) t3, .int (-2) t4] }) :: news) → Q (.int 2 t) { s with heap := h', toks := tk' }) →
    wpAny (model PySem.Challenge.rw_ah5008_01.row.prog w) (ktrTop 303 10 gd cn cs L a ccd cl outer) (call (.ref 204) [.int 2 t0, .ref D]) Q E s := by
  k_fill
  intro gd cn cs a ccd cl outer A₀ base h₀ L m p loose mean mg mb news D t0 t1 t2 t3 t4 s B F X XB TB KD N T hcs Q E hret
  refine wpAny_call ?_
  k_dflt (refine' code_defT ?k1 ?k2 ?k3 ?k4 ?k5 ?XB ?TB ?D ?kA ?kF ?kK ?k6 ?k7 ?k8 ?k9 ?kB ?_ ?c2 ?c3 ?c4 ?c5; (case kA => exact rfl); (case kF => exact rfl); (case kK => assumption); (case k1 => k_asm); (case k2 => k_asm); (case k3 => k_asm); (case k4 => k_asm); (case k5 => k_asm); (case XB => assumption); (case TB => assumption); (case D => assumption); (case k6 => k_is); (case k7 => k_is); (case k8 => ktr_room); (case k9 => exact BindsTo.of_eq rfl); (case c5 => decide); (case kB => exact locs rfl); (case c2 => exact rfl); (case c3 => exact rfl); (case c4 => exact rfl); k_whole; intro g' L' h' FG' F' N' B' X' T' D'; (try dsimp only); (try k_lift B'); (try k_fold))
  clear KD FG'
  k_steps
  exact hret _ _ _ _ (by assumption) (by assumption) (by first | assumption | (rename News _ _ _ (_ :: _ :: _) => kNN; exact fun p hp => kNN p (List.Mem.tail _ hp)))

set_option maxHeartbeats 8000000 in
theorem err2l (w : World) : ∀ {gd : Option (List Code)} {cn : Str} {cs : Scope} {a : Addr} {ccd : Value} {cl : List (Str × Addr)} {outer : List Env} {A₀ : Around} {base h₀ : Heap} {L : Addr} {m : Str → Option Value} {p : Program} {loose : List Str} {mean : ExcName → Option Value} {mg mb : Str → Option Value} {news : List (Addr × Obj)} {D : Addr} {t0 t1 t2 t3 t4 : Tok} {s : Shared},
    Below A₀ base outer h₀ → Fr h₀ L s.heap m → (Mine.hd.heap_39 w.params).In h₀ → (Mine.hd.heap_39 w.params).In base → Top p loose mean mg mb base → KtsDicts (outer.filterMap (·.frame)) h₀ → News h₀ L s.heap ((D, { cls := .type "tuple", data := .seq #[.int 1 t1, .int 0 t2, .int (-789) t3, .int (-3) t4] }) :: news) → Top p loose mean mg mb h₀ → cs.kind = .function → ∀ {Q E : Value → Shared → Prop},
    (∀ t (h' h₀' : Heap) (tk' : Nat), KtsTurn (outer.filterMap (·.frame)) h₀ h₀' → Fr h₀' L h' m → News h₀' L h' ((D, { cls := .type "tuple", data := .seq #[.int 1 t1, .int 0 t2, .int (-789) t3, .int (-3) t4] }) :: news) → Q (.int 2 t) { s with heap := h', toks := tk' }) →
    wpAny (model PySem.Challenge.rw_ah5008_01.row.prog w) (ktrTop 303 10 gd cn cs L a ccd cl outer) (call (.ref 204) [.int 2 t0, .ref D]) Q E s := by
  k_fill
  intro gd cn cs a ccd cl outer A₀ base h₀ L m p loose mean mg mb news D t0 t1 t2 t3 t4 s B F X XB TB KD N T hcs Q E hret
  refine wpAny_call ?_
  k_dflt (refine' code_defT ?k1 ?k2 ?k3 ?k4 ?k5 ?XB ?TB ?D ?kA ?kF ?kK ?k6 ?k7 ?k8 ?k9 ?kB ?_ ?c2 ?c3 ?c4 ?c5; (case kA => exact rfl); (case kF => exact rfl); (case kK => assumption); (case k1 => k_asm); (case k2 => k_asm); (case k3 => k_asm); (case k4 => k_asm); (case k5 => k_asm); (case XB => assumption); (case TB => assumption); (case D => assumption); (case k6 => k_is); (case k7 => k_is); (case k8 => ktr_room); (case k9 => exact BindsTo.of_eq rfl); (case c5 => decide); (case kB => exact locs rfl); (case c2 => exact rfl); (case c3 => exact rfl); (case c4 => exact rfl); k_whole; intro g' L' h' FG' F' N' B' X' T' D'; (try dsimp only); (try k_lift B'); (try k_fold))
  clear KD FG'
  k_steps
  exact hret _ _ _ _ (by assumption) (by assumption) (by first | assumption | (rename News _ _ _ (_ :: _ :: _) => kNN; exact fun p hp => kNN p (List.Mem.tail _ hp)))

set_option maxHeartbeats 8000000 in
theorem err2n (w : World) : ∀ {gd : Option (List Code)} {cn : Str} {cs : Scope} {a : Addr} {ccd : Value} {cl : List (Str × Addr)} {outer : List Env} {A₀ : Around} {base h₀ : Heap} {L : Addr} {m : Str → Option Value} {p : Program} {loose : List Str} {mean : ExcName → Option Value} {mg mb : Str → Option Value} {news : List (Addr × Obj)} {D : Addr} {t0 t1 t2 t3 t4 : Tok} {s : Shared},
    Below A₀ base outer h₀ → Fr h₀ L s.heap m → (Mine.hd.heap_39 w.params).In h₀ → (Mine.hd.heap_39 w.params).In base → Top p loose mean mg mb base → KtsDicts (outer.filterMap (·.frame)) h₀ → News h₀ L s.heap ((D, { cls := .type "tuple", data := .seq #[.int 0 t1, .int 0 t2, .int (-123) t3, .int (-1) t4] }) :: news) → Top p loose mean mg mb h₀ → cs.kind = .function → ∀ {Q E : Value → Shared → Prop},
    (∀ t (h' h₀' : Heap) (tk' : Nat), KtsTurn (outer.filterMap (·.frame)) h₀ h₀' → Fr h₀' L h' m → News h₀' L h' ((D, { cls := .type "tuple", data := .seq #[.int 0 t1, .int 0 t2, .int (-123) t3, .int (-1) t4] }) :: news) → Q (.int 2 t) { s with heap := h', toks := tk' }) →
    wpAny (model PySem.Challenge.rw_ah5008_01.row.prog w) (ktrTop 303 10 gd cn cs L a ccd cl outer) (call (.ref 204) [.int 2 t0, .ref D]) Q E s := by
  k_fill
  intro gd cn cs a ccd cl outer A₀ base h₀ L m p loose mean mg mb news D t0 t1 t2 t3 t4 s B F X XB TB KD N T hcs Q E hret
  refine wpAny_call ?_
  k_dflt (refine' code_defT ?k1 ?k2 ?k3 ?k4 ?k5 ?XB ?TB ?D ?kA ?kF ?kK ?k6 ?k7 ?k8 ?k9 ?kB ?_ ?c2 ?c3 ?c4 ?c5; (case kA => exact rfl); (case kF => exact rfl); (case kK => assumption); (case k1 => k_asm); (case k2 => k_asm); (case k3 => k_asm); (case k4 => k_asm); (case k5 => k_asm); (case XB => assumption); (case TB => assumption); (case D => assumption); (case k6 => k_is); (case k7 => k_is); (case k8 => ktr_room); (case k9 => exact BindsTo.of_eq rfl); (case c5 => decide); (case kB => exact locs rfl); (case c2 => exact rfl); (case c3 => exact rfl); (case c4 => exact rfl); k_whole; intro g' L' h' FG' F' N' B' X' T' D'; (try dsimp only); (try k_lift B'); (try k_fold))
  clear KD FG'
  k_steps
  exact hret _ _ _ _ (by assumption) (by assumption) (by first | assumption | (rename News _ _ _ (_ :: _ :: _) => kNN; exact fun p hp => kNN p (List.Mem.tail _ hp)))

/-- the names of _law_others_right, and of its two comprehensions -/
abbrev scO : Scope := { kind := .function, names := [(Str.ofString "great", .cell), (Str.ofString "less", .cell), (Str.ofString "none", .cell), (Str.ofString "range", .globalImplicit), (Str.ofString "all", .globalImplicit)], isGenerator := false, isCoroutine := false, more := [(Str.ofString "fast", .str (Str.ofString "great")), (Str.ofString "fast", .str (Str.ofString "less")), (Str.ofString "fast", .str (Str.ofString "none")), (Str.ofString "fast", .str (Str.ofString "kind")), (Str.ofString "fast", .str (Str.ofString "s"))] }
abbrev scC : Scope := { kind := .function, names := [(Str.ofString ".0", .local), (Str.ofString "kind", .local), (Str.ofString "s", .local), (Str.ofString "_law_error", .globalImplicit), (Str.ofString "great", .free), (Str.ofString "less", .free), (Str.ofString "none", .free)], isGenerator := false, isCoroutine := false }
abbrev scS : Scope := { kind := .function, names := [(Str.ofString ".0", .local), (Str.ofString "s", .local), (Str.ofString "_law_error", .globalImplicit)], isGenerator := false, isCoroutine := false }
abbrev envO (L : Addr) : Env := envOfC (Str.ofString "_law_others_right") scO L 209 (.ref 208)
abbrev clO (L : Addr) : List (Str × Addr) := [(Str.ofString "none", L + 1 + 1 + 1), (Str.ofString "less", L + 1 + 1), (Str.ofString "great", L + 1)]

theorem clos_C (L : Addr) : closureFor scC (envO L) = pure (clO L) := by rfl
theorem clos_S (L : Addr) : closureFor scS (envO L) = pure [] := by rfl

section
variable {w : World} {A₀ : Around} {base g : Heap} {Ll L : Addr} {oL : Obj} {m : Str → Option Value} {outer : List Env} {p : Program} {loose : List Str} {mean : ExcName → Option Value} {mg mb : Str → Option Value} {gd : Option (List Code)} {s : Shared} {Q E : Value → Shared → Prop}
abbrev AO (gd : Option (List Code)) (L : Addr) (outer : List Env) : Around := ktrTop 303 10 gd (Str.ofString "_law_others_right") scO L 209 (.ref 208) (clO L) outer

/-- _law_error(kind, s) in the comprehension's frame -/
theorem elt_C {Kq : Led} {C : Addr} {k : Int} {t : Tok} {oC : Obj} {mC : Str → Option Value} {q : Addr × Obj} {r : Int} {sl : Array (Option Value)} {p1 p2 p3 p4 : Pos} (G : Gd A₀ base outer (Kf w) p loose mean mg mb g Ll oL)
    (hC : LCg.NsObj oC mC) (hk : mC (Str.ofString "kind") = some (.int k t)) (hq : mC (Str.ofString "s") = some (.ref q.1)) (el : ElAt Pg w (AO gd L outer) (hideAll g [Ll]) Ll oL L m k q r) (hCm : (C, oC) ∈ Kq) (hqm : q ∈ Kq) (off : ∀ q ∈ Kq, q.1 ≠ Ll)
    (F : Fr (hideAll g [Ll]) L s.heap m) (N : News (hideAll g [Ll]) L s.heap ((Ll, slt oL sl) :: Kq))
    (h : ∀ (t' : Tok) (sl' : Array (Option Value)) (h' : Heap) (tk' : Nat), Fr (hideAll g [Ll]) L h' m → News (hideAll g [Ll]) L h' ((Ll, slt oL sl') :: Kq) → Q (.int r t') { s with heap := h', toks := tk' }) :
    wpAny (model Pg w) (AO gd L outer) (eval (.Call (.Name (Str.ofString "_law_error") p1) [.Name (Str.ofString "kind") p2, .Name (Str.ofString "s") p3] [] p4) (compEnvC scC (clO L) C (envO L))) Q E s := by
  have X : (Kf w).In (hideAll g [Ll]) := G.XB.keeps G.hidden
  have T : Top p loose mean mg mb (hideAll g [Ll]) := G.TB.keeps G.hidden
  have hNs : s.heap.Ns C mC := hC.ns (N (C, oC) (.tail _ hCm)).1
  refine Call_ ?_ rfl
  refine Name_function_global rfl rfl (loadGlobal_global (env := compEnvC scC (clO L) C (envO L)) ((topRead_of T).g.keeps F.keep) (mg_of X (topRead_of T).g (n_law_error w)) ?_) (by decide)
  refine callWith_K X (k_law_error w) ?_ rfl rfl
  refine args_cons (wpAny_Name (wpAny_loadName_local rfl rfl hNs hk ?_) (by decide)) rfl
  refine args_cons (wpAny_Name (wpAny_loadName_local rfl rfl hNs hq ?_) (by decide)) rfl
  refine args_nil ⟨X.keeps F.keep, ?_⟩
  exact el t sl Kq s Q E hqm off F N h
theorem elt_S {Kq : Led} {C : Addr} {oC : Obj} {mC : Str → Option Value} {q : Addr × Obj} {r : Int} {sl : Array (Option Value)} {n : Nat} {p1 p2 p3 p4 : Pos} (G : Gd A₀ base outer (Kf w) p loose mean mg mb g Ll oL)
    (hC : LCg.NsObj oC mC) (hq : mC (Str.ofString "s") = some (.ref q.1)) (el : ElAt Pg w (AO gd L outer) (hideAll g [Ll]) Ll oL L m 2 q r) (hCm : (C, oC) ∈ Kq) (hqm : q ∈ Kq) (off : ∀ q ∈ Kq, q.1 ≠ Ll)
    (F : Fr (hideAll g [Ll]) L s.heap m) (N : News (hideAll g [Ll]) L s.heap ((Ll, slt oL sl) :: Kq))
    (h : ∀ (t' : Tok) (sl' : Array (Option Value)) (h' : Heap) (tk' : Nat), Fr (hideAll g [Ll]) L h' m → News (hideAll g [Ll]) L h' ((Ll, slt oL sl') :: Kq) → Q (.int r t') { s with heap := h', toks := tk' }) :
    wpAny (model Pg w) (AO gd L outer) (eval (.Call (.Name (Str.ofString "_law_error") p1) [.Constant (.int 2) n p2, .Name (Str.ofString "s") p3] [] p4) (compEnvC scS [] C (envO L))) Q E s := by
  have X : (Kf w).In (hideAll g [Ll]) := G.XB.keeps G.hidden
  have T : Top p loose mean mg mb (hideAll g [Ll]) := G.TB.keeps G.hidden
  have hNs : s.heap.Ns C mC := hC.ns (N (C, oC) (.tail _ hCm)).1
  refine Call_ ?_ rfl
  refine Name_function_global rfl rfl (loadGlobal_global (env := compEnvC scS [] C (envO L)) ((topRead_of T).g.keeps F.keep) (mg_of X (topRead_of T).g (n_law_error w)) ?_) (by decide)
  refine callWith_K X (k_law_error w) ?_ rfl rfl
  refine args_cons (wpAny_Constant_int ?_) rfl
  refine args_cons (wpAny_Name (wpAny_loadName_local rfl rfl hNs hq ?_) (by decide)) rfl
  refine args_nil ⟨X.keeps F.keep, ?_⟩
  exact el _ sl Kq _ Q E hqm off F N h

/-- where _law_others_right stands, its three names made -/
structure Ot (w : World) (A₀ : Around) (base : Heap) (outer : List Env) (p : Program) (loose : List Str) (mean : ExcName → Option Value) (mg mb : Str → Option Value) (g : Heap) (L : Addr) (m : Str → Option Value) (h : Heap) (Kp : Led) : Prop where
  below : Below A₀ base outer g
  fr : Fr g L h m
  inK : (Kf w).In g
  led : News g L h Kp
  top : Top p loose mean mg mb g
  dicts : KtsDicts (outer.filterMap (·.frame)) g
/-- the three names -/
structure Nm (L : Addr) (Kp : Led) (q1 q2 q3 : Addr × Obj) : Prop where
  m1 : q1 ∈ Kp
  m2 : q2 ∈ Kp
  m3 : q3 ∈ Kp
  c1 : ∃ o, (L + 1, o) ∈ Kp ∧ o.data = .cell (some (.ref q1.1))
  c2 : ∃ o, (L + 1 + 1, o) ∈ Kp ∧ o.data = .cell (some (.ref q2.1))
  c3 : ∃ o, (L + 1 + 1 + 1, o) ∈ Kp ∧ o.data = .cell (some (.ref q3.1))

theorem gd_of {h : Heap} {Kp : Led} (O : Ot w A₀ base outer p loose mean mg mb g L m h Kp) (hfr : outer.filterMap (·.frame) = [Ll]) (XB : (Kf w).In base) (TB : Top p loose mean mg mb base) : ∃ oL, Gd A₀ base outer (Kf w) p loose mean mg mb g Ll oL ∧ ∀ q ∈ Kp, q.1 ≠ Ll := by
  obtain ⟨_, o, ho, _⟩ := O.below.frames.mem (b := Ll) (by rw [hfr]; exact .head _)
  refine ⟨o, ⟨O.below, hfr, XB, TB, O.dicts, ho⟩, fun q hq e => ?_⟩
  have := (O.led q hq).2.2
  rw [e, ho] at this
  cases this

theorem others_c2 {Kp : Led} {q1 q2 q3 : Addr × Obj} {p1 p2 p3 p4 p5 p6 p7 p8 p9 p10 p11 px py pos : Pos} {n : Nat} (O : Ot w A₀ base outer p loose mean mg mb g L m s.heap Kp) (M : Nm L Kp q1 q2 q3) (hfr : outer.filterMap (·.frame) = [Ll]) (XB : (Kf w).In base) (TB : Top p loose mean mg mb base)
    (hel : ∀ {oL : Obj}, Gd A₀ base outer (Kf w) p loose mean mg mb g Ll oL → ∀ (i j : Nat) (q : Addr × Obj) (r : Int), i < 2 → [q1, q2, q3][j]? = some q → ([1, 1, 2] : List Int)[j]? = some r → ElAt Pg w (AO gd L outer) (hideAll g [Ll]) Ll oL L m (i : Int) q r)
    (hQ : ∀ D ys g' h' tk', Ot w A₀ base outer p loose mean mg mb g' L m h' ((D, LCg.lst ys) :: Kp) → KtsTurn (outer.filterMap (·.frame)) g g' → IntsAre ys [1, 1, 2, 1, 1, 2] → Q (.ref D) { s with heap := h', toks := tk' }) :
    wpAny (model Pg w) (AO gd L outer) (eval (.ListComp (.Call (.Name (Str.ofString "_law_error") p1) [.Name (Str.ofString "kind") p2, .Name (Str.ofString "s") p3] [] p4)
      [⟨.Name (Str.ofString "kind") px, .Call (.Name (Str.ofString "range") p5) [.Constant (.int 2) n p6] [] p7, [], 0⟩, ⟨.Name (Str.ofString "s") py, .List [.Name (Str.ofString "great") p8, .Name (Str.ofString "less") p9, .Name (Str.ofString "none") p10] p11, [], 0⟩] scC pos) (envO L)) Q E s := by
  obtain ⟨oL, G, off⟩ := gd_of O hfr XB TB
  have X : (Kf w).In (hideAll g [Ll]) := G.XB.keeps G.hidden
  have T : Top p loose mean mg mb (hideAll g [Ll]) := G.TB.keeps G.hidden
  obtain ⟨sl, F, N⟩ := G.close KtsTurn.refl O.fr O.led
  obtain ⟨o1, hm1, hd1⟩ := M.c1
  obtain ⟨o2, hm2, hd2⟩ := M.c2
  obtain ⟨o3, hm3, hd3⟩ := M.c3
  refine comp2 (gH := hideAll g [Ll]) (Ll := Ll) (oL := oL) (L := L) (m := m) (Kp := Kp) (its := [q1, q2, q3]) (n := 2) (rsf := fun _ => [1, 1, 2]) rfl (clos_C L) (by decide) rfl (by decide) (fun _ => rfl) (fun _ _ => rfl) (fun _ => rfl) (fun _ => rfl) (fun _ => rfl) (by decide) ?_ (by decide) (by decide) ?_ (fun C k t oC mC q r sl Kq s Q E => elt_C G) ?_ (fun _ => rfl) (hel G) (show 3 ≤ 100 by decide) (by decide) ?_ off ?_
  · refine Call_ (Name_function_global rfl rfl (loadGlobal_builtin (env := envO L) ((topRead_of T).g.keeps F.keep) (mg_none_of X (topRead_of T).g (by rfl)) ((topRead_of T).b.keeps F.keep) (((topRead_of T).builtins _ (by decide)).trans boot_range) ?_) (by decide)) rfl
    refine Pv.callWith_type1 ?_ rfl rfl
    refine args_cons (wpAny_Constant_int ?_) rfl
    refine args_nil ?_
    exact range1_rows F N fun h' tk t₁ u₁ v₁ hr F' N' _ => ⟨_, _, _, _, h', tk, sl, rfl, rfl, F', N', hr⟩
  · intro C Kq s Q E hs F N hk
    exact list3 F N (hs _ hm1) hd1 rfl rfl (by decide) (hs _ hm2) hd2 rfl rfl (by decide) (hs _ hm3) hd3 rfl rfl (by decide) rfl hk
  · intro q hq
    rcases List.mem_cons.mp hq with rfl | hq
    · exact M.m1
    rcases List.mem_cons.mp hq with rfl | hq
    · exact M.m2
    rcases List.mem_cons.mp hq with rfl | hq
    · exact M.m3
    · cases hq
  · intro i hi
    match i, hi with
    | 0, _ => decide
    | 1, _ => decide
    | 2, _ => decide
  · intro D h tk sl ys F N hys
    have hDl : D ≠ Ll := fun e => by
      have z1 := (N (D, _) (.head _)).1
      have z2 := (N (Ll, _) (.tail _ (.head _))).1
      rw [e, z2] at z1
      have z3 := Option.some.inj z1
      obtain ⟨o, es, n', z4, z5⟩ := G.dicts Ll (by rw [hfr]; exact .head _)
      rw [G.at_] at z4
      cases z4
      have z6 := congrArg Obj.data z3
      rw [show (slt oL sl).data = oL.data from rfl, z5] at z6
      cases z6
    obtain ⟨g', T', F', N', B', X', P', D'⟩ := G.open (sl := sl) (Kp := (D, LCg.lst ys) :: Kp) F (fun p hp => N p (by
      rcases List.mem_cons.mp hp with rfl | hp
      · exact .tail _ (.head _)
      rcases List.mem_cons.mp hp with rfl | hp
      · exact .head _
      · exact .tail _ (.tail _ hp))) (fun p hp => by
      rcases List.mem_cons.mp hp with rfl | hp
      · exact hDl
      · exact off p hp)
    exact hQ D ys g' h tk ⟨B', F', X', N', P', D'⟩ T' hys
theorem others_c1 {Kp : Led} {q1 q2 q3 : Addr × Obj} {p1 p2 p3 p4 p8 p9 p10 p11 py pos : Pos} {n : Nat} (O : Ot w A₀ base outer p loose mean mg mb g L m s.heap Kp) (M : Nm L Kp q1 q2 q3) (hfr : outer.filterMap (·.frame) = [Ll]) (XB : (Kf w).In base) (TB : Top p loose mean mg mb base)
    (hel : ∀ {oL : Obj}, Gd A₀ base outer (Kf w) p loose mean mg mb g Ll oL → ∀ (j : Nat) (q : Addr × Obj) (r : Int), [q1, q2, q3][j]? = some q → ([2, 2, 2] : List Int)[j]? = some r → ElAt Pg w (AO gd L outer) (hideAll g [Ll]) Ll oL L m 2 q r)
    (hQ : ∀ D ys g' h' tk', Ot w A₀ base outer p loose mean mg mb g' L m h' ((D, LCg.lst ys) :: Kp) → KtsTurn (outer.filterMap (·.frame)) g g' → IntsAre ys [2, 2, 2] → Q (.ref D) { s with heap := h', toks := tk' }) :
    wpAny (model Pg w) (AO gd L outer) (eval (.ListComp (.Call (.Name (Str.ofString "_law_error") p1) [.Constant (.int 2) n p2, .Name (Str.ofString "s") p3] [] p4)
      [⟨.Name (Str.ofString "s") py, .List [.Name (Str.ofString "great") p8, .Name (Str.ofString "less") p9, .Name (Str.ofString "none") p10] p11, [], 0⟩] scS pos) (envO L)) Q E s := by
  obtain ⟨oL, G, off⟩ := gd_of O hfr XB TB
  obtain ⟨sl, F, N⟩ := G.close KtsTurn.refl O.fr O.led
  obtain ⟨o1, hm1, hd1⟩ := M.c1
  obtain ⟨o2, hm2, hd2⟩ := M.c2
  obtain ⟨o3, hm3, hd3⟩ := M.c3
  refine comp1 (gH := hideAll g [Ll]) (Ll := Ll) (oL := oL) (L := L) (m := m) (Kp := Kp) (its := [q1, q2, q3]) (rs := [2, 2, 2]) (k := 2) rfl (clos_S L) (by decide) rfl (by decide) (fun _ => rfl) rfl F ?_ (fun C oC mC q r sl Kq s Q E => elt_S G) ?_ rfl (hel G) (show 3 ≤ 100 by decide) off ?_
  · refine list3 F N (.tail _ hm1) hd1 rfl rfl (by decide) (.tail _ hm2) hd2 rfl rfl (by decide) (.tail _ hm3) hd3 rfl rfl (by decide) rfl fun lx h' F' N' hne => ⟨lx, h', _, sl, rfl, rfl, F', N', Ne.symm (hne (Ll, slt oL sl) (.head _))⟩
  · intro q hq
    rcases List.mem_cons.mp hq with rfl | hq
    · exact M.m1
    rcases List.mem_cons.mp hq with rfl | hq
    · exact M.m2
    rcases List.mem_cons.mp hq with rfl | hq
    · exact M.m3
    · cases hq
  · intro D h tk sl ys F N hys
    have hDl : D ≠ Ll := fun e => by
      have z1 := (N (D, _) (.head _)).1
      have z2 := (N (Ll, _) (.tail _ (.head _))).1
      rw [e, z2] at z1
      have z3 := Option.some.inj z1
      obtain ⟨o, es, n', z4, z5⟩ := G.dicts Ll (by rw [hfr]; exact .head _)
      rw [G.at_] at z4
      cases z4
      have z6 := congrArg Obj.data z3
      rw [show (slt oL sl).data = oL.data from rfl, z5] at z6
      cases z6
    obtain ⟨g', T', F', N', B', X', P', D'⟩ := G.open (sl := sl) (Kp := (D, LCg.lst ys) :: Kp) F (fun p hp => N p (by
      rcases List.mem_cons.mp hp with rfl | hp
      · exact .tail _ (.head _)
      rcases List.mem_cons.mp hp with rfl | hp
      · exact .head _
      · exact .tail _ (.tail _ hp))) (fun p hp => by
      rcases List.mem_cons.mp hp with rfl | hp
      · exact hDl
      · exact off p hp)
    exact hQ D ys g' h tk ⟨B', F', X', N', P', D'⟩ T' hys
end

section
variable {w : World} {A₀ : Around} {base g : Heap} {Ll L : Addr} {oL : Obj} {m : Str → Option Value} {outer : List Env} {p : Program} {loose : List Str} {mean : ExcName → Option Value} {mg mb : Str → Option Value} {gd : Option (List Code)} {s : Shared} {Q E : Value → Shared → Prop}
/-- a made list of ints is not unlike its numbers -/
theorem ne_ints {news : Led} {D1 D2 : Addr} {xs ys : List Value} {n1 n2 : Nat} {is js : List Int} (N : News g L s.heap news) (h1 : (D1, ({ cls := .type "list", data := .seq xs.toArray n1 } : Obj)) ∈ news) (i1 : IntsAre xs is) (h2 : (D2, ({ cls := .type "list", data := .seq ys.toArray n2 } : Obj)) ∈ news) (i2 : IntsAre ys js)
    (hr : (!PyData.eqv (.list (is.map PyData.int)) (.list (js.map PyData.int))) = false) (h : Q (.bool false) s) : wpAny (model Pg w) (AO gd L outer) (compareOp .NotEq (.ref D1) (.ref D2)) Q E s :=
  ne_dataH (reads_of_ints ⟨_, N.get h1, rfl, _, rfl⟩ i1) (reads_of_ints ⟨_, N.get h2, rfl, _, rfl⟩ i2) (shaped_ints is) (shaped_ints js) (show (10 : Nat) + 64 < cLine by decide) (by rw [hr]; exact h)

theorem if_c2 {Kp : Led} {q1 q2 q3 : Addr × Obj} {p1 p2 p3 p4 p5 p6 p7 p8 p9 p10 p11 px py pos : Pos} {n : Nat} {body : List Stmt} {pl pc pi k1 k2 k3 k4 k5 k6 : Pos} {n1 n2 n3 n4 n5 n6 : Nat} {Q : Flow → Shared → Prop} {E : Value → Shared → Prop}
    (O : Ot w A₀ base outer p loose mean mg mb g L m s.heap Kp) (M : Nm L Kp q1 q2 q3) (hfr : outer.filterMap (·.frame) = [Ll]) (XB : (Kf w).In base) (TB : Top p loose mean mg mb base)
    (hel : ∀ {oL : Obj}, Gd A₀ base outer (Kf w) p loose mean mg mb g Ll oL → ∀ (i j : Nat) (q : Addr × Obj) (r : Int), i < 2 → [q1, q2, q3][j]? = some q → ([1, 1, 2] : List Int)[j]? = some r → ElAt Pg w (AO gd L outer) (hideAll g [Ll]) Ll oL L m (i : Int) q r)
    (hQ : ∀ g' h' tk', Ot w A₀ base outer p loose mean mg mb g' L m h' Kp → KtsTurn (outer.filterMap (·.frame)) g g' → Q .next { s with heap := h', toks := tk' }) :
    wpAny (model Pg w) (AO gd L outer) (exec (.If (.Compare (.ListComp (.Call (.Name (Str.ofString "_law_error") p1) [.Name (Str.ofString "kind") p2, .Name (Str.ofString "s") p3] [] p4)
      [⟨.Name (Str.ofString "kind") px, .Call (.Name (Str.ofString "range") p5) [.Constant (.int 2) n p6] [] p7, [], 0⟩, ⟨.Name (Str.ofString "s") py, .List [.Name (Str.ofString "great") p8, .Name (Str.ofString "less") p9, .Name (Str.ofString "none") p10] p11, [], 0⟩] scC pos)
      [.NotEq] [.List [.Constant (.int 1) n1 k1, .Constant (.int 1) n2 k2, .Constant (.int 2) n3 k3, .Constant (.int 1) n4 k4, .Constant (.int 1) n5 k5, .Constant (.int 2) n6 k6] pl] pc) body [] pi) (envO L)) Q E s := by
  refine wpAny_If (wpAny_isTrue_Compare1 (others_c2 O M hfr XB TB hel fun D ys g' h' tk' O' T' hys => ?_) (by with_unfolding_all rfl))
  refine List_ (args_cons (wpAny_Constant_int ?_) rfl)
  refine args_cons (wpAny_Constant_int ?_) rfl
  refine args_cons (wpAny_Constant_int ?_) rfl
  refine args_cons (wpAny_Constant_int ?_) rfl
  refine args_cons (wpAny_Constant_int ?_) rfl
  refine args_cons (wpAny_Constant_int ?_) rfl
  refine args_nil ?_
  refine newList_N O'.fr O'.led (fun h'' F'' N'' => ?_)
  refine ne_ints N'' (.tail _ (.head _)) hys (.head _) (.cons 1 _ (.cons 1 _ (.cons 2 _ (.cons 1 _ (.cons 1 _ (.cons 2 _ .nil)))))) (by decide) ?_
  refine wpAny_truthy_bool ?_
  refine (if_neg Bool.false_ne_true).mpr ?_
  exact wpAny_execs_nil (hQ g' h'' _ ⟨O'.below, F'', O'.inK, fun p hp => N'' p (.tail _ (.tail _ hp)), O'.top, O'.dicts⟩ T')
theorem if_c1 {Kp : Led} {q1 q2 q3 : Addr × Obj} {p1 p2 p3 p4 p8 p9 p10 p11 py pos : Pos} {n : Nat} {body : List Stmt} {pl pc pi k1 k2 k3 : Pos} {n1 n2 n3 : Nat} {Q : Flow → Shared → Prop} {E : Value → Shared → Prop}
    (O : Ot w A₀ base outer p loose mean mg mb g L m s.heap Kp) (M : Nm L Kp q1 q2 q3) (hfr : outer.filterMap (·.frame) = [Ll]) (XB : (Kf w).In base) (TB : Top p loose mean mg mb base)
    (hel : ∀ {oL : Obj}, Gd A₀ base outer (Kf w) p loose mean mg mb g Ll oL → ∀ (j : Nat) (q : Addr × Obj) (r : Int), [q1, q2, q3][j]? = some q → ([2, 2, 2] : List Int)[j]? = some r → ElAt Pg w (AO gd L outer) (hideAll g [Ll]) Ll oL L m 2 q r)
    (hQ : ∀ g' h' tk', Ot w A₀ base outer p loose mean mg mb g' L m h' Kp → KtsTurn (outer.filterMap (·.frame)) g g' → Q .next { s with heap := h', toks := tk' }) :
    wpAny (model Pg w) (AO gd L outer) (exec (.If (.Compare (.ListComp (.Call (.Name (Str.ofString "_law_error") p1) [.Constant (.int 2) n p2, .Name (Str.ofString "s") p3] [] p4)
      [⟨.Name (Str.ofString "s") py, .List [.Name (Str.ofString "great") p8, .Name (Str.ofString "less") p9, .Name (Str.ofString "none") p10] p11, [], 0⟩] scS pos)
      [.NotEq] [.List [.Constant (.int 2) n1 k1, .Constant (.int 2) n2 k2, .Constant (.int 2) n3 k3] pl] pc) body [] pi) (envO L)) Q E s := by
  refine wpAny_If (wpAny_isTrue_Compare1 (others_c1 O M hfr XB TB hel fun D ys g' h' tk' O' T' hys => ?_) (by with_unfolding_all rfl))
  refine List_ (args_cons (wpAny_Constant_int ?_) rfl)
  refine args_cons (wpAny_Constant_int ?_) rfl
  refine args_cons (wpAny_Constant_int ?_) rfl
  refine args_nil ?_
  refine newList_N O'.fr O'.led (fun h'' F'' N'' => ?_)
  refine ne_ints N'' (.tail _ (.head _)) hys (.head _) (.cons 2 _ (.cons 2 _ (.cons 2 _ .nil))) (by decide) ?_
  refine wpAny_truthy_bool ?_
  refine (if_neg Bool.false_ne_true).mpr ?_
  exact wpAny_execs_nil (hQ g' h'' _ ⟨O'.below, F'', O'.inK, fun p hp => N'' p (.tail _ (.tail _ hp)), O'.top, O'.dicts⟩ T')
end

section
variable {w : World} {A₀ : Around} {base g : Heap} {Ll L : Addr} {oL : Obj} {m : Str → Option Value} {outer : List Env} {p : Program} {loose : List Str} {mean : ExcName → Option Value} {mg mb : Str → Option Value} {gd : Option (List Code)} {s : Shared} {Q E : Value → Shared → Prop}
abbrev tupO (a b c d : Int) (t1 t2 t3 t4 : Tok) : Obj := { cls := .type "tuple", data := .seq #[.int a t1, .int b t2, .int c t3, .int d t4] }
theorem el0g {D : Addr} {t1 t2 t3 t4 : Tok} (G : Gd A₀ base outer (Kf w) p loose mean mg mb g Ll oL) : ElAt Pg w (AO gd L outer) (hideAll g [Ll]) Ll oL L m 0 (D, tupO 0 0 (-456) (-2) t1 t2 t3 t4) 1 := by
  intro t sl Kp s Q E hq off F N hk
  obtain ⟨g', T', F', N', B', X', P', D'⟩ := G.open F N off
  refine err0g w B' F' X' G.XB G.TB D' (news := Kp) (fun p hp => (List.mem_cons.mp hp).elim (fun e => e ▸ N' _ hq) (N' p)) P' rfl fun t h' h₀' tk' T2 F2 N2 => ?_
  obtain ⟨sl', F3, N3⟩ := G.close (T'.trans T2) F2 (fun p hp => N2 p (.tail _ hp))
  exact hk t sl' h' tk' F3 N3
theorem el0l {D : Addr} {t1 t2 t3 t4 : Tok} (G : Gd A₀ base outer (Kf w) p loose mean mg mb g Ll oL) : ElAt Pg w (AO gd L outer) (hideAll g [Ll]) Ll oL L m 0 (D, tupO 1 0 (-789) (-3) t1 t2 t3 t4) 1 := by
  intro t sl Kp s Q E hq off F N hk
  obtain ⟨g', T', F', N', B', X', P', D'⟩ := G.open F N off
  refine err0l w B' F' X' G.XB G.TB D' (news := Kp) (fun p hp => (List.mem_cons.mp hp).elim (fun e => e ▸ N' _ hq) (N' p)) P' rfl fun t h' h₀' tk' T2 F2 N2 => ?_
  obtain ⟨sl', F3, N3⟩ := G.close (T'.trans T2) F2 (fun p hp => N2 p (.tail _ hp))
  exact hk t sl' h' tk' F3 N3
theorem el0n {D : Addr} {t1 t2 t3 t4 : Tok} (G : Gd A₀ base outer (Kf w) p loose mean mg mb g Ll oL) : ElAt Pg w (AO gd L outer) (hideAll g [Ll]) Ll oL L m 0 (D, tupO 0 0 (-123) (-1) t1 t2 t3 t4) 2 := by
  intro t sl Kp s Q E hq off F N hk
  obtain ⟨g', T', F', N', B', X', P', D'⟩ := G.open F N off
  refine err0n w B' F' X' G.XB G.TB D' (news := Kp) (fun p hp => (List.mem_cons.mp hp).elim (fun e => e ▸ N' _ hq) (N' p)) P' rfl fun t h' h₀' tk' T2 F2 N2 => ?_
  obtain ⟨sl', F3, N3⟩ := G.close (T'.trans T2) F2 (fun p hp => N2 p (.tail _ hp))
  exact hk t sl' h' tk' F3 N3
theorem el1g {D : Addr} {t1 t2 t3 t4 : Tok} (G : Gd A₀ base outer (Kf w) p loose mean mg mb g Ll oL) : ElAt Pg w (AO gd L outer) (hideAll g [Ll]) Ll oL L m 1 (D, tupO 0 0 (-456) (-2) t1 t2 t3 t4) 1 := by
  intro t sl Kp s Q E hq off F N hk
  obtain ⟨g', T', F', N', B', X', P', D'⟩ := G.open F N off
  refine err1g w B' F' X' G.XB G.TB D' (news := Kp) (fun p hp => (List.mem_cons.mp hp).elim (fun e => e ▸ N' _ hq) (N' p)) P' rfl fun t h' h₀' tk' T2 F2 N2 => ?_
  obtain ⟨sl', F3, N3⟩ := G.close (T'.trans T2) F2 (fun p hp => N2 p (.tail _ hp))
  exact hk t sl' h' tk' F3 N3
theorem el1l {D : Addr} {t1 t2 t3 t4 : Tok} (G : Gd A₀ base outer (Kf w) p loose mean mg mb g Ll oL) : ElAt Pg w (AO gd L outer) (hideAll g [Ll]) Ll oL L m 1 (D, tupO 1 0 (-789) (-3) t1 t2 t3 t4) 1 := by
  intro t sl Kp s Q E hq off F N hk
  obtain ⟨g', T', F', N', B', X', P', D'⟩ := G.open F N off
  refine err1l w B' F' X' G.XB G.TB D' (news := Kp) (fun p hp => (List.mem_cons.mp hp).elim (fun e => e ▸ N' _ hq) (N' p)) P' rfl fun t h' h₀' tk' T2 F2 N2 => ?_
  obtain ⟨sl', F3, N3⟩ := G.close (T'.trans T2) F2 (fun p hp => N2 p (.tail _ hp))
  exact hk t sl' h' tk' F3 N3
theorem el1n {D : Addr} {t1 t2 t3 t4 : Tok} (G : Gd A₀ base outer (Kf w) p loose mean mg mb g Ll oL) : ElAt Pg w (AO gd L outer) (hideAll g [Ll]) Ll oL L m 1 (D, tupO 0 0 (-123) (-1) t1 t2 t3 t4) 2 := by
  intro t sl Kp s Q E hq off F N hk
  obtain ⟨g', T', F', N', B', X', P', D'⟩ := G.open F N off
  refine err1n w B' F' X' G.XB G.TB D' (news := Kp) (fun p hp => (List.mem_cons.mp hp).elim (fun e => e ▸ N' _ hq) (N' p)) P' rfl fun t h' h₀' tk' T2 F2 N2 => ?_
  obtain ⟨sl', F3, N3⟩ := G.close (T'.trans T2) F2 (fun p hp => N2 p (.tail _ hp))
  exact hk t sl' h' tk' F3 N3
theorem el2g {D : Addr} {t1 t2 t3 t4 : Tok} (G : Gd A₀ base outer (Kf w) p loose mean mg mb g Ll oL) : ElAt Pg w (AO gd L outer) (hideAll g [Ll]) Ll oL L m 2 (D, tupO 0 0 (-456) (-2) t1 t2 t3 t4) 2 := by
  intro t sl Kp s Q E hq off F N hk
  obtain ⟨g', T', F', N', B', X', P', D'⟩ := G.open F N off
  refine err2g w B' F' X' G.XB G.TB D' (news := Kp) (fun p hp => (List.mem_cons.mp hp).elim (fun e => e ▸ N' _ hq) (N' p)) P' rfl fun t h' h₀' tk' T2 F2 N2 => ?_
  obtain ⟨sl', F3, N3⟩ := G.close (T'.trans T2) F2 (fun p hp => N2 p (.tail _ hp))
  exact hk t sl' h' tk' F3 N3
theorem el2l {D : Addr} {t1 t2 t3 t4 : Tok} (G : Gd A₀ base outer (Kf w) p loose mean mg mb g Ll oL) : ElAt Pg w (AO gd L outer) (hideAll g [Ll]) Ll oL L m 2 (D, tupO 1 0 (-789) (-3) t1 t2 t3 t4) 2 := by
  intro t sl Kp s Q E hq off F N hk
  obtain ⟨g', T', F', N', B', X', P', D'⟩ := G.open F N off
  refine err2l w B' F' X' G.XB G.TB D' (news := Kp) (fun p hp => (List.mem_cons.mp hp).elim (fun e => e ▸ N' _ hq) (N' p)) P' rfl fun t h' h₀' tk' T2 F2 N2 => ?_
  obtain ⟨sl', F3, N3⟩ := G.close (T'.trans T2) F2 (fun p hp => N2 p (.tail _ hp))
  exact hk t sl' h' tk' F3 N3
theorem el2n {D : Addr} {t1 t2 t3 t4 : Tok} (G : Gd A₀ base outer (Kf w) p loose mean mg mb g Ll oL) : ElAt Pg w (AO gd L outer) (hideAll g [Ll]) Ll oL L m 2 (D, tupO 0 0 (-123) (-1) t1 t2 t3 t4) 2 := by
  intro t sl Kp s Q E hq off F N hk
  obtain ⟨g', T', F', N', B', X', P', D'⟩ := G.open F N off
  refine err2n w B' F' X' G.XB G.TB D' (news := Kp) (fun p hp => (List.mem_cons.mp hp).elim (fun e => e ▸ N' _ hq) (N' p)) P' rfl fun t h' h₀' tk' T2 F2 N2 => ?_
  obtain ⟨sl', F3, N3⟩ := G.close (T'.trans T2) F2 (fun p hp => N2 p (.tail _ hp))
  exact hk t sl' h' tk' F3 N3

theorem el_12 {D1 D2 D3 : Addr} {a1 a2 a3 a4 b1 b2 b3 b4 c1 c2 c3 c4 : Tok} {oL : Obj} (G : Gd A₀ base outer (Kf w) p loose mean mg mb g Ll oL) : ∀ (i j : Nat) (q : Addr × Obj) (r : Int), i < 2 →
    [(D1, tupO 0 0 (-456) (-2) a1 a2 a3 a4), (D2, tupO 1 0 (-789) (-3) b1 b2 b3 b4), (D3, tupO 0 0 (-123) (-1) c1 c2 c3 c4)][j]? = some q → ([1, 1, 2] : List Int)[j]? = some r → ElAt Pg w (AO gd L outer) (hideAll g [Ll]) Ll oL L m (i : Int) q r := by
  intro i j q r hi hq hr
  match i, hi, j with
  | 0, _, 0 => cases hq; cases hr; exact el0g G
  | 0, _, 1 => cases hq; cases hr; exact el0l G
  | 0, _, 2 => cases hq; cases hr; exact el0n G
  | 1, _, 0 => cases hq; cases hr; exact el1g G
  | 1, _, 1 => cases hq; cases hr; exact el1l G
  | 1, _, 2 => cases hq; cases hr; exact el1n G
  | i + 2, hi, _ => exact absurd hi (by omega)
  | 0, _, j + 3 => cases hq
  | 1, _, j + 3 => cases hq
theorem el_2 {D1 D2 D3 : Addr} {a1 a2 a3 a4 b1 b2 b3 b4 c1 c2 c3 c4 : Tok} {oL : Obj} (G : Gd A₀ base outer (Kf w) p loose mean mg mb g Ll oL) : ∀ (j : Nat) (q : Addr × Obj) (r : Int),
    [(D1, tupO 0 0 (-456) (-2) a1 a2 a3 a4), (D2, tupO 1 0 (-789) (-3) b1 b2 b3 b4), (D3, tupO 0 0 (-123) (-1) c1 c2 c3 c4)][j]? = some q → ([2, 2, 2] : List Int)[j]? = some r → ElAt Pg w (AO gd L outer) (hideAll g [Ll]) Ll oL L m 2 q r := by
  intro j q r hq hr
  match j with
  | 0 => cases hq; cases hr; exact el2g G
  | 1 => cases hq; cases hr; exact el2l G
  | 2 => cases hq; cases hr; exact el2n G
  | j + 3 => cases hq
end

section
/- k_upd: one step of an expression; k_updF: all that walks by itself -/
local macro_rules | `(tactic| k_upd) => `(tactic| first
  | ((with_reducible refine' e_round_nearest ?hx) <;> rfl)
  | ((with_reducible refine' e_round_nearest' ?hx) <;> rfl)
  | ((with_reducible refine' e_round_floor ?hx) <;> rfl)
  | ((with_reducible refine' e_round_floor' ?hx) <;> rfl)
  | ((with_reducible refine' e_round_ceiling ?hx) <;> rfl)
  | ((with_reducible refine' e_round_ceiling' ?hx) <;> rfl)
  | ((with_reducible refine' e_round_up ?hx) <;> rfl)
  | ((with_reducible refine' e_round_down ?hx) <;> rfl)
  | ((with_reducible refine' e_round_fast ?hx) <;> rfl)
  | ((with_reducible refine' e_MPZ_ONE ?hx) <;> rfl)
  | ((with_reducible refine' e_fzero ?hx) <;> rfl)
  | ((with_reducible refine' e_fone ?hx) <;> rfl)
  | ((with_reducible refine' e_fnone ?hx) <;> rfl)
  | ((with_reducible refine' e_fnan ?hx) <;> rfl)
  | ((with_reducible refine' e_finf ?hx) <;> rfl)
  | ((with_reducible refine' e_fninf ?hx) <;> rfl)
  | exact ev_int
  | exact ev_local rfl
  | exact ev_str
  | exact ev_bool
  | exact ev_none
  | exact evs_nil
  | refine' evs_cons ?_ ?_
  | refine' ev_bin ?_ ?_ ?_
  | refine' ev_neg ?_
  | refine' ev_cmp ?_ ?_ ?_
  | refine' ts_cmp ?_ ?_ ?_
  | refine' ts_not ?_
  | refine' ts_bool ?_
  | exact tsb_and_nil
  | exact tsb_or_nil
  | refine' tsb_and ?_ (fun _ => ?_)
  | refine' tsb_or ?_ (fun _ => ?_)
  | refine' ev_bits ?_
  | refine' ev_tuple ?_ ?_
  | refine' ev_list ?_ ?_
  | exact Nat.le_of_ble_eq_true rfl
  | exact (rfl : List.length _ = _)
  | refine' ts_int (ev_local rfl)
  | refine' ts_boolv (ev_local rfl)
  | refine' ts_int ?_
  | refine' ev_iteI ?_ (fun _ => ?_) (fun _ => ?_)
  | exact bin_add _ _
  | exact bin_sub _ _
  | exact bin_and _ _
  | refine' bin_shr ?_
  | refine' bin_shl ?_ ?_
  | refine' bin_mul ?_
  | refine' bin_pow ?_ ?_
  | refine' bin_div ?_ ?_
  | refine' bin_mod ?_
  | exact inp_add _ _
  | exact inp_sub _ _
  | exact inp_xor _ _
  | refine' inp_shr ?_
  | refine' Cmp.int ?_
  | exact Cmp.streq
  | exact cmp_eq _ _
  | exact cmp_ne _ _
  | exact cmp_lt _ _
  | exact cmp_le _ _
  | exact cmp_gt _ _
  | exact cmp_ge _ _)
local macro_rules | `(tactic| k_updF) => `(tactic| repeat' (first
  | k_upd
  | refine' exs_next (ex_assign ?_) ?_
  | refine' exs_next (ex_aug rfl ?_ ?_) ?_
  | refine' exs_ret (ex_ret ?_) ?_
  | refine' exs_next (ex_unpack ?_ ?_ ?_) ?_
  | exact asg_nil
  | refine' asg_name ?_
  | refine' asg_bind ?_))

/- k_subL: what is known of the names, one by one -/
local macro_rules | `(tactic| k_subL) => `(tactic| repeat' (first | exact List.forall_mem_nil _ | refine List.forall_mem_cons.mpr ⟨lkI rfl ?_, ?_⟩ | refine List.forall_mem_cons.mpr ⟨lk rfl ?_, ?_⟩))
theorem f_trailing (c : Ctx) (v : Int) : Fun c 1 21 [.int v] (.int (trailF v)) := by
  refine fun_of (k := 0) [Str.ofString "n"] [] rfl rfl .nil ?_ ?_ ?_ rfl rfl rfl ?_
  · intro s vs hl X
    match vs, hl with
    | [v1], _ => exact BindsTo.of_eq rfl
  · decide
  · intro Γ
    by_cases h : v = 0
    · refine' exs_ret (ex_ifT (ts_eq ?_ ?_) (exs_ret (ex_ret ?_) rfl)) ?_
      k_updF
      all_goals simp [h, trailF]
    · refine' exs_next (ex_ifF (ts_eq ?_ ?_) exs_here) ?_
      k_updF
      all_goals simp [h, trailF]
  · decide

set_option maxHeartbeats 1000000 in
theorem f_norm0 (c : Ctx) (r : Rn) (sg mn ex prec : Int) (hmn : 0 ≤ mn) (hsg : sg = 0 ∨ sg = 1) (hp : mn = 0 ∨ 1 ≤ prec) (hsz : nb mn ≤ 2000) :
    Fun c 2 46 [.int sg, .int mn, .int ex, .int (nb mn : Int), .int prec, .str r.str] (T4 (norm sg mn ex prec r)) := by
  refine fun_of (k := 1) [Str.ofString "sign", Str.ofString "man", Str.ofString "exp", Str.ofString "bc", Str.ofString "prec", Str.ofString "rnd"] [] rfl rfl .nil ?_ ?_ ?_ rfl rfl rfl ?_
  · intro s vs hl X
    match vs, hl with
    | [v1, v2, v3, v4, v5, v6], _ => exact BindsTo.of_eq rfl
  · decide
  · intro Γ
    by_cases h0 : mn = 0
    · subst h0
      refine' exs_ret (ex_ifT (ts_eq ?t ?e) (exs_ret (ex_ret ?r) rfl)) ?q
      case t => k_updF
      case r => k_updF
      case e => rfl
      case q => simp [norm]
    · have h1 : 0 < mn := by omega
      have hp1 : 1 ≤ prec := by omega
      refine' exs_next (ex_ifF (ts_eq ?t ?e) exs_here) ?_
      case t => k_updF
      case e => simp [h0]
      refine exs_next (ex_assign (d := .int ((nb mn : Int) - prec)) (by k_updF)) ?_
      refine exs_join (b := decide ((nb mn : Int) - prec > 0)) [(Str.ofString "sign", .int sg), (Str.ofString "man", .int (if (nb mn : Int) ≤ prec then mn else rsh r sg mn ((nb mn : Int) - prec).toNat)), (Str.ofString "exp", .int (if (nb mn : Int) ≤ prec then ex else ex + ((nb mn : Int) - prec))), (Str.ofString "bc", .int (if (nb mn : Int) ≤ prec then (nb mn : Int) else prec))] ?_ ?_ ?_ ?_
      · k_updF
      · intro hn
        have hn' : 0 < (nb mn : Int) - prec := of_decide_eq_true hn
        have hnl : ¬ (nb mn : Int) ≤ prec := by omega
        obtain ⟨q, hq⟩ : ∃ q : Nat, (nb mn : Int) - prec = (q : Int) + 1 := ⟨((nb mn : Int) - prec - 1).toNat, by omega⟩
        have hq1 : ((nb mn : Int) - prec - 1).toNat = q := by omega
        have hq2 : ((nb mn : Int) - prec).toNat = q + 1 := by omega
        simp only [if_neg hnl]
        refine exs_join (b := decide (r = .n)) [(Str.ofString "sign", .int sg), (Str.ofString "man", .int (rsh r sg mn ((nb mn : Int) - prec).toNat)), (Str.ofString "exp", .int ex), (Str.ofString "bc", .int (nb mn : Int)), (Str.ofString "prec", .int prec), (Str.ofString "n", .int ((nb mn : Int) - prec))] ?_ ?_ ?_ ?_
        · exact ts_eq (by k_updF) (rstr_n r)
        · intro hr
          have hr' : r = .n := of_decide_eq_true hr
          subst hr'
          refine' exs_next (ex_assign ?t) ?_
          case t =>
            k_updF
            all_goals omega
          rw [hq1]
          refine' exs_next (ex_if (ts_eq ?t (b' := ((Builtin.bitAnd (mn.fdiv (2 ^ q)) 1 != 0) && ((Builtin.bitAnd (mn.fdiv (2 ^ q)) 2 != 0) || (Builtin.bitAnd mn (1 * 2 ^ q - 1) != 0)))) ?e) (fun hb => ?_) (fun hb => ?_)) exs_here
          case t =>
            k_updF
            all_goals first | omega | skip
            have : nb 1 = 1 := rfl
            unfold nb at this
            omega
          case e =>
            simp [hq1]
          · refine' exs_next (ex_assign ?t) (exs_nil ?_)
            case t =>
              k_updF
              all_goals omega
            k_subL
            all_goals first | rfl | skip
            rw [hq2, near_eq hmn, if_pos hb]
            rfl
          · refine' exs_next (ex_assign ?t) (exs_nil ?_)
            case t =>
              k_updF
              all_goals omega
            k_subL
            all_goals first | rfl | skip
            rw [hq2, near_eq hmn, if_neg (by rw [hb]; decide)]
            rfl
        · intro hr
          have hr' : r ≠ .n := of_decide_eq_false hr
          refine' exs_next (ex_if (ts_int (ev_shifts r hr' hsg rfl rfl)) (fun hb => ?_) (fun hb => ?_)) exs_here
          · refine' exs_next (ex_aug rfl ?t (inp_shr ?h)) (exs_nil ?_)
            case t => k_updF
            case h => omega
            k_subL
            all_goals first | rfl | skip
            rw [hq2, sd_down hr' hsg (by simpa using hb)]
          · refine' exs_next (ex_assign ?t) (exs_nil ?_)
            case t =>
              k_updF
              all_goals omega
            k_subL
            all_goals first | rfl | skip
            rw [hq2, sd_up hr' hsg (by simpa using hb)]
        · refine' exs_next (ex_aug rfl ?t ?o) (exs_next (ex_assign ?u) (exs_nil ?_))
          case t => k_updF
          case o => k_updF
          case u => k_updF
          k_subL
          all_goals rfl
      · intro hn
        have hn' : ¬ 0 < (nb mn : Int) - prec := of_decide_eq_false hn
        have hnl : (nb mn : Int) ≤ prec := by omega
        simp only [if_pos hnl]
        refine exs_nil ?_
        k_subL
        all_goals rfl
      · -- the zeros struck off
        have hw : 0 < (if (nb mn : Int) ≤ prec then mn else rsh r sg mn ((nb mn : Int) - prec).toNat) ∧ ((nb (if (nb mn : Int) ≤ prec then mn else rsh r sg mn ((nb mn : Int) - prec).toNat) : Int) = (if (nb mn : Int) ≤ prec then (nb mn : Int) else prec) ∨
            ∃ j : Nat, (if (nb mn : Int) ≤ prec then (nb mn : Int) else prec) = (j : Int) ∧ 1 ≤ j ∧ (if (nb mn : Int) ≤ prec then mn else rsh r sg mn ((nb mn : Int) - prec).toNat) = 2 ^ j) := by
          by_cases hc : (nb mn : Int) ≤ prec
          · rw [if_pos hc, if_pos hc]
            exact ⟨h1, .inl rfl⟩
          · rw [if_neg hc, if_neg hc]
            obtain ⟨p, rfl⟩ : ∃ p : Nat, prec = (p : Int) := ⟨prec.toNat, by omega⟩
            have e1 : ((nb mn : Int) - (p : Int)).toNat = nb mn - p := by omega
            rw [e1]
            obtain ⟨b1, b2⟩ := rsh_bounds r sg h1 (show 1 ≤ p by omega) (show p < nb mn by omega)
            have h2 := p2pos (p - 1)
            refine ⟨by omega, ?_⟩
            by_cases he : rsh r sg mn (nb mn - p) = 2 ^ p
            · exact .inr ⟨p, rfl, by omega, he⟩
            · left
              have e2 : p = (p - 1) + 1 := by omega
              rw [nb_unique b1 (by rw [← e2]; omega)]
              omega
        have hfin : norm sg mn ex prec r = canon sg (if (nb mn : Int) ≤ prec then mn else rsh r sg mn ((nb mn : Int) - prec).toNat) (if (nb mn : Int) ≤ prec then ex else ex + ((nb mn : Int) - prec)) := by
          unfold norm
          rw [if_neg h0]
          split <;> rfl
        rw [hfin]
        clear hfin hp
        generalize (if (nb mn : Int) ≤ prec then mn else rsh r sg mn ((nb mn : Int) - prec).toNat) = w at *
        generalize (if (nb mn : Int) ≤ prec then ex else ex + ((nb mn : Int) - prec)) = e at *
        generalize (if (nb mn : Int) ≤ prec then (nb mn : Int) else prec) = b at *
        obtain ⟨hw1, hw2⟩ := hw
        by_cases ho : Builtin.bitAnd w 1 = 0
        · refine' exs_next (ex_ifT (ts_eq ?t ?e) (exs_next (ex_assign (ev_call (n_trailing _) (k_trailing _) ?t1 (f_trailing c w) (by decide))) (exs_next (ex_aug rfl ?t2 ?o2) (exs_next (ex_aug rfl ?t3 ?o3) (exs_next (ex_aug rfl ?t4 ?o4) exs_here))))) ?_
          case t => k_updF
          case e => simp [ho]
          case t1 => k_updF
          case t2 => k_updF
          case t3 => k_updF
          case t4 => k_updF
          case o2 =>
            k_updF
            exact trail_nonneg hw1
          case o3 => k_updF
          case o4 => k_updF
          refine exs_join (b := decide (w.fdiv (2 ^ (trailF w).toNat) = 1)) [(Str.ofString "sign", .int sg), (Str.ofString "man", .int (w.fdiv (2 ^ (trailF w).toNat))), (Str.ofString "exp", .int (e + trailF w)), (Str.ofString "bc", .int (if w.fdiv (2 ^ (trailF w).toNat) = 1 then 1 else b - trailF w))] ?_ (fun hb => ?_) (fun hb => ?_) ?_
          · exact ts_eq (by k_updF) (by rw [Bool.eq_iff_iff]; simp)
          · refine' exs_next (ex_assign ?t) (exs_nil ?_)
            case t => k_updF
            k_subL
            all_goals first | rfl | skip
            rw [if_pos (of_decide_eq_true hb)]
          · refine exs_nil ?_
            k_subL
            all_goals first | rfl | skip
            rw [if_neg (of_decide_eq_false hb)]
          · refine' exs_ret (ex_ret ?r) ?_
            case r => k_updF
            rw [← strike_even hw1 hw2]
            rfl
        · refine' exs_next (ex_ifF (ts_eq ?t ?e) exs_here) ?_
          case t => k_updF
          case e => simp [ho]
          refine exs_join (b := decide (w = 1)) [(Str.ofString "sign", .int sg), (Str.ofString "man", .int w), (Str.ofString "exp", .int e), (Str.ofString "bc", .int (if w = 1 then 1 else b))] ?_ (fun hb => ?_) (fun hb => ?_) ?_
          · exact ts_eq (by k_updF) (by rw [Bool.eq_iff_iff]; simp)
          · refine' exs_next (ex_assign ?t) (exs_nil ?_)
            case t => k_updF
            k_subL
            all_goals first | rfl | skip
            rw [if_pos (of_decide_eq_true hb)]
          · refine exs_nil ?_
            k_subL
            all_goals first | rfl | skip
            rw [if_neg (of_decide_eq_false hb)]
          · refine' exs_ret (ex_ret ?r) ?_
            case r => k_updF
            rw [← strike_odd hw1 hw2 ho]
            rfl
  · decide

set_option maxHeartbeats 1000000 in
theorem f_norm (c : Ctx) (r : Rn) (sg mn ex prec : Int) (hmn : 0 ≤ mn) (hsg : sg = 0 ∨ sg = 1) (hp : mn = 0 ∨ 1 ≤ prec) (hsz : nb mn ≤ 2000) :
    Fun c 3 53 [.int sg, .int mn, .int ex, .int (nb mn : Int), .int prec, .str r.str] (T4 (norm sg mn ex prec r)) := by
  refine fun_of (k := 2) [Str.ofString "sign", Str.ofString "man", Str.ofString "exp", Str.ofString "bc", Str.ofString "prec", Str.ofString "rnd"] [] rfl rfl .nil ?_ ?_ ?_ rfl rfl rfl ?_
  · intro s vs hl X
    match vs, hl with
    | [v1, v2, v3, v4, v5, v6], _ => exact BindsTo.of_eq rfl
  · decide
  · intro Γ
    refine' exs_next (ex_assert (ts_eq ?t ?e)) (exs_next (ex_assert (ts_eq ?t1 ?e1)) (exs_ret (ex_ret (ev_call (n_normalize0 _) (k_normalize0 _) ?t2 (f_norm0 c r sg mn ex prec hmn hsg hp hsz) (by decide))) rfl))
    case t => k_updF
    case e => simp [nb]
    case t1 => k_updF
    case e1 => simp [hmn]
    case t2 => k_updF
  · decide

/-- mpf_pos, told a precision -/
theorem f_pos (c : Ctx) (r : Rn) (sg mn ex prec : Int) (hmn : 0 ≤ mn) (hsg : sg = 0 ∨ sg = 1) (hz : mn = 0 → ex = 0) (hp : 1 ≤ prec) (hsz : nb mn ≤ 2000) :
    Fun c 4 130 [T4 (sg, mn, ex, (nb mn : Int)), .int prec, .str r.str] (T4 (norm sg mn ex prec r)) := by
  refine fun_of (k := 3) [Str.ofString "s", Str.ofString "prec", Str.ofString "rnd"] [] rfl rfl .nil ?_ ?_ ?_ rfl rfl rfl ?_
  · intro s vs hl X
    match vs, hl with
    | [v1, v2, v3], _ => exact binds_K X rfl rfl rfl rfl rfl
  · decide
  · intro Γ
    refine' exs_ret (ex_ifT (ts_eq ?t ?e) (exs_next (ex_unpack ?t1 ?l1 ?o1) (exs_next (ex_ifF (ts_eq ?t2 ?e2) exs_here) (exs_ret (ex_ret (ev_call (n_normalize _) (k_normalize _) ?t3 (f_norm c r sg mn ex prec hmn hsg (.inr hp) hsz) (by decide))) rfl)))) rfl
    case t => k_updF
    case e => simp; omega
    case t1 => k_updF
    case l1 => k_updF
    case o1 => k_updF
    case t2 => k_updF
    case e2 =>
      by_cases h : mn = 0
      · simp [h, hz h]
      · simp [h]
    case t3 => k_updF
  · decide

set_option maxHeartbeats 1000000 in
theorem f_round_int_n (c : Ctx) (x : Int) (m : Nat) (hx : 0 ≤ x) (hm : m ≤ 10000) :
    Fun c 1 34 [.int x, .int ((m : Int) + 1), .str Rn.n.str] (.int (whole .n x (m + 1))) := by
  refine fun_of (k := 0) [Str.ofString "x", Str.ofString "n", Str.ofString "rnd"] [] rfl rfl .nil ?_ ?_ ?_ rfl rfl rfl ?_
  · intro s vs hl X
    match vs, hl with
    | [v1, v2, v3], _ => exact BindsTo.of_eq rfl
  · decide
  · intro Γ
    have hq : ((m : Int) + 1 - 1).toNat = m := by omega
    rw [whole_n_pos hx, near_eq hx]
    refine' exs_ret (ex_ifT (ts_eq ?t ?e) (exs_ret (ex_ifT (ts_eq ?t1 ?e1) (exs_next (ex_assign ?t2) ?q)) rfl)) rfl
    case t => k_updF
    case e => decide
    case t1 => k_updF
    case e1 => simp [hx]
    case t2 =>
      k_updF
      all_goals omega
    case q =>
      rw [hq]
      refine' exs_ret (ex_if (ts_eq ?t (b' := ((Builtin.bitAnd (x.fdiv (2 ^ m)) 1 != 0) && ((Builtin.bitAnd (x.fdiv (2 ^ m)) 2 != 0) || (Builtin.bitAnd x (1 * 2 ^ m - 1) != 0)))) ?e) (fun hb => ?_) (fun hb => ?_)) rfl
      case t =>
        k_updF
        all_goals first | omega | skip
        have : nb 1 = 1 := rfl
        unfold nb at this
        omega
      case e => simp [hq]
      · refine' exs_ret (ex_ret ?t) ?_
        case t =>
          k_updF
          all_goals omega
        rw [if_pos hb]
        rfl
      · refine' exs_ret (ex_ret ?t) ?_
        case t =>
          k_updF
          all_goals omega
        rw [if_neg (by rw [hb]; decide)]
        rfl
  · decide

set_option maxHeartbeats 1000000 in
theorem f_round_int (c : Ctx) (r : Rn) (x : Int) (m : Nat) (hm : m ≤ 10000) :
    Fun c 2 34 [.int x, .int ((m : Int) + 1), .str r.str] (.int (whole r x (m + 1))) := by
  refine fun_of (k := 1) [Str.ofString "x", Str.ofString "n", Str.ofString "rnd"] [] rfl rfl .nil ?_ ?_ ?_ rfl rfl rfl ?_
  · intro s vs hl X
    match vs, hl with
    | [v1, v2, v3], _ => exact BindsTo.of_eq rfl
  · decide
  · intro Γ
    have hq : ((m : Int) + 1 - 1).toNat = m := by omega
    have hq1 : ((m : Int) + 1).toNat = m + 1 := by omega
    by_cases hn : r = .n
    · subst hn
      by_cases hx : 0 ≤ x
      · rw [whole_n_pos hx, near_eq hx]
        refine' exs_ret (ex_ifT (ts_eq ?t ?e) (exs_ret (ex_ifT (ts_eq ?t1 ?e1) (exs_next (ex_assign ?t2) ?q)) rfl)) rfl
        case t => k_updF
        case e => decide
        case t1 => k_updF
        case e1 => simp [hx]
        case t2 =>
          k_updF
          all_goals omega
        case q =>
          rw [hq]
          refine' exs_ret (ex_if (ts_eq ?t (b' := ((Builtin.bitAnd (x.fdiv (2 ^ m)) 1 != 0) && ((Builtin.bitAnd (x.fdiv (2 ^ m)) 2 != 0) || (Builtin.bitAnd x (1 * 2 ^ m - 1) != 0)))) ?e) (fun hb => ?_) (fun hb => ?_)) rfl
          case t =>
            k_updF
            all_goals first | omega | skip
            have : nb 1 = 1 := rfl
            unfold nb at this
            omega
          case e => simp [hq]
          · refine' exs_ret (ex_ret ?t) ?_
            case t =>
              k_updF
              all_goals omega
            rw [if_pos hb]
            rfl
          · refine' exs_ret (ex_ret ?t) ?_
            case t =>
              k_updF
              all_goals omega
            rw [if_neg (by rw [hb]; decide)]
            rfl
      · have hx' : 0 ≤ -x := by omega
        refine' exs_ret (ex_ifT (ts_eq ?t ?e) (exs_ret (ex_ifF (ts_eq ?t1 ?e1) (exs_ret (ex_ret (ev_neg (ev_call (n_round_int _) (k_round_int _) ?t2 (f_round_int_n c (-x) m hx' hm) (by decide)))) ?q)) rfl)) rfl
        case t => k_updF
        case e => decide
        case t1 => k_updF
        case e1 => simp; omega
        case t2 => k_updF
        case q => rw [whole_neg_n]; simp
    · refine' exs_next (ex_ifF (ts_eq ?t ?e) exs_here) ?_
      case t => k_updF
      case e => rw [rstr_n]; simp [hn]
      by_cases hf : r = .f
      · subst hf
        refine' exs_ret (ex_ifT (ts_eq ?t ?e) (exs_ret (ex_ret ?r) ?q)) rfl
        case t => k_updF
        case e => decide
        case r =>
          k_updF
          all_goals omega
        case q => rw [whole_f, hq1]
      refine' exs_next (ex_ifF (ts_eq ?t ?e) exs_here) ?_
      case t => k_updF
      case e => rw [rstr_f]; simp [hf]
      by_cases hc : r = .c
      · subst hc
        refine' exs_ret (ex_ifT (ts_eq ?t ?e) (exs_ret (ex_ret ?r) ?q)) rfl
        case t => k_updF
        case e => decide
        case r =>
          k_updF
          all_goals omega
        case q => rw [whole_c, hq1]
      refine' exs_next (ex_ifF (ts_eq ?t ?e) exs_here) ?_
      case t => k_updF
      case e => rw [rstr_c]; simp [hc]
      by_cases hd : r = .d
      · subst hd
        refine' exs_ret (ex_ifT (ts_eq ?t ?e) ?_) rfl
        case t => k_updF
        case e => decide
        by_cases hx : 0 ≤ x
        · refine' exs_ret (ex_ifT (ts_eq ?t ?e) (exs_ret (ex_ret ?r) ?q)) rfl
          case t => k_updF
          case e => simp [hx]
          case r =>
            k_updF
            all_goals omega
          case q => rw [whole_d_pos hx, hq1]
        · refine' exs_next (ex_ifF (ts_eq ?t ?e) exs_here) (exs_ret (ex_ret ?r) ?q)
          case t => k_updF
          case e => simp; omega
          case r =>
            k_updF
            all_goals omega
          case q => rw [whole_d_neg (by omega), hq1]
      refine' exs_next (ex_ifF (ts_eq ?t ?e) exs_here) ?_
      case t => k_updF
      case e => rw [rstr_d]; simp [hd]
      have hu : r = .u := by cases r <;> simp_all
      subst hu
      refine' exs_ret (ex_ifT (ts_eq ?t ?e) ?_) rfl
      case t => k_updF
      case e => decide
      by_cases hx : 0 ≤ x
      · refine' exs_ret (ex_ifT (ts_eq ?t ?e) (exs_ret (ex_ret ?r) ?q)) rfl
        case t => k_updF
        case e => simp [hx]
        case r =>
          k_updF
          all_goals omega
        case q => rw [whole_u_pos hx, hq1]
      · refine' exs_next (ex_ifF (ts_eq ?t ?e) exs_here) (exs_ret (ex_ret ?r) ?q)
        case t => k_updF
        case e => simp; omega
        case r =>
          k_updF
          all_goals omega
        case q => rw [whole_u_neg (by omega), hq1]
  · decide

set_option maxHeartbeats 1000000 in
theorem f_to_int (c : Ctx) (r : Rn) (sg mn ex : Int) (W : Wf sg mn ex) : Fun c 3 69 [T4 (sg, mn, ex, (nb mn : Int)), .str r.str] (.int (whole r (abv sg mn ex) (-ex).toNat)) := by
  refine fun_of (k := 2) (dds := []) [Str.ofString "s", Str.ofString "rnd"] [] rfl rfl .nil ?_ ?_ ?_ rfl rfl rfl ?_
  · intro s vs hl X
    match vs, hl with
    | [v1, v2], _ => exact binds_K X rfl rfl rfl rfl rfl
  · decide
  · intro Γ
    have hnn := W.nonneg
    refine' exs_next (ex_unpack ?t1 ?l1 ?o1) (exs_next (ex_ifF (ts_eq ?t2 ?e2) exs_here) ?_)
    case t1 => k_updF
    case l1 => k_updF
    case o1 => k_updF
    case t2 => k_updF
    case e2 =>
      by_cases h : mn = 0
      · simp [h, (W.zero h).1]
      · simp [h]
    have hsz := W.size
    have hlo := W.lo
    have hhi := W.hi
    by_cases hex : 0 ≤ ex
    · have e0 : (-ex).toNat = 0 := by omega
      rw [e0, whole_zero]
      have hs1 : (Builtin.Int.intBits (-mn) : Int) + ex ≤ 2 ^ 27 := by
        have := nb_neg mn
        unfold nb at this hsz
        omega
      have hs2 : (Builtin.Int.intBits mn : Int) + ex ≤ 2 ^ 27 := by
        unfold nb at hsz
        omega
      rcases W.sg01 with rfl | rfl
      · refine' exs_ret (ex_ifT (ts_eq ?t ?e) (exs_next (ex_ifF (ts_eq ?t1 ?e1) exs_here) (exs_ret (ex_ret ?zr) ?zq))) rfl
        case t => k_updF
        case e => simp [hex]
        case t1 => k_updF
        case e1 => rfl
        case zr =>
          k_updF
          all_goals assumption
        case zq => rfl
      · refine' exs_ret (ex_ifT (ts_eq ?t ?e) (exs_ret (ex_ifT (ts_eq ?t1 ?e1) (exs_ret (ex_ret ?zr) ?zq)) rfl)) rfl
        case t => k_updF
        case e => simp [hex]
        case t1 => k_updF
        case e1 => rfl
        case zr =>
          k_updF
          all_goals assumption
        case zq => rfl
    · obtain ⟨m, hm⟩ : ∃ m : Nat, -ex = (m : Int) + 1 := ⟨(-ex - 1).toNat, by omega⟩
      have e1 : (-ex).toNat = m + 1 := by omega
      rw [e1, abv_nonneg_exp (by omega)]
      refine' exs_next (ex_ifF (ts_eq ?t ?e) exs_here) ?_
      case t => k_updF
      case e => simp; omega
      by_cases hd : r = .d
      · subst hd
        rw [whole_sgn .d (m + 1) hnn W.sg01, rsh_d, ← fdiv_p2]
        refine' exs_ret (ex_ifT (ts_eq ?t ?e) ?_) rfl
        case t => k_updF
        case e => decide
        rcases W.sg01 with rfl | rfl
        · refine' exs_ret (ex_ifF (ts_eq ?t1 ?e1) (exs_ret (ex_ret ?zr) ?zq)) rfl
          case t1 => k_updF
          case e1 => rfl
          case zr =>
            k_updF
            all_goals ((try dsimp only); omega)
          case zq => rw [e1]; rfl
        · refine' exs_ret (ex_ifT (ts_eq ?t1 ?e1) (exs_ret (ex_ret ?zr) ?zq)) rfl
          case t1 => k_updF
          case e1 => rfl
          case zr =>
            k_updF
            all_goals ((try dsimp only); omega)
          case zq => rw [e1]; rfl
      · refine' exs_next (ex_ifF (ts_eq ?t ?e) exs_here) ?_
        case t => k_updF
        case e => rw [rstr_d]; simp [hd]
        have hm2 : m ≤ 10000 := by omega
        rcases W.sg01 with rfl | rfl
        · refine' exs_ret (ex_ifF (ts_eq ?t1 ?e1) (exs_ret (ex_ret (ev_call (n_round_int _) (k_round_int _) ?t2 (f_round_int c r mn m hm2) (by decide))) ?zq)) rfl
          case t1 => k_updF
          case e1 => rfl
          case t2 =>
            rw [← hm]
            k_updF
          case zq => rfl
        · refine' exs_ret (ex_ifT (ts_eq ?t1 ?e1) (exs_ret (ex_ret (ev_call (n_round_int _) (k_round_int _) ?t2 (f_round_int c r (-mn) m hm2) (by decide))) ?zq)) rfl
          case t1 => k_updF
          case e1 => rfl
          case t2 =>
            rw [← hm]
            k_updF
          case zq => rfl
  · decide

set_option maxHeartbeats 1000000 in
theorem f_to_int1 (c : Ctx) (sg mn ex : Int) (W : Wf sg mn ex) : Fun c 3 69 [T4 (sg, mn, ex, (nb mn : Int))] (.int (whole .d (abv sg mn ex) (-ex).toNat)) := by
  refine fun_of (k := 2) (dds := [.str Rn.d.str]) [Str.ofString "s", Str.ofString "rnd"] [.str (Str.ofString "d") 210] rfl rfl (.cons (.str _ _) .nil) ?_ ?_ ?_ rfl rfl rfl ?_
  · intro s vs hl X
    match vs, hl with
    | [v1], _ => exact binds_K X rfl rfl rfl rfl rfl
  · decide
  · intro Γ
    have hnn := W.nonneg
    refine' exs_next (ex_unpack ?t1 ?l1 ?o1) (exs_next (ex_ifF (ts_eq ?t2 ?e2) exs_here) ?_)
    case t1 => k_updF
    case l1 => k_updF
    case o1 => k_updF
    case t2 => k_updF
    case e2 =>
      by_cases h : mn = 0
      · simp [h, (W.zero h).1]
      · simp [h]
    have hsz := W.size
    have hlo := W.lo
    have hhi := W.hi
    by_cases hex : 0 ≤ ex
    · have e0 : (-ex).toNat = 0 := by omega
      rw [e0, whole_zero]
      have hs1 : (Builtin.Int.intBits (-mn) : Int) + ex ≤ 2 ^ 27 := by
        have := nb_neg mn
        unfold nb at this hsz
        omega
      have hs2 : (Builtin.Int.intBits mn : Int) + ex ≤ 2 ^ 27 := by
        unfold nb at hsz
        omega
      rcases W.sg01 with rfl | rfl
      · refine' exs_ret (ex_ifT (ts_eq ?t ?e) (exs_next (ex_ifF (ts_eq ?t1 ?e1) exs_here) (exs_ret (ex_ret ?zr) ?zq))) rfl
        case t => k_updF
        case e => simp [hex]
        case t1 => k_updF
        case e1 => rfl
        case zr =>
          k_updF
          all_goals assumption
        case zq => rfl
      · refine' exs_ret (ex_ifT (ts_eq ?t ?e) (exs_ret (ex_ifT (ts_eq ?t1 ?e1) (exs_ret (ex_ret ?zr) ?zq)) rfl)) rfl
        case t => k_updF
        case e => simp [hex]
        case t1 => k_updF
        case e1 => rfl
        case zr =>
          k_updF
          all_goals assumption
        case zq => rfl
    · obtain ⟨m, hm⟩ : ∃ m : Nat, -ex = (m : Int) + 1 := ⟨(-ex - 1).toNat, by omega⟩
      have e1 : (-ex).toNat = m + 1 := by omega
      rw [e1, abv_nonneg_exp (by omega)]
      refine' exs_next (ex_ifF (ts_eq ?t ?e) exs_here) ?_
      case t => k_updF
      case e => simp; omega
      by_cases hd : Rn.d = .d
      · clear hd
        rw [whole_sgn .d (m + 1) hnn W.sg01, rsh_d, ← fdiv_p2]
        refine' exs_ret (ex_ifT (ts_eq ?t ?e) ?_) rfl
        case t => k_updF
        case e => decide
        rcases W.sg01 with rfl | rfl
        · refine' exs_ret (ex_ifF (ts_eq ?t1 ?e1) (exs_ret (ex_ret ?zr) ?zq)) rfl
          case t1 => k_updF
          case e1 => rfl
          case zr =>
            k_updF
            all_goals ((try dsimp only); omega)
          case zq => rw [e1]; rfl
        · refine' exs_ret (ex_ifT (ts_eq ?t1 ?e1) (exs_ret (ex_ret ?zr) ?zq)) rfl
          case t1 => k_updF
          case e1 => rfl
          case zr =>
            k_updF
            all_goals ((try dsimp only); omega)
          case zq => rw [e1]; rfl
      · exact absurd rfl hd
  · decide

set_option maxHeartbeats 1000000 in
theorem f_man_exp (c : Ctx) (sg mn ex : Int) (W : Wf sg mn ex) : Fun c 1 61 [T4 (sg, mn, ex, (nb mn : Int))] (.tuple [.int mn, .int ex]) := by
  refine fun_of (k := 0) (dds := [.none]) [Str.ofString "s", Str.ofString "signed"] [.none] rfl rfl (.cons .none .nil) ?_ ?_ ?_ rfl rfl rfl ?_
  · intro s vs hl X
    match vs, hl with
    | [v1], _ => exact binds_K X rfl rfl rfl rfl rfl
  · decide
  · intro Γ
    refine' exs_next (ex_ifT (ts_cmp (ev_local rfl) ev_none Cmp.isNone) (exs_next (ex_assign ev_bool) exs_here)) ?_
    refine' exs_next (ex_unpack ?t1 ?l1 ?o1) (exs_next (ex_ifF (ts_eq ?t2 ?e2) exs_here) ?_)
    case t1 => k_updF
    case l1 => k_updF
    case o1 => k_updF
    case t2 => k_updF
    case e2 =>
      by_cases h : mn = 0
      · simp [h, (W.zero h).1]
      · simp [h]
    refine' exs_next (ex_ifF (ts_eq ?t ?e) exs_here) (exs_ret (ex_ret ?zr) ?zq)
    case t => k_updF
    case e => simp
    case zr => k_updF
    case zq => rfl
  · decide

set_option maxHeartbeats 1000000 in
theorem f_man_exp2 (c : Ctx) (sg mn ex : Int) (W : Wf sg mn ex) : Fun c 1 61 [T4 (sg, mn, ex, (nb mn : Int)), .bool true] (.tuple [.int (sgn sg mn), .int ex]) := by
  refine fun_of (k := 0) (dds := []) [Str.ofString "s", Str.ofString "signed"] [] rfl rfl .nil ?_ ?_ ?_ rfl rfl rfl ?_
  · intro s vs hl X
    match vs, hl with
    | [v1, v2], _ => exact binds_K X rfl rfl rfl rfl rfl
  · decide
  · intro Γ
    refine' exs_next (ex_ifF (ts_cmp (ev_local rfl) ev_none Cmp.isBool) exs_here) ?_
    refine' exs_next (ex_unpack ?t1 ?l1 ?o1) (exs_next (ex_ifF (ts_eq ?t2 ?e2) exs_here) ?_)
    case t1 => k_updF
    case l1 => k_updF
    case o1 => k_updF
    case t2 => k_updF
    case e2 =>
      by_cases h : mn = 0
      · simp [h, (W.zero h).1]
      · simp [h]
    rcases W.sg01 with rfl | rfl
    · refine' exs_next (ex_ifF (ts_eq ?t ?e) exs_here) (exs_ret (ex_ret ?zr) ?zq)
      case t => k_updF
      case e => rfl
      case zr => k_updF
      case zq => rfl
    · refine' exs_next (ex_ifT (ts_eq ?t ?e) (exs_next (ex_assign ?zs) exs_here)) (exs_ret (ex_ret ?zr) ?zq)
      case t => k_updF
      case e => rfl
      case zs => k_updF
      case zr => k_updF
      case zq => rfl
  · decide

set_option maxHeartbeats 1000000 in
theorem f_worth (c : Ctx) (sg mn ex : Int) (W : Wf sg mn ex) : Fun c 1 183 [T4 (sg, mn, ex, (nb mn : Int))] (.tuple [.int (abv sg mn ex), .int (2 ^ (-ex).toNat)]) := by
  refine fun_of (k := 0) (dds := []) [Str.ofString "s"] [] rfl rfl .nil ?_ ?_ ?_ rfl rfl rfl ?_
  · intro s vs hl X
    match vs, hl with
    | [v1], _ => exact BindsTo.of_eq rfl
  · decide
  · intro Γ
    have hnn := W.nonneg
    have hsz := W.size
    have hlo := W.lo
    have hhi := W.hi
    refine exs_next (ex_assign (d := .int (sgn sg mn)) ?_) ?_
    · refine ev_eq (ev_iteI (b := decide (sg = 1)) (i := -mn) (j := mn) (ts_eq (ts_cmp (ev_item (i := 0) (ev_local rfl) ev_int rfl (by decide)) ev_int (Cmp.int (cmp_eq _ _))) ?_) (fun _ => ev_neg (ev_item (i := 1) (ev_local rfl) ev_int rfl (by decide))) fun _ => ev_item (i := 1) (ev_local rfl) ev_int rfl (by decide)) ?_
      · rw [Bool.eq_iff_iff]; simp
      · simp [sgn]
    refine exs_ret (ex_ret (ev_ite (b := decide (ex ≥ 0)) (ts_cmp (ev_item (i := 2) (ev_local rfl) ev_int rfl (by decide)) ev_int (Cmp.int (cmp_ge _ _))) (fun hb => ?_) fun hb => ?_)) rfl
    · have hex : 0 ≤ ex := of_decide_eq_true hb
      have e0 : (-ex).toNat = 0 := by omega
      rw [e0, Int.pow_zero]
      refine ev_tuple (evs_cons (ev_bin (y := 2 ^ ex.toNat) (ev_local rfl) (ev_bin (x := 2) (y := ex) ev_int (ev_item (i := 2) (ev_local rfl) ev_int rfl (by decide)) (bin_pow hex ?_)) (bin_mul ?_)) (evs_cons ev_int evs_nil)) (Nat.le_of_ble_eq_true rfl)
      · have : Builtin.Int.intBits 2 = 2 := rfl
        rw [this]
        omega
      · have h1 : nb (2 ^ ex.toNat) ≤ 101 := by rw [nb_p2]; omega
        have h2 := nb_sgn sg mn
        exact IntMulOk.of_bits (by unfold nb at h2 hsz; omega) (by unfold nb at h1; omega)
    · have hex : ex < 0 := by have := of_decide_eq_false hb; omega
      rw [abv_nonneg_exp hex]
      refine ev_tuple (evs_cons (ev_local rfl) (evs_cons (ev_bin (x := 2) (y := -ex) ev_int (ev_neg (ev_item (i := 2) (ev_local rfl) ev_int rfl (by decide))) (bin_pow (by omega) ?_)) evs_nil)) (Nat.le_of_ble_eq_true rfl)
      have : Builtin.Int.intBits 2 = 2 := rfl
      rw [this]
      omega
  · decide

set_option maxHeartbeats 1000000 in
theorem f_rational (c : Ctx) (sg mn ex : Int) (W : Wf sg mn ex) : Fun c 1 115 [T4 (sg, mn, ex, (nb mn : Int))] (.tuple [.int (abv sg mn ex), .int (2 ^ (-ex).toNat)]) := by
  refine fun_of (k := 0) (dds := []) [Str.ofString "s"] [] rfl rfl .nil ?_ ?_ ?_ rfl rfl rfl ?_
  · intro s vs hl X
    match vs, hl with
    | [v1], _ => exact BindsTo.of_eq rfl
  · decide
  · intro Γ
    have hnn := W.nonneg
    have hsz := W.size
    have hlo := W.lo
    have hhi := W.hi
    have b1 : Builtin.Int.intBits 1 = 1 := rfl
    refine' exs_next (ex_ifF (ts_eq (ts_cmp (ev_local rfl) ?t ?o) ?e) exs_here) ?_
    case t => k_updF
    case o => exact Cmp.dataEq rfl rfl
    case e =>
      by_cases h : mn = 0
      · simp [T4, PyData.eqv, PyData.eqvAll, (W.zero h).1]
      · simp [T4, PyData.eqv, PyData.eqvAll, h]
    refine' exs_next (ex_ifF (ts_eq (ts_cmp (ev_local rfl) (ev_tuple (ds := [T4 (0, 0, -456, -2), T4 (1, 0, -789, -3)]) ?t (Nat.le_of_ble_eq_true rfl)) ?o) ?e) exs_here) ?_
    case t => k_updF
    case o => exact Cmp.inTup rfl rfl (by simp [PyData.depthAll, PyData.depth, T4])
    case e =>
      by_cases h : mn = 0
      · simp [T4, PyData.eqv, PyData.eqvAll, (W.zero h).1]
      · simp [T4, PyData.eqv, PyData.eqvAll, h]
    refine' exs_next (ex_unpack ?t1 ?l1 ?o1) ?_
    case t1 => k_updF
    case l1 => k_updF
    case o1 => k_updF
    refine exs_join (b := decide (sg = 1)) [(Str.ofString "man", .int (sgn sg mn)), (Str.ofString "exp", .int ex)] ?_ (fun hb => ?_) (fun hb => ?_) ?_
    · refine ts_eq (b := sg != 0) (by k_updF) ?_
      rcases W.sg01 with rfl | rfl <;> rfl
    · have hs : sg = 1 := of_decide_eq_true hb
      subst hs
      refine' exs_next (ex_assign ?t) (exs_nil ?_)
      case t => k_updF
      k_subL
      all_goals rfl
    · have hs : ¬ sg = 1 := of_decide_eq_false hb
      refine exs_nil ?_
      k_subL
      · simp [sgn, hs]
      · rfl
    by_cases hex : 0 ≤ ex
    · have e0 : (-ex).toNat = 0 := by omega
      rw [e0, Int.pow_zero]
      refine' exs_ret (ex_ifT (ts_eq ?t ?e) (exs_ret (ex_ret (ev_tuple (evs_cons (ev_bin (ev_local rfl) (ev_bin ev_int (ev_local rfl) (bin_shl hex ?h)) (bin_mul ?h2)) (evs_cons (ev_callInt (n_int _) b_int ?t2) evs_nil)) (Nat.le_of_ble_eq_true rfl))) ?zq)) rfl
      case t => k_updF
      case e => simp [hex]
      case t2 => k_updF
      case zq =>
        rw [Int.one_mul]
        rfl
      case h =>
        rw [b1]
        omega
      case h2 =>
        rw [Int.one_mul]
        have h1 : nb (2 ^ ex.toNat) ≤ 101 := by rw [nb_p2]; omega
        have h2 := nb_sgn sg mn
        exact IntMulOk.of_bits (by unfold nb at h2 hsz; omega) (by unfold nb at h1; omega)
    · rw [abv_nonneg_exp (by omega)]
      refine' exs_ret (ex_ifF (ts_eq ?t ?e) (exs_ret (ex_ret (ev_tuple (evs_cons (ev_local rfl) (evs_cons (ev_bin (ev_callInt (n_int _) b_int ?t2) (ev_neg (ev_local rfl)) (bin_shl ?h1 ?h)) evs_nil)) (Nat.le_of_ble_eq_true rfl))) ?zq)) rfl
      case t => k_updF
      case e => simp; omega
      case t2 => k_updF
      case h1 => omega
      case h =>
        rw [b1]
        omega
      case zq => rw [Int.one_mul]
  · decide

set_option maxHeartbeats 1000000 in
theorem f_fixed (c : Ctx) (sg mn ex : Int) (W : Wf sg mn ex) (few : Nat) (hf : few ≤ 1000) : Fun c 1 122 [T4 (sg, mn, ex, (nb mn : Int)), .int (few : Int)] (.int (abv sg mn ex * 2 ^ few / 2 ^ (-ex).toNat)) := by
  refine fun_of (k := 0) (dds := []) [Str.ofString "s", Str.ofString "prec"] [] rfl rfl .nil ?_ ?_ ?_ rfl rfl rfl ?_
  · intro s vs hl X
    match vs, hl with
    | [v1, v2], _ => exact BindsTo.of_eq rfl
  · decide
  · intro Γ
    have hnn := W.nonneg
    have hsz := W.size
    have hlo := W.lo
    have hhi := W.hi
    refine' exs_next (ex_unpack ?t1 ?l1 ?o1) (exs_next (ex_assign ?t2) ?_)
    case t1 => k_updF
    case l1 => k_updF
    case o1 => k_updF
    case t2 => k_updF
    have hs1 : (Builtin.Int.intBits (-mn) : Int) + (ex + few) ≤ 2 ^ 27 := by
      have := nb_neg mn
      unfold nb at this hsz
      omega
    have hs2 : (Builtin.Int.intBits mn : Int) + (ex + few) ≤ 2 ^ 27 := by
      unfold nb at hsz
      omega
    by_cases hof : 0 ≤ ex + (few : Int)
    · have ev : abv sg mn ex * 2 ^ few / 2 ^ (-ex).toNat = sgn sg mn * 2 ^ (ex + (few : Int)).toNat := by
        by_cases hex : 0 ≤ ex
        · have e0 : (-ex).toNat = 0 := by omega
          have e1 : (ex + (few : Int)).toNat = ex.toNat + few := by omega
          rw [e0, Int.pow_zero, Int.ediv_one, e1, p2add, ← Int.mul_assoc]
          rfl
        · rw [abv_nonneg_exp (by omega)]
          obtain ⟨j, hj⟩ : ∃ j : Nat, -ex = (j : Int) := ⟨(-ex).toNat, by omega⟩
          have e1 : few = (ex + (few : Int)).toNat + j := by omega
          have e2 : (-ex).toNat = j := by omega
          rw [e2]
          generalize (ex + (few : Int)).toNat = i at *
          subst e1
          rw [p2add, ← Int.mul_assoc]
          exact Int.mul_ediv_cancel _ (by have := p2pos j; omega)
      rw [ev]
      rcases W.sg01 with rfl | rfl
      · refine' exs_ret (ex_ifF (ts_eq ?t1 ?e1) (exs_ret (ex_ifT (ts_eq ?t ?e) (exs_ret (ex_ret ?zr) ?zq)) rfl)) rfl
        case t1 => k_updF
        case e1 => rfl
        case t => k_updF
        case e => simp; omega
        case zr =>
          k_updF
          all_goals first | assumption | ((try dsimp only); omega)
        case zq => rfl
      · refine' exs_ret (ex_ifT (ts_eq ?t1 ?e1) (exs_ret (ex_ifT (ts_eq ?t ?e) (exs_ret (ex_ret ?zr) ?zq)) rfl)) rfl
        case t1 => k_updF
        case e1 => rfl
        case t => k_updF
        case e => simp; omega
        case zr =>
          k_updF
          all_goals first | assumption | ((try dsimp only); omega)
        case zq => rfl
    · have ev : abv sg mn ex * 2 ^ few / 2 ^ (-ex).toNat = (sgn sg mn).fdiv (2 ^ (-(ex + (few : Int))).toNat) := by
        rw [abv_nonneg_exp (by omega), fdiv_p2]
        have e2 : (-ex).toNat = (-(ex + (few : Int))).toNat + few := by omega
        rw [e2, (div_scale _ _ _).1]
      rw [ev]
      rcases W.sg01 with rfl | rfl
      · refine' exs_ret (ex_ifF (ts_eq ?t1 ?e1) (exs_ret (ex_ifF (ts_eq ?t ?e) (exs_ret (ex_ret ?zr) ?zq)) rfl)) rfl
        case t1 => k_updF
        case e1 => rfl
        case t => k_updF
        case e => simp; omega
        case zr =>
          k_updF
          all_goals first | assumption | ((try dsimp only); omega)
        case zq => rfl
      · refine' exs_ret (ex_ifT (ts_eq ?t1 ?e1) (exs_ret (ex_ifF (ts_eq ?t ?e) (exs_ret (ex_ret ?zr) ?zq)) rfl)) rfl
        case t1 => k_updF
        case e1 => rfl
        case t => k_updF
        case e => simp; omega
        case zr =>
          k_updF
          all_goals first | assumption | ((try dsimp only); omega)
        case zq => rfl
  · decide

set_option maxHeartbeats 1000000 in
theorem f_mpf_round_int (c : Ctx) (r : Rn) (hr : r = .f ∨ r = .c ∨ r = .n) (sg mn ex : Int) (W : Wf sg mn ex) : Fun c 5 76 [T4 (sg, mn, ex, (nb mn : Int)), .str r.str] (T4 (canon sg (mgn r sg mn ex) 0)) := by
  refine fun_of (k := 4) (dds := []) [Str.ofString "s", Str.ofString "rnd"] [] rfl rfl .nil ?_ ?_ ?_ rfl rfl rfl ?_
  · intro s vs hl X
    match vs, hl with
    | [v1, v2], _ => exact BindsTo.of_eq rfl
  · decide
  · intro Γ
    have hnn := W.nonneg
    have hsz := W.size
    have hlo := W.lo
    have hhi := W.hi
    refine' exs_next (ex_unpack ?t1 ?l1 ?o1) (exs_next (ex_ifF (ts_eq ?t2 ?ze2) exs_here) ?_)
    case t1 => k_updF
    case l1 => k_updF
    case o1 => k_updF
    case t2 => k_updF
    case ze2 =>
      by_cases h : mn = 0
      · simp [h, (W.zero h).1]
      · simp [h]
    by_cases hex : 0 ≤ ex
    · rw [mgn_up hex W.kind]
      refine' exs_ret (ex_ifT (ts_eq ?zt ?ze) (exs_ret (ex_ret (ev_local rfl)) rfl)) rfl
      case zt => k_updF
      case ze => simp [hex]
    have hm0 : ¬ mn = 0 := fun h => by have := (W.zero h).1; omega
    have hodd : mn % 2 = 1 := by rcases W.kind with h | h <;> omega
    have hpos : 0 < mn := by omega
    have hmg : mgn r sg mn ex = rsh r sg mn (-ex).toNat := by
      unfold mgn
      rw [if_neg hex]
    rw [hmg]
    refine' exs_next (ex_ifF (ts_eq ?zt ?ze) exs_here) (exs_next (ex_assign ?t1) ?_)
    case zt => k_updF
    case ze => simp; omega
    case t1 => k_updF
    obtain ⟨k, hk⟩ : ∃ k : Nat, -ex = (k : Int) := ⟨(-ex).toNat, by omega⟩
    have hk1 : (-ex).toNat = k := by omega
    rw [hk1]
    by_cases hmag : ex + (nb mn : Int) < 1
    · have hlt : mn < 2 ^ k := (nb_le_iff hnn).mp (by omega)
      rw [rsh_small hnn hlt]
      refine' exs_ret (ex_ifT (ts_eq ?zt ?ze) ?_) rfl
      case zt => k_updF
      case ze => simp; omega
      by_cases hc : r = .c
      · subst hc
        refine' exs_ret (ex_ifT (ts_eq ?zt ?ze) ?_) rfl
        case zt => k_updF
        case ze => decide
        rcases W.sg01 with rfl | rfl
        · refine' exs_ret (ex_ifF (ts_eq ?zt ?ze) (exs_ret (ex_ret ?zr) ?zq)) rfl
          case zt => k_updF
          case ze => rfl
          case zr => k_updF
          case zq => rw [if_pos (by simp [goUp, hpos]), canon_one]
        · refine' exs_ret (ex_ifT (ts_eq ?zt ?ze) (exs_ret (ex_ret ?zr) ?zq)) rfl
          case zt => k_updF
          case ze => rfl
          case zr => k_updF
          case zq => rw [if_neg (by simp [goUp]), canon_zero]
      refine' exs_ret (ex_ifF (ts_eq ?zt ?ze) ?_) rfl
      case zt => k_updF
      case ze => rw [rstr_c]; simp [hc]
      by_cases hf : r = .f
      · subst hf
        refine' exs_ret (ex_ifT (ts_eq ?zt ?ze) ?_) rfl
        case zt => k_updF
        case ze => decide
        rcases W.sg01 with rfl | rfl
        · refine' exs_ret (ex_ifF (ts_eq ?zt ?ze) (exs_ret (ex_ret ?zr) ?zq)) rfl
          case zt => k_updF
          case ze => rfl
          case zr => k_updF
          case zq => rw [if_neg (by simp [goUp]), canon_zero]
        · refine' exs_ret (ex_ifT (ts_eq ?zt ?ze) (exs_ret (ex_ret ?zr) ?zq)) rfl
          case zt => k_updF
          case ze => rfl
          case zr => k_updF
          case zq => rw [if_pos (by simp [goUp, hpos]), canon_one]
      refine' exs_ret (ex_ifF (ts_eq ?zt ?ze) ?_) rfl
      case zt => k_updF
      case ze => rw [rstr_f]; simp [hf]
      have hn : r = .n := by rcases hr with h | h | h <;> simp_all
      subst hn
      refine' exs_ret (ex_ifT (ts_eq ?zt ?ze) ?_) rfl
      case zt => k_updF
      case ze => decide
      by_cases hz : ex + (nb mn : Int) < 0 ∨ mn = 1
      · have hng := half_not hpos (k := k) (by rcases hz with hz | hz; exact .inl (by omega); exact .inr ⟨hz, by omega⟩)
        refine' exs_ret (ex_ifT (ts_eq ?zt ?ze) (exs_ret (ex_ret ?zr) ?zq)) rfl
        case zt => k_updF
        case ze => simpa using hz
        case zr => k_updF
        case zq => rw [if_neg (by simp [goUp]; omega), canon_zero]
      · have hyes := half_yes hodd (fun h => hz (.inr h)) hpos (k := k) (by omega)
        refine' exs_ret (ex_ifF (ts_eq ?zt ?ze) ?_) rfl
        case zt => k_updF
        case ze =>
          simp
          omega
        rw [if_pos (by simp [goUp]; omega), canon_one]
        rcases W.sg01 with rfl | rfl
        · refine' exs_ret (ex_ifF (ts_eq ?zt ?ze) (exs_ret (ex_ret ?zr) ?zq)) rfl
          case zt => k_updF
          case ze => rfl
          case zr => k_updF
          case zq => rfl
        · refine' exs_ret (ex_ifT (ts_eq ?zt ?ze) (exs_ret (ex_ret ?zr) ?zq)) rfl
          case zt => k_updF
          case ze => rfl
          case zr => k_updF
          case zq => rfl
    · have hp := f_pos c r sg mn ex (ex + (nb mn : Int)) hnn W.sg01 (fun h => absurd h hm0) (by omega) (by omega)
      have hno : norm sg mn ex (ex + (nb mn : Int)) r = canon sg (rsh r sg mn k) 0 := by
        unfold norm
        rw [if_neg hm0, if_neg (by omega)]
        have e1 : ((nb mn : Int) - (ex + (nb mn : Int))).toNat = k := by omega
        have e2 : ex + ((nb mn : Int) - (ex + (nb mn : Int))) = 0 := by omega
        rw [e1, e2]
      rw [hno] at hp
      refine' exs_next (ex_ifF (ts_eq ?zt ?ze) exs_here) (exs_ret (ex_ret (ev_call (n_mpf_pos _) (k_mpf_pos _) (evs_cons (ev_local rfl) (evs_cons (ev_eq (ev_callB (n_min _) b_min (by decide) ?t2 bfun_min) ?ze2) (evs_cons (ev_local rfl) evs_nil))) hp (by decide))) rfl)
      case zt => k_updF
      case ze => simp; omega
      case t2 => k_updF
      case ze2 =>
        dsimp only
        rw [if_pos (by omega)]
  · decide

set_option maxHeartbeats 1000000 in
theorem f_floor1 (c : Ctx) (sg mn ex : Int) (W : Wf sg mn ex) : Fun c 6 84 [T4 (sg, mn, ex, (nb mn : Int))] (T4 (canon sg (mgn .f sg mn ex) 0)) := by
  refine fun_of (k := 5) (dds := [.int 0, .str Rn.d.str]) [Str.ofString "s", Str.ofString "prec", Str.ofString "rnd"] [.int 0 329, .str (Str.ofString "d") 210] rfl rfl (.cons (.int _ _) (.cons (.str _ _) .nil)) ?_ ?_ ?_ rfl rfl rfl ?_
  · intro s vs hl X
    match vs, hl with
    | [v1], _ => exact binds_K X rfl rfl rfl rfl rfl
  · decide
  · intro Γ
    refine' exs_next (ex_assign (ev_call (n_mpf_round_int _) (k_mpf_round_int _) ?zt (f_mpf_round_int c .f (by decide) sg mn ex W) (by decide))) (exs_next (ex_ifF (ts_eq ?zt1 ?ze) exs_here) (exs_ret (ex_ret (ev_local rfl)) rfl))
    case zt => k_updF
    case zt1 => k_updF
    case ze => rfl
  · decide

set_option maxHeartbeats 1000000 in
theorem f_ceil1 (c : Ctx) (sg mn ex : Int) (W : Wf sg mn ex) : Fun c 6 92 [T4 (sg, mn, ex, (nb mn : Int))] (T4 (canon sg (mgn .c sg mn ex) 0)) := by
  refine fun_of (k := 5) (dds := [.int 0, .str Rn.d.str]) [Str.ofString "s", Str.ofString "prec", Str.ofString "rnd"] [.int 0 340, .str (Str.ofString "d") 210] rfl rfl (.cons (.int _ _) (.cons (.str _ _) .nil)) ?_ ?_ ?_ rfl rfl rfl ?_
  · intro s vs hl X
    match vs, hl with
    | [v1], _ => exact binds_K X rfl rfl rfl rfl rfl
  · decide
  · intro Γ
    refine' exs_next (ex_assign (ev_call (n_mpf_round_int _) (k_mpf_round_int _) ?zt (f_mpf_round_int c .c (by decide) sg mn ex W) (by decide))) (exs_next (ex_ifF (ts_eq ?zt1 ?ze) exs_here) (exs_ret (ex_ret (ev_local rfl)) rfl))
    case zt => k_updF
    case zt1 => k_updF
    case ze => rfl
  · decide

set_option maxHeartbeats 1000000 in
theorem f_nint1 (c : Ctx) (sg mn ex : Int) (W : Wf sg mn ex) : Fun c 6 100 [T4 (sg, mn, ex, (nb mn : Int))] (T4 (canon sg (mgn .n sg mn ex) 0)) := by
  refine fun_of (k := 5) (dds := [.int 0, .str Rn.d.str]) [Str.ofString "s", Str.ofString "prec", Str.ofString "rnd"] [.int 0 351, .str (Str.ofString "d") 210] rfl rfl (.cons (.int _ _) (.cons (.str _ _) .nil)) ?_ ?_ ?_ rfl rfl rfl ?_
  · intro s vs hl X
    match vs, hl with
    | [v1], _ => exact binds_K X rfl rfl rfl rfl rfl
  · decide
  · intro Γ
    refine' exs_next (ex_assign (ev_call (n_mpf_round_int _) (k_mpf_round_int _) ?zt (f_mpf_round_int c .n (by decide) sg mn ex W) (by decide))) (exs_next (ex_ifF (ts_eq ?zt1 ?ze) exs_here) (exs_ret (ex_ret (ev_local rfl)) rfl))
    case zt => k_updF
    case zt1 => k_updF
    case ze => rfl
  · decide

set_option maxHeartbeats 1000000 in
theorem f_floor3 (c : Ctx) (r : Rn) (few : Int) (hfew : 1 ≤ few) (sg mn ex : Int) (W : Wf sg mn ex) : Fun c 6 84 [T4 (sg, mn, ex, (nb mn : Int)), .int few, .str r.str] (T4 (norm sg (mgn .f sg mn ex) 0 few r)) := by
  refine fun_of (k := 5) (dds := []) [Str.ofString "s", Str.ofString "prec", Str.ofString "rnd"] [] rfl rfl .nil ?_ ?_ ?_ rfl rfl rfl ?_
  · intro s vs hl X
    match vs, hl with
    | [v1, v2, v3], _ => exact binds_K X rfl rfl rfl rfl rfl
  · decide
  · intro Γ
    obtain ⟨s', m', e', h1, h2, h3, h4, h5, h6⟩ := canon_form sg 0 (mgn_nonneg .f W) W.sg01
    have hf := f_mpf_round_int c .f (.inl rfl) sg mn ex W
    have hb := mgn_nb .f W
    have hp := f_pos c r s' m' e' few h2 h3 h4 hfew (by omega)
    rw [h1] at hf
    rw [h6] at hp
    refine' exs_next (ex_assign (ev_call (n_mpf_round_int _) (k_mpf_round_int _) ?zt hf (by decide))) (exs_next (ex_ifT (ts_eq ?zt1 ?ze) (exs_next (ex_assign (ev_call (n_mpf_pos _) (k_mpf_pos _) ?zt2 hp (by decide))) exs_here)) (exs_ret (ex_ret (ev_local rfl)) rfl))
    case zt => k_updF
    case zt1 => k_updF
    case zt2 => k_updF
    case ze =>
      simp
      omega
  · decide

set_option maxHeartbeats 1000000 in
theorem f_neg0 (c : Ctx)  : Fun c 1 138 [T4 (0, 0, 0, 0)] (T4 (0, 0, 0, 0)) := by
  refine fun_of (k := 0) (dds := [.int 0, .str Rn.d.str]) [Str.ofString "s", Str.ofString "prec", Str.ofString "rnd"] [.int 0 410, .str (Str.ofString "d") 210] rfl rfl (.cons (.int _ _) (.cons (.str _ _) .nil)) ?_ ?_ ?_ rfl rfl rfl ?_
  · intro s vs hl X
    match vs, hl with
    | [v1], _ => exact binds_K X rfl rfl rfl rfl rfl
  · decide
  · intro Γ
    refine' exs_next (ex_unpack ?zt ?zl ?zo) (exs_ret (ex_ifT (ts_eq ?zt1 ?ze) (exs_next (ex_ifF (ts_eq ?zt2 ?ze2) exs_here) (exs_ret (ex_ret (ev_local ?zq)) rfl))) rfl)
    case zt => k_updF
    case zl => k_updF
    case zo => k_updF
    case zq => rfl
    case zt1 => k_updF
    case ze => rfl
    case zt2 => k_updF
    case ze2 => rfl
  · decide

set_option maxHeartbeats 1000000 in
theorem f_add_zero (c : Ctx)  : Fun c 4 146 [T4 (0, 0, 0, 0), T4 (0, 0, 0, 0), .int 0, .str Rn.d.str, .int 1] (T4 (0, 0, 0, 0)) := by
  refine fun_of (k := 3) (dds := []) [Str.ofString "s", Str.ofString "t", Str.ofString "prec", Str.ofString "rnd", Str.ofString "_sub"] [] rfl rfl .nil ?_ ?_ ?_ rfl rfl rfl ?_
  · intro s vs hl X
    match vs, hl with
    | [v1, v2, v3, v4, v5], _ => exact binds_K X rfl rfl rfl rfl rfl
  · decide
  · intro Γ
    refine' exs_next (ex_unpack ?zt ?zl ?zo) (exs_next (ex_unpack ?zt1 ?zl1 ?zo1) (exs_next (ex_aug ?zr0 (ev_local ?zr1) ?zo2) ?_))
    case zt => k_updF
    case zl => k_updF
    case zo => k_updF
    case zt1 => k_updF
    case zl1 => k_updF
    case zo1 => k_updF
    case zr0 => rfl
    case zr1 => rfl
    case zo2 => k_updF
    refine' exs_next (ex_ifF (ts_eq ?zt ?ze) exs_here) (exs_next (ex_ifT (ts_eq ?zt1 ?ze1) (exs_next (ex_assign (ev_call (n_mpf_neg _) (k_mpf_neg _) ?zt2 (f_neg0 c) (by decide))) exs_here)) (exs_ret (ex_ifT (ts_eq ?zt3 ?ze3) (exs_next (ex_ifF (ts_eq ?zt4 ?ze4) exs_here) (exs_next (ex_ifF (ts_eq ?zt5 ?ze5) exs_here) (exs_ret (ex_ret (ev_local rfl)) rfl)))) rfl))
    case zt => k_updF
    case ze => rfl
    case zt1 => k_updF
    case ze1 => rfl
    case zt2 => k_updF
    case zt3 => k_updF
    case ze3 => rfl
    case zt4 => k_updF
    case ze4 => rfl
    case zt5 => k_updF
    case ze5 => rfl
  · decide

set_option maxHeartbeats 1000000 in
theorem f_add_t0 (c : Ctx) (sg mn ex : Int) (hsg : sg = 0 ∨ sg = 1) (hpos : 0 < mn) (hsz : nb mn ≤ 70) : Fun c 4 146 [T4 (sg, mn, ex, (nb mn : Int)), T4 (0, 0, 0, 0), .int 0, .str Rn.d.str, .int 1] (T4 (canon sg mn ex)) := by
  refine fun_of (k := 3) (dds := []) [Str.ofString "s", Str.ofString "t", Str.ofString "prec", Str.ofString "rnd", Str.ofString "_sub"] [] rfl rfl .nil ?_ ?_ ?_ rfl rfl rfl ?_
  · intro s vs hl X
    match vs, hl with
    | [v1, v2, v3, v4, v5], _ => exact binds_K X rfl rfl rfl rfl rfl
  · decide
  · intro Γ
    refine' exs_next (ex_unpack ?zt ?zl ?zo) (exs_next (ex_unpack ?zt1 ?zl1 ?zo1) (exs_next (ex_aug ?zr0 (ev_local ?zr1) ?zo2) ?_))
    case zt => k_updF
    case zl => k_updF
    case zo => k_updF
    case zt1 => k_updF
    case zl1 => k_updF
    case zo1 => k_updF
    case zr0 => rfl
    case zr1 => rfl
    case zo2 => k_updF
    have hn := f_norm c .d sg mn ex (nb mn : Int) (by omega) hsg (.inr (by have := nb_pos hpos; omega)) (by omega)
    rw [norm_few .d (Int.le_refl _)] at hn
    have hm0 : ¬ mn = 0 := by omega
    refine' exs_next (ex_ifF (ts_eq ?zt ?ze) exs_here) (exs_next (ex_ifT (ts_eq ?zt1 ?ze1) (exs_next (ex_assign (ev_call (n_mpf_neg _) (k_mpf_neg _) ?zt2 (f_neg0 c) (by decide))) exs_here)) (exs_next (ex_ifF (ts_eq ?zt3 ?ze3) exs_here) (exs_next (ex_ifF (ts_eq ?zt4 ?ze4) exs_here) (exs_ret (ex_ifT (ts_eq ?zt5 ?ze5) (exs_ret (ex_ret (ev_call (n_normalize _) (k_normalize _) (evs_cons (ev_local rfl) (evs_cons (ev_local rfl) (evs_cons (ev_local rfl) (evs_cons (ev_local rfl) (evs_cons (ev_orI (ev_local rfl) (ev_local rfl)) (evs_cons (ev_local rfl) evs_nil)))))) hn (by decide))) rfl)) rfl))))
    case zt => k_updF
    case ze => simp
    case zt1 => k_updF
    case ze1 => rfl
    case zt2 => k_updF
    case zt3 => k_updF
    case ze3 => simp [hm0]
    case zt4 => k_updF
    case ze4 => rfl
    case zt5 => k_updF
    case ze5 => simp [hm0]
  · decide

set_option maxHeartbeats 1000000 in
theorem f_add_same (c : Ctx) (sg mn ex : Int) (hsg : sg = 0 ∨ sg = 1) (hpos : 0 < mn) (hsz : nb mn ≤ 70) : Fun c 4 146 [T4 (sg, mn, ex, (nb mn : Int)), T4 (sg, mn, ex, (nb mn : Int)), .int 0, .str Rn.d.str, .int 1] (T4 (0, 0, 0, 0)) := by
  refine fun_of (k := 3) (dds := []) [Str.ofString "s", Str.ofString "t", Str.ofString "prec", Str.ofString "rnd", Str.ofString "_sub"] [] rfl rfl .nil ?_ ?_ ?_ rfl rfl rfl ?_
  · intro s vs hl X
    match vs, hl with
    | [v1, v2, v3, v4, v5], _ => exact binds_K X rfl rfl rfl rfl rfl
  · decide
  · intro Γ
    refine' exs_next (ex_unpack ?zt ?zl ?zo) (exs_next (ex_unpack ?zt1 ?zl1 ?zo1) (exs_next (ex_aug ?zr0 (ev_local ?zr1) ?zo2) ?_))
    case zt => k_updF
    case zl => k_updF
    case zo => k_updF
    case zt1 => k_updF
    case zl1 => k_updF
    case zo1 => k_updF
    case zr0 => rfl
    case zr1 => rfl
    case zo2 => k_updF
    have hn := f_norm c .d 0 0 ex 0 (by omega) (.inl rfl) (.inl rfl) (by decide)
    have hm0 : ¬ mn = 0 := by omega
    have hz : T4 (norm 0 0 ex 0 .d) = T4 (0, 0, 0, 0) := rfl
    rw [hz] at hn
    refine' exs_ret (ex_ifT (ts_eq ?zt ?ze) (exs_next (ex_assign ?zt1) (exs_next (ex_ifF (ts_eq ?zt2 ?ze2) exs_here) ?_))) rfl
    case zt => k_updF
    case ze => simp [hm0]
    case zt1 => k_updF
    case zt2 => k_updF
    case ze2 => simp
    have e0 : mn - mn = 0 := by omega
    rcases hsg with rfl | rfl
    · refine' exs_next (ex_ifF (ts_eq ?zt ?ze) (exs_next (ex_ifF (ts_eq ?zt1 ?ze1) (exs_next (ex_assign ?zt2) exs_here)) (exs_next (ex_ifT (ts_eq ?zt3 ?ze3) (exs_next (ex_assign ev_int) exs_here)) exs_here))) (exs_next (ex_assign ?zb) (exs_ret (ex_ret (ev_call (n_normalize _) (k_normalize _) (evs_cons (ev_local rfl) (evs_cons (ev_local rfl) (evs_cons (ev_local rfl) (evs_cons (ev_local rfl) (evs_cons (ev_orI (ev_local rfl) (ev_local rfl)) (evs_cons (ev_local rfl) evs_nil)))))) hn (by decide))) rfl))
      case zt => k_updF
      case ze =>
        dsimp only
        decide
      case zt1 => k_updF
      case ze1 => rfl
      case zt2 =>
        rw [← e0]
        k_updF
      case zt3 => k_updF
      case ze3 => simp
      case zb => k_updF
    · refine' exs_next (ex_ifF (ts_eq ?zt ?ze) (exs_next (ex_ifT (ts_eq ?zt1 ?ze1) (exs_next (ex_assign ?zt2) exs_here)) (exs_next (ex_ifT (ts_eq ?zt3 ?ze3) (exs_next (ex_assign ev_int) exs_here)) exs_here))) (exs_next (ex_assign ?zb) (exs_ret (ex_ret (ev_call (n_normalize _) (k_normalize _) (evs_cons (ev_local rfl) (evs_cons (ev_local rfl) (evs_cons (ev_local rfl) (evs_cons (ev_local rfl) (evs_cons (ev_orI (ev_local rfl) (ev_local rfl)) (evs_cons (ev_local rfl) evs_nil)))))) hn (by decide))) rfl))
      case zt => k_updF
      case ze =>
        dsimp only
        decide
      case zt1 => k_updF
      case ze1 => rfl
      case zt2 =>
        rw [← e0]
        k_updF
      case zt3 => k_updF
      case ze3 => simp
      case zb => k_updF
  · decide

set_option maxHeartbeats 1000000 in
theorem f_add_neg (c : Ctx) (sg mn ex tm te D : Int) (hsg : sg = 0 ∨ sg = 1) (hpos : 0 < mn) (htpos : 0 < tm) (hlt : ex < te) (hex : -100 ≤ ex) (hte : te ≤ 300) (hts : nb tm ≤ 300) (hD : 0 ≤ D) (hDs : nb D ≤ 2000) (hDe : D = if sg = 1 then tm * 2 ^ (te - ex).toNat - mn else mn - tm * 2 ^ (te - ex).toNat) : Fun c 4 146 [T4 (sg, mn, ex, (nb mn : Int)), T4 (sg, tm, te, (nb tm : Int)), .int 0, .str Rn.d.str, .int 1] (T4 (canon 0 D ex)) := by
  refine fun_of (k := 3) (dds := []) [Str.ofString "s", Str.ofString "t", Str.ofString "prec", Str.ofString "rnd", Str.ofString "_sub"] [] rfl rfl .nil ?_ ?_ ?_ rfl rfl rfl ?_
  · intro s vs hl X
    match vs, hl with
    | [v1, v2, v3, v4, v5], _ => exact binds_K X rfl rfl rfl rfl rfl
  · decide
  · intro Γ
    refine' exs_next (ex_unpack ?zt ?zl ?zo) (exs_next (ex_unpack ?zt1 ?zl1 ?zo1) (exs_next (ex_aug ?zr0 (ev_local ?zr1) ?zo2) ?_))
    case zt => k_updF
    case zl => k_updF
    case zo => k_updF
    case zt1 => k_updF
    case zl1 => k_updF
    case zo1 => k_updF
    case zr0 => rfl
    case zr1 => rfl
    case zo2 => k_updF
    have hn := f_norm c .d 0 D ex (nb D : Int) hD (.inl rfl) (by by_cases h : D = 0; exact .inl h; exact .inr (by have := nb_pos (show 0 < D by omega); omega)) hDs
    rw [norm_few .d (Int.le_refl _)] at hn
    have hm0 : ¬ mn = 0 := by omega
    have ht0 : ¬ tm = 0 := by omega
    have eo : (-(ex - te)).toNat = (te - ex).toNat := by omega
    refine' exs_ret (ex_ifT (ts_eq ?zt1 ?ze1) (exs_next (ex_assign ?zt2) (exs_ret (ex_ifT (ts_eq ?zt3 ?ze3) (exs_ret (ex_ifF (ts_eq ?zt4 ?ze4) (exs_ret (ex_ifT (ts_eq ?zt5 ?ze5) (exs_next (ex_ifF (ts_eq ?zta ?zea) exs_here) ?_)) rfl)) rfl)) rfl))) rfl
    case zt1 => k_updF
    case ze1 => simp [hm0, ht0]
    case zt2 => k_updF
    case zt3 => k_updF
    case ze3 => simp; omega
    case zt4 => k_updF
    case ze4 => simp; omega
    case zt5 => k_updF
    case ze5 => simp; omega
    case zta => k_updF
    case zea => simp
    have hsh : (Builtin.Int.intBits tm : Int) + -(ex - te) ≤ 2 ^ 27 := by
      unfold nb at hts
      omega
    rcases hsg with rfl | rfl
    · refine' exs_next (ex_ifF (ts_eq ?zt6 ?ze6) (exs_next (ex_ifT (ts_eq ?zt7 ?ze7) (exs_next (ex_assign (ev_eq ?zt8 ?ze8)) exs_here)) (exs_next (ex_ifT (ts_eq ?zt9 ?ze9) (exs_next (ex_assign ev_int) exs_here)) exs_here))) (exs_next (ex_assign ?zb) (exs_ret (ex_ret (ev_call (n_normalize _) (k_normalize _) (evs_cons (ev_local rfl) (evs_cons (ev_local rfl) (evs_cons (ev_local rfl) (evs_cons (ev_local rfl) (evs_cons (ev_orI (ev_local rfl) (ev_local rfl)) (evs_cons (ev_local rfl) evs_nil)))))) hn (by decide))) rfl))
      case zt6 => k_updF
      case ze6 =>
        dsimp only
        decide
      case zt7 => k_updF
      case ze7 =>
        dsimp only
        decide
      case zt8 =>
        k_updF
        all_goals first | ((try dsimp only); omega) | skip
      case ze8 =>
        dsimp only
        rw [eo, hDe]
        simp
      case zt9 => k_updF
      case ze9 => simp [hD]
      case zb => k_updF
    · refine' exs_next (ex_ifF (ts_eq ?zt6 ?ze6) (exs_next (ex_ifF (ts_eq ?zt7 ?ze7) (exs_next (ex_assign (ev_eq ?zt8 ?ze8)) exs_here)) (exs_next (ex_ifT (ts_eq ?zt9 ?ze9) (exs_next (ex_assign ev_int) exs_here)) exs_here))) (exs_next (ex_assign ?zb) (exs_ret (ex_ret (ev_call (n_normalize _) (k_normalize _) (evs_cons (ev_local rfl) (evs_cons (ev_local rfl) (evs_cons (ev_local rfl) (evs_cons (ev_local rfl) (evs_cons (ev_orI (ev_local rfl) (ev_local rfl)) (evs_cons (ev_local rfl) evs_nil)))))) hn (by decide))) rfl))
      case zt6 => k_updF
      case ze6 =>
        dsimp only
        decide
      case zt7 => k_updF
      case ze7 =>
        dsimp only
        decide
      case zt8 =>
        k_updF
        all_goals first | ((try dsimp only); omega) | skip
      case ze8 =>
        dsimp only
        rw [eo, hDe]
        simp
      case zt9 => k_updF
      case ze9 => simp [hD]
      case zb => k_updF
  · decide

set_option maxHeartbeats 1000000 in
theorem f_sub (c : Ctx) (s t o : PyData) (h : Fun c 4 146 [s, t, .int 0, .str Rn.d.str, .int 1] o) : Fun c 5 154 [s, t, .int 0, .str Rn.d.str] o := by
  refine fun_of (k := 4) (dds := []) [Str.ofString "s", Str.ofString "t", Str.ofString "prec", Str.ofString "rnd"] [] rfl rfl .nil ?_ ?_ ?_ rfl rfl rfl ?_
  · intro s vs hl X
    match vs, hl with
    | [v1, v2, v3, v4], _ => exact binds_K X rfl rfl rfl rfl rfl
  · decide
  · intro Γ
    refine' exs_ret (ex_ret (ev_call (n_mpf_add _) (k_mpf_add _) ?zt h (by decide))) rfl
    case zt => k_updF
  · decide

set_option maxHeartbeats 1000000 in
theorem f_frac_of (c : Ctx) (sg mn ex : Int) (W : Wf sg mn ex) (t o : Int × Int × Int × Int) (ht : canon sg (mgn .f sg mn ex) 0 = t) (h : Fun c 4 146 [T4 (sg, mn, ex, (nb mn : Int)), T4 t, .int 0, .str Rn.d.str, .int 1] (T4 o)) : Fun c 7 108 [T4 (sg, mn, ex, (nb mn : Int))] (T4 o) := by
  refine fun_of (k := 6) (dds := [.int 0, .str Rn.d.str]) [Str.ofString "s", Str.ofString "prec", Str.ofString "rnd"] [.int 0 362, .str (Str.ofString "d") 210] rfl rfl (.cons (.int _ _) (.cons (.str _ _) .nil)) ?_ ?_ ?_ rfl rfl rfl ?_
  · intro s vs hl X
    match vs, hl with
    | [v1], _ => exact binds_K X rfl rfl rfl rfl rfl
  · decide
  · intro Γ
    have hf := f_floor1 c sg mn ex W
    rw [ht] at hf
    refine' exs_ret (ex_ret (ev_call (n_mpf_sub _) (k_mpf_sub _) (evs_cons (ev_local rfl) (evs_cons (ev_call (n_mpf_floor _) (k_mpf_floor _) ?zt hf (by decide)) (evs_cons (ev_local rfl) (evs_cons (ev_local rfl) evs_nil)))) (f_sub c _ _ _ h) (by decide))) rfl
    case zt => k_updF
  · decide


/-- mpf_frac: what lies above the floor -/
theorem f_frac (c : Ctx) (sg mn ex : Int) (W : Wf sg mn ex) : Fun c 7 108 [T4 (sg, mn, ex, (nb mn : Int))] (T4 (canon 0 (abv sg mn ex % 2 ^ (-ex).toNat) (-((-ex).toNat : Int)))) := by
  have hnn := W.nonneg
  have hsz := W.size
  have hlo := W.lo
  have hhi := W.hi
  by_cases hex : 0 ≤ ex
  · have e0 : (-ex).toNat = 0 := by omega
    have e1 : abv sg mn ex % 2 ^ 0 = 0 := by rw [Int.pow_zero, Int.emod_one]
    rw [e0, e1, canon_zero]
    have ht := mgn_up (r := .f) hex W.kind
    by_cases hm : mn = 0
    · obtain ⟨rfl, rfl⟩ := W.zero hm
      subst hm
      exact f_frac_of c 0 0 0 W _ _ ht (f_add_zero c)
    · exact f_frac_of c sg mn ex W _ _ ht (f_add_same c sg mn ex W.sg01 (by omega) hsz)
  · have hm : mn ≠ 0 := fun h => by have := (W.zero h).1; omega
    have hpos : 0 < mn := by omega
    rw [abv_nonneg_exp (by omega)]
    obtain ⟨k, hk⟩ : ∃ k : Nat, -ex = (k : Int) := ⟨(-ex).toNat, by omega⟩
    have hk1 : (-ex).toNat = k := by omega
    have hk2 : -(k : Int) = ex := by omega
    rw [hk1, hk2]
    have hfr := frac_eq k hnn W.sg01
    have hmg : mgn .f sg mn ex = rsh .f sg mn k := by
      unfold mgn
      rw [if_neg hex, hk1]
    have hy := rsh_nonneg .f sg hnn k
    have hyb := mgn_nb .f W
    rw [hmg] at hyb
    have hR0 : 0 ≤ sgn sg mn % 2 ^ k := Int.emod_nonneg _ (by have := p2pos k; omega)
    have hR1 : sgn sg mn % 2 ^ k < 2 ^ k := Int.emod_lt_of_pos _ (p2pos k)
    have hRb : nb (sgn sg mn % 2 ^ k) ≤ 2000 := Nat.le_trans ((nb_le_iff hR0).mpr hR1) (by omega)
    by_cases h0 : rsh .f sg mn k = 0
    · rw [h0] at hfr hmg
      have hsg : sg = 0 := by
        rcases W.sg01 with h | h
        · exact h
        · subst h
          rw [hfr, sgn1, sgn1] at hR0
          omega
      subst hsg
      have e2 : sgn 0 mn % 2 ^ k = mn := by rw [hfr]; simp [sgn]
      rw [e2]
      exact f_frac_of c 0 mn ex W (0, 0, 0, 0) _ (by rw [hmg]; rfl) (f_add_t0 c 0 mn ex (.inl rfl) hpos hsz)
    · obtain ⟨j, b, hb, hyy⟩ := odd_part' (show 0 < rsh .f sg mn k by omega)
      have hnbj : j + nb (2 * b + 1) ≤ 200 := by
        rw [hyy, nb_mul_p2 (by omega)] at hyb
        exact hyb
      have ht : canon sg (mgn .f sg mn ex) 0 = (sg, 2 * b + 1, (j : Int), (nb (2 * b + 1) : Int)) := by
        rw [hmg, hyy, canon_odd j hb]
        simp
      refine f_frac_of c sg mn ex W _ _ ht (f_add_neg c sg mn ex (2 * b + 1) j (sgn sg mn % 2 ^ k) W.sg01 hpos (by omega) (by omega) hlo (by omega) (by omega) hR0 hRb ?_)
      have e3 : ((j : Int) - ex).toNat = j + k := by omega
      have e4 : (2 * b + 1) * 2 ^ (j + k) = 2 ^ k * rsh .f sg mn k := by
        rw [hyy, p2add, ← Int.mul_assoc, Int.mul_comm (2 * b + 1), Int.mul_comm]
      rw [hfr, e3, e4]
      rcases W.sg01 with h | h
      · subst h
        simp [sgn]
      · subst h
        rw [if_pos rfl, sgn1, sgn1, Int.mul_neg]
        omega

set_option maxHeartbeats 1000000 in
theorem f_law_whole (c : Ctx) (r : Rn) (x : Int) (k : Nat) (hk : k ≤ 2000) : Fun c 1 197 [.int x, .int (2 ^ k), .str r.str] (.int (whole r x k)) := by
  refine fun_of (k := 0) (dds := []) [Str.ofString "above", Str.ofString "below", Str.ofString "rnd"] [] rfl rfl .nil ?_ ?_ ?_ rfl rfl rfl ?_
  · intro s vs hl X
    match vs, hl with
    | [v1, v2, v3], _ => exact BindsTo.of_eq rfl
  · decide
  · intro Γ
    have hp := p2pos k
    have hkb : Builtin.Int.intBits (2 ^ k) ≤ 9000 := by
      have := nb_p2 k
      unfold nb at this
      omega
    refine' exs_next (ex_unpack (ev_callB (n_divmod _) b_divmod (by decide) ?zt (bfun_divmod (x := x) (y := 2 ^ k) (by omega) hkb)) ?zl ?zo) ?_
    case zt => k_updF
    case zl => k_updF
    case zo => k_updF
    rw [fdiv_p2, fmod_p2]
    have hr := Int.emod_nonneg x (show (2 : Int) ^ k ≠ 0 by omega)
    have hmul : ∀ y : Int, IntMulOk 2 y := fun y => IntMulOk.of_left (by decide)
    refine' exs_next (ex_assign (ev_or (b := decide (r = .c)) (ev_eq (ev_cmp (ev_local rfl) ev_str Cmp.streq) ?ze1) (fun _ => ev_or (b := decide (r = .u) && decide (x > 0)) (ev_and (b := decide (r = .u)) (ev_eq (ev_cmp (ev_local rfl) ev_str Cmp.streq) ?ze2) (fun _ => ev_bool1 (ev_cmp (ev_local rfl) ev_int (Cmp.int (cmp_gt _ _))))) (fun _ => ev_bool1 (ev_and (b := decide (r = .d)) (b' := decide (x < 0)) (ev_eq (ev_cmp (ev_local rfl) ev_str Cmp.streq) ?ze3) (fun _ => ev_bool1 (ev_cmp (ev_local rfl) ev_int (Cmp.int (cmp_lt _ _))))))))) ?_
    case ze1 => exact congrArg PyData.bool (rstr_c r)
    case ze2 => exact congrArg PyData.bool (rstr_u r)
    case ze3 => exact congrArg PyData.bool (rstr_d r)
    refine exs_join (b := decide (r = .n)) [(Str.ofString "low", .int (x / 2 ^ k)), (Str.ofString "rest", .int (x % 2 ^ k)), (Str.ofString "up", .bool (if r = .n then decide (2 * (x % 2 ^ k) > 2 ^ k) || (decide (2 * (x % 2 ^ k) = 2 ^ k) && decide (x / 2 ^ k % 2 = 1)) else decide (r = .c) || (decide (r = .u) && decide (x > 0) || decide (r = .d) && decide (x < 0))))] ?_ (fun hb => ?_) (fun hb => ?_) ?_
    · exact ts_eq (ts_cmp (ev_local rfl) ev_str Cmp.streq) (rstr_n r)
    · have hn : r = .n := of_decide_eq_true hb
      refine' exs_next (ex_assign (ev_or (b := decide (2 * (x % 2 ^ k) > 2 ^ k)) (b' := decide (2 * (x % 2 ^ k) = 2 ^ k) && decide (x / 2 ^ k % 2 = 1)) (ev_cmp (ev_bin ev_int (ev_local rfl) (bin_mul (hmul _))) (ev_local rfl) (Cmp.int (cmp_gt _ _))) (fun _ => ev_bool1 (ev_and (b := decide (2 * (x % 2 ^ k) = 2 ^ k)) (b' := decide (x / 2 ^ k % 2 = 1)) (ev_eq (ev_cmp (ev_bin ev_int (ev_local rfl) (bin_mul (hmul _))) (ev_local rfl) (Cmp.int (cmp_eq _ _))) ?ze1) (fun _ => ev_bool1 (ev_eq (ev_cmp (ev_bin (ev_local rfl) ev_int (bin_mod (by decide))) ev_int (Cmp.int (cmp_eq _ _))) ?ze2)))))) (exs_nil ?_)
      case ze1 => exact congrArg PyData.bool (by rw [Bool.eq_iff_iff]; simp)
      case ze2 =>
        refine congrArg PyData.bool ?_
        rw [Int.fmod_eq_emod_of_nonneg _ (by decide)]
        rw [Bool.eq_iff_iff]
        simp
      k_subL
      all_goals first | rfl | skip
      rw [if_pos hn]
    · have hn : ¬ r = .n := of_decide_eq_false hb
      refine exs_nil ?_
      k_subL
      all_goals first | rfl | skip
      rw [if_neg hn]
    · refine' exs_ret (ex_ret (ev_iteI (ts_bool (tsb_and (ts_boolv (ev_local rfl)) (fun _ => tsb_and (ts_cmp (ev_local rfl) ev_int (Cmp.int (cmp_gt _ _))) (fun _ => tsb_and_nil)))) (fun _ => ev_bin (ev_local rfl) ev_int (bin_add _ _)) (fun _ => ev_local rfl))) ?_
      refine congrArg PyData.int ?_
      unfold whole wholeUp
      generalize x / 2 ^ k = q at *
      generalize x % 2 ^ k = s at *
      generalize (2 : Int) ^ k = p at *
      cases r <;> simp <;> (repeat' split) <;> first | rfl | omega | simp_all <;> omega
  · decide

set_option maxHeartbeats 1000000 in
theorem f_law_rounded0 (c : Ctx) (r : Rn) (b p : Int) : Fun c 1 190 [.int 0, .int b, .int p, .str r.str] (T4 (0, 0, 0, 0)) := by
  refine fun_of (k := 0) (dds := []) [Str.ofString "above", Str.ofString "below", Str.ofString "prec", Str.ofString "rnd"] [] rfl rfl .nil ?_ ?_ ?_ rfl rfl rfl ?_
  · intro s vs hl X
    match vs, hl with
    | [v1, v2, v3, v4], _ => exact BindsTo.of_eq rfl
  · decide
  · intro Γ
    refine' exs_ret (ex_ifT (ts_eq ?zt ?ze) (exs_ret (ex_ret ?zr) ?zq)) rfl
    case zt => k_updF
    case ze => rfl
    case zr => k_updF
    case zq => rfl
  · decide

set_option maxHeartbeats 1000000 in
theorem f_law_rounded (c : Ctx) (r : Rn) (x : Int) (k p : Nat) (hx : x ≠ 0) (hxs : nb x ≤ 3000) (hk : k ≤ 1000) (hp : 1 ≤ p) (hps : p ≤ 1000) : Fun c 1 190 [.int x, .int (2 ^ k), .int (p : Int), .str r.str] (T4 (norm (sgOf x) (absOf x) (-(k : Int)) p r)) := by
  refine fun_of (k := 0) (dds := []) [Str.ofString "above", Str.ofString "below", Str.ofString "prec", Str.ofString "rnd"] [] rfl rfl .nil ?_ ?_ ?_ rfl rfl rfl ?_
  · intro s vs hl X
    match vs, hl with
    | [v1, v2, v3, v4], _ => exact BindsTo.of_eq rfl
  · decide
  · intro Γ
    have hpos : 0 < absOf x := by
      unfold absOf
      split <;> omega
    have hnx : nb (absOf x) ≤ 3000 := by rw [nb_absOf]; exact hxs
    have b2 : Builtin.Int.intBits 2 = 2 := rfl
    refine' exs_next (ex_ifF (ts_eq ?zt ?ze) exs_here) ?_
    case zt => k_updF
    case ze => simpa using hx
    refine' exs_next (ex_unpack (ev_ite (b := decide (x < 0)) (d := .tuple [.int (sgOf x), .int (absOf x)]) (ts_cmp (ev_local rfl) ev_int (Cmp.int (cmp_lt _ _))) (fun hb => ?zt1) (fun hb => ?zt2)) ?zl ?zo) ?_
    case zt1 =>
      have h : x < 0 := of_decide_eq_true hb
      have e1 : sgOf x = 1 := if_pos h
      have e2 : absOf x = -x := if_pos h
      rw [e1, e2]
      k_updF
    case zt2 =>
      have h : ¬ x < 0 := of_decide_eq_false hb
      have e1 : sgOf x = 0 := if_neg h
      have e2 : absOf x = x := if_neg h
      rw [e1, e2]
      k_updF
    case zl => k_updF
    case zo => k_updF
    refine exs_next (ex_assign (d := .int ((nb (absOf x) : Int) - p - k - 2)) (ev_eq (ev_bin (ev_bin (ev_bin (ev_bits (ev_local rfl)) (ev_bits (ev_local rfl)) (bin_sub _ _)) (ev_local rfl) (bin_sub _ _)) ev_int (bin_sub _ _)) ?_)) ?_
    · refine congrArg PyData.int ?_
      have := nb_p2 k
      unfold nb at this ⊢
      rw [this]
      omega
    have hs01 := sgOf01 x
    generalize hsg : sgOf x = sg at *
    generalize hab : absOf x = y at *
    refine' exs_next (ex_unpackS (names := [Str.ofString "whole", Str.ofString "rest", Str.ofString "low"]) rfl (ev_tuple (ds := [.int (2 ^ p), .int 0, .int 1]) (evs_cons (ev_bin (x := 2) (y := (p : Int)) ev_int (ev_local rfl) (bin_pow (by omega) ?zh)) (evs_cons ev_int (evs_cons ev_int evs_nil))) (Nat.le_of_ble_eq_true rfl)) rfl (asg_bind (asg_bind (asg_bind asg_nil)))) ?_
    case zh =>
      rw [b2]
      omega
    -- the first while: exactly two turns
    refine exs_forget [(Str.ofString "rnd", .str r.str), (Str.ofString "prec", .int p), (Str.ofString "below", .int (2 ^ k)), (Str.ofString "sign", .int sg), (Str.ofString "size", .int y), (Str.ofString "exp", .int ((nb y : Int) - p - k - 2 + (0 : Nat))), (Str.ofString "low", .int 1), (Str.ofString "rest", .int 0), (Str.ofString "whole", .int (2 ^ p))] ?_ ?_
    · k_subL
      all_goals first | rfl | simp
    refine exs_while (fun i : Nat => [(Str.ofString "rnd", .str r.str), (Str.ofString "prec", .int p), (Str.ofString "below", .int (2 ^ k)), (Str.ofString "sign", .int sg), (Str.ofString "size", .int y), (Str.ofString "exp", .int ((nb y : Int) - p - k - 2 + i)), (Str.ofString "low", .int (if i = 0 then 1 else lowAt k ((nb y : Int) - p - k - 2 + i))), (Str.ofString "rest", .int (if i = 0 then 0 else numAt y ((nb y : Int) - p - k - 2 + i) % lowAt k ((nb y : Int) - p - k - 2 + i))), (Str.ofString "whole", .int (if i = 0 then 2 ^ p else numAt y ((nb y : Int) - p - k - 2 + i) / lowAt k ((nb y : Int) - p - k - 2 + i)))]) (fun i => decide (i < 2)) (fun i => i + 1) (fun i => i ≤ 2) (fun i => 2 - i) 0 (by omega) ?_ ?_ ?_ ?_ ?_
    · rfl
    · intro i hi
      refine ts_eq (ts_cmp (ev_local rfl) (ev_bin (x := 2) (y := (p : Int)) ev_int (ev_local rfl) (bin_pow (by omega) ?_)) (Cmp.int (cmp_ge _ _))) ?_
      · rw [b2]
        omega
      · have ep : ((p : Int)).toNat = p := by omega
        rw [ep]
        have hc : i = 0 ∨ i = 1 ∨ i = 2 := by omega
        rcases hc with rfl | rfl | rfl
        · simp
        · have e1 : (nb y : Int) - p - k - 2 + ((1 : Nat) : Int) = (nb y : Int) - p - k - 1 := by omega
          rw [if_neg (by decide), e1]
          have := at_mid (k := k) (p := p) hpos
          simp
          omega
        · have e1 : (nb y : Int) - p - k - 2 + ((2 : Nat) : Int) = (nb y : Int) - p - k := by omega
          rw [if_neg (by decide), e1]
          have := (at_end r sg (k := k) hpos hp).1
          simp
          omega
    · intro i hi hlt
      have hi2 : i < 2 := of_decide_eq_true hlt
      have ee : (nb y : Int) - p - k - 2 + i + 1 = (nb y : Int) - p - k - 2 + ((i + 1 : Nat) : Int) := by omega
      refine exs_next (ex_aug rfl ev_int (inp_add _ _)) ?_
      rw [ee]
      generalize hE : (nb y : Int) - p - k - 2 + ((i + 1 : Nat) : Int) = E
      have hlp := lowAt_pos k E
      have hln := lowAt_nb k E
      refine exs_next (ex_assign (d := .int (lowAt k E)) (ev_ite (b := decide (E > 0)) (ts_cmp (ev_local rfl) ev_int (Cmp.int (cmp_gt _ _))) (fun hb => ?_) (fun hb => ?_))) ?_
      · have h : E > 0 := of_decide_eq_true hb
        have e1 : lowAt k E = 2 ^ k * 2 ^ E.toNat := if_pos h
        rw [e1]
        refine ev_bin (ev_local rfl) (ev_bin (x := 2) (y := E) ev_int (ev_local rfl) (bin_pow (by omega) ?_)) (bin_mul (IntMulOk.of_bits ?_ ?_))
        · rw [b2]
          omega
        · have := nb_p2 k
          unfold nb at this
          omega
        · have := nb_p2 E.toNat
          unfold nb at this
          omega
      · have h : ¬ E > 0 := of_decide_eq_false hb
        have e1 : lowAt k E = 2 ^ k := if_neg h
        rw [e1]
        exact ev_local rfl
      refine exs_next (ex_unpack (ds := [.int (numAt y E / lowAt k E), .int (numAt y E % lowAt k E)]) (ev_eq (ev_callB (ds := [.int (numAt y E), .int (lowAt k E)]) (n_divmod _) b_divmod (by decide) (evs_cons (ev_ite (b := decide (E < 0)) (ts_cmp (ev_local rfl) ev_int (Cmp.int (cmp_lt _ _))) (fun hb => ?_) (fun hb => ?_)) (evs_cons (ev_local rfl) evs_nil)) (bfun_divmod (by omega) ?_)) ?_) rfl (asg_name (asg_name asg_nil))) (exs_nil ?_)
      · have h : E < 0 := of_decide_eq_true hb
        have e1 : numAt y E = y * 2 ^ (-E).toNat := if_pos h
        rw [e1]
        refine ev_bin (ev_local rfl) (ev_bin (x := 2) (y := -E) ev_int (ev_neg (ev_local rfl)) (bin_pow (by omega) ?_)) (bin_mul (IntMulOk.of_bits ?_ ?_))
        · rw [b2]
          omega
        · unfold nb at hnx
          omega
        · have := nb_p2 (-E).toNat
          unfold nb at this
          omega
      · have h : ¬ E < 0 := of_decide_eq_false hb
        have e1 : numAt y E = y := if_neg h
        rw [e1]
        exact ev_local rfl
      · unfold nb at hln
        omega
      · rw [Int.fdiv_eq_ediv_of_nonneg _ (by omega), Int.fmod_eq_emod_of_nonneg _ (by omega)]
      · k_subL
        all_goals first | rfl | rw [hE] | rw [if_neg (by omega), hE]
    · intro i hi hlt
      have hi2 : i < 2 := of_decide_eq_true hlt
      exact ⟨by omega, by omega⟩
    · intro i hi hge
      have hi2 : i = 2 := by have := of_decide_eq_false hge; omega
      subst hi2
      have e1 : (nb y : Int) - p - k - 2 + ((2 : Nat) : Int) = (nb y : Int) - p - k := by omega
      rw [e1, if_neg (by decide), if_neg (by decide), if_neg (by decide)]
      obtain ⟨ha, hb, hc, hd⟩ := at_end r sg (k := k) hpos hp
      rw [← hd]
      have hl := lowAt_pos k ((nb y : Int) - p - k)
      have hs0 : 0 ≤ numAt y ((nb y : Int) - p - k) % lowAt k ((nb y : Int) - p - k) := Int.emod_nonneg _ (by omega)
      generalize hE : (nb y : Int) - p - k = E at *
      generalize numAt y E / lowAt k E = w at *
      generalize numAt y E % lowAt k E = s at *
      generalize lowAt k E = low at *
      have hmul : ∀ y : Int, IntMulOk 2 y := fun y => IntMulOk.of_left (by decide)
      refine' exs_next (ex_assign (ev_or (b := decide (r = .u)) (ev_eq (ev_cmp (ev_local rfl) ev_str Cmp.streq) ?ze1) (fun _ => ev_or (b := decide (r = .c) && decide (sg = 0)) (ev_and (b := decide (r = .c)) (b' := decide (sg = 0)) (ev_eq (ev_cmp (ev_local rfl) ev_str Cmp.streq) ?ze2) (fun _ => ev_bool1 (ev_eq (ev_cmp (ev_local rfl) ev_int (Cmp.int (cmp_eq _ _))) ?ze4))) (fun _ => ev_bool1 (ev_and (b := decide (r = .f)) (b' := decide (sg = 1)) (ev_eq (ev_cmp (ev_local rfl) ev_str Cmp.streq) ?ze3) (fun _ => ev_bool1 (ev_eq (ev_cmp (ev_local rfl) ev_int (Cmp.int (cmp_eq _ _))) ?ze5))))))) ?_
      case ze1 => exact congrArg PyData.bool (rstr_u r)
      case ze2 => exact congrArg PyData.bool (rstr_c r)
      case ze3 => exact congrArg PyData.bool (rstr_f r)
      case ze4 => exact congrArg PyData.bool (by rw [Bool.eq_iff_iff]; simp)
      case ze5 => exact congrArg PyData.bool (by rw [Bool.eq_iff_iff]; simp)
      refine exs_join (b := decide (r = .n)) [(Str.ofString "sign", .int sg), (Str.ofString "exp", .int E), (Str.ofString "whole", .int w), (Str.ofString "rest", .int s), (Str.ofString "away", .bool (if r = .n then decide (2 * s > low) || (decide (2 * s = low) && decide (w % 2 = 1)) else decide (r = .u) || (decide (r = .c) && decide (sg = 0) || decide (r = .f) && decide (sg = 1))))] ?_ (fun hb => ?_) (fun hb => ?_) ?_
      · exact ts_eq (ts_cmp (ev_local rfl) ev_str Cmp.streq) (rstr_n r)
      · have hn : r = .n := of_decide_eq_true hb
        refine' exs_next (ex_assign (ev_or (b := decide (2 * s > low)) (b' := decide (2 * s = low) && decide (w % 2 = 1)) (ev_cmp (ev_bin ev_int (ev_local rfl) (bin_mul (hmul _))) (ev_local rfl) (Cmp.int (cmp_gt _ _))) (fun _ => ev_bool1 (ev_and (b := decide (2 * s = low)) (b' := decide (w % 2 = 1)) (ev_eq (ev_cmp (ev_bin ev_int (ev_local rfl) (bin_mul (hmul _))) (ev_local rfl) (Cmp.int (cmp_eq _ _))) ?ze1) (fun _ => ev_bool1 (ev_eq (ev_cmp (ev_bin (ev_local rfl) ev_int (bin_mod (by decide))) ev_int (Cmp.int (cmp_eq _ _))) ?ze2)))))) (exs_nil ?_)
        case ze1 => exact congrArg PyData.bool (by rw [Bool.eq_iff_iff]; simp)
        case ze2 =>
          refine congrArg PyData.bool ?_
          rw [Int.fmod_eq_emod_of_nonneg _ (by decide)]
          rw [Bool.eq_iff_iff]
          simp
        k_subL
        all_goals first | rfl | skip
        rw [if_pos hn]
      · have hn : ¬ r = .n := of_decide_eq_false hb
        refine exs_nil ?_
        k_subL
        all_goals first | rfl | skip
        rw [if_neg hn]
      refine exs_join (b := goUp r sg w s low) [(Str.ofString "sign", .int sg), (Str.ofString "exp", .int E), (Str.ofString "whole", .int (if goUp r sg w s low = true then w + 1 else w))] ?_ (fun hb => ?_) (fun hb => ?_) ?_
      · refine ts_eq (ts_bool (tsb_and (ts_boolv (ev_local rfl)) (fun _ => tsb_and (ts_cmp (ev_local rfl) ev_int (Cmp.int (cmp_gt _ _))) (fun _ => tsb_and_nil)))) ?_
        unfold goUp
        rw [Bool.eq_iff_iff]
        cases r <;> simp <;> omega
      · refine exs_next (ex_aug rfl ev_int (inp_add _ _)) (exs_nil ?_)
        k_subL
        all_goals first | rfl | skip
        rw [if_pos hb]
      · refine exs_nil ?_
        k_subL
        all_goals first | rfl | skip
        rw [if_neg (by rw [hb]; decide)]
      clear hd
      generalize (if goUp r sg w s low = true then w + 1 else w) = v at *
      obtain ⟨J, a, ha0, hv⟩ := odd_part' hb
      rw [hv, canon_odd J ha0]
      -- the second while: the noughts struck off
      refine exs_while (fun i : Nat => [(Str.ofString "sign", .int sg), (Str.ofString "exp", .int (E + i)), (Str.ofString "whole", .int (2 ^ (J - i) * (2 * a + 1)))]) (fun i => decide (i < J)) (fun i => i + 1) (fun i => i ≤ J) (fun i => J - i) 0 (by omega) ?_ ?_ ?_ ?_ ?_
      · simp
      · intro i hi
        refine ts_eq (ts_cmp (ev_bin (ev_local rfl) ev_int (bin_mod (by decide))) ev_int (Cmp.int (cmp_eq _ _))) ?_
        rw [Int.fmod_eq_emod_of_nonneg _ (by decide), Bool.eq_iff_iff]
        by_cases h : i < J
        · obtain ⟨d, hd⟩ : ∃ d, J - i = d + 1 := ⟨J - i - 1, by omega⟩
          rw [hd, p2succ, Int.mul_assoc]
          simp [h]
        · have hd : J - i = 0 := by omega
          rw [hd, Int.pow_zero, Int.one_mul]
          simp [h]
      · intro i hi hlt
        have hi2 : i < J := of_decide_eq_true hlt
        obtain ⟨d, hd⟩ : ∃ d, J - i = d + 1 := ⟨J - i - 1, by omega⟩
        have hd2 : J - (i + 1) = d := by omega
        refine exs_next (ex_unpackS (names := [Str.ofString "whole", Str.ofString "exp"]) rfl (ev_tuple (evs_cons (ev_bin (ev_local rfl) ev_int (bin_div (by decide) (by decide))) (evs_cons (ev_bin (ev_local rfl) ev_int (bin_add _ _)) evs_nil)) (Nat.le_of_ble_eq_true rfl)) rfl (asg_bind (asg_bind asg_nil))) (exs_nil ?_)
        k_subL
        all_goals first | rfl | omega | (rw [hd, hd2, p2succ, Int.mul_assoc, Int.fdiv_eq_ediv_of_nonneg _ (by decide)]; omega)
      · intro i hi hlt
        have hi2 : i < J := of_decide_eq_true hlt
        exact ⟨by omega, by omega⟩
      · intro i hi hge
        have hi2 : i = J := by have := of_decide_eq_false hge; omega
        subst hi2
        refine exs_ret (ex_ret (ev_tuple (evs_cons (ev_local rfl) (evs_cons (ev_local rfl) (evs_cons (ev_local rfl) (evs_cons (ev_bits (ev_local rfl)) evs_nil)))) (Nat.le_of_ble_eq_true rfl))) ?_
        rw [Nat.sub_self, Int.pow_zero, Int.one_mul]
        rfl
  · decide

set_option maxHeartbeats 1000000 in
theorem f_mod (c : Ctx) (r : Rn) (sg mn ex : Int) (W : Wf sg mn ex) (tg tm te : Int) (V : Wf tg tm te) (htpos : 0 < tm) (prec : Int) (hprec : 70 ≤ prec) : Fun c 4 162 [T4 (sg, mn, ex, (nb mn : Int)), T4 (tg, tm, te, (nb tm : Int)), .int prec, .str r.str] (T4 (norm (sgOf (mdv sg mn ex tg tm te)) (absOf (mdv sg mn ex tg tm te)) (bse ex te) prec r)) := by
  refine fun_of (k := 3) (dds := []) [Str.ofString "s", Str.ofString "t", Str.ofString "prec", Str.ofString "rnd"] [] rfl rfl .nil ?_ ?_ ?_ rfl rfl rfl ?_
  · intro s vs hl X
    match vs, hl with
    | [v1, v2, v3, v4], _ => exact binds_K X rfl rfl rfl rfl rfl
  · decide
  · intro Γ
    have hnn := W.nonneg
    have hsz := W.size
    have hsz2 := V.size
    have hmul1 : ∀ y : Int, IntMulOk ((-1) ^ sg.toNat) y := fun y => IntMulOk.of_left (by rcases W.sg01 with h | h <;> subst h <;> decide)
    have hmul2 : ∀ y : Int, IntMulOk ((-1) ^ tg.toNat) y := fun y => IntMulOk.of_left (by rcases V.sg01 with h | h <;> subst h <;> decide)
    have ht0 : ¬ tm = 0 := by omega
    refine' exs_next (ex_unpack (ev_local rfl) rfl (asg_name (asg_name (asg_name (asg_name asg_nil))))) (exs_next (ex_unpack (ev_local rfl) rfl (asg_name (asg_name (asg_name (asg_name asg_nil))))) ?_)
    refine' exs_next (ex_ifF (ts_eq ?zt ?ze) exs_here) ?_
    case zt => k_updF
    case ze =>
      by_cases h : mn = 0
      · simp [h, (W.zero h).1, ht0]
      · simp [h, ht0]
    by_cases hc1 : sg = tg ∧ te > ex + (nb mn : Int)
    · rw [mod_self r W V htpos hprec hc1.1 hc1.2]
      refine' exs_ret (ex_ifT (ts_eq ?zt ?ze) (exs_ret (ex_ret (ev_local rfl)) rfl)) rfl
      case zt => k_updF
      case ze => simpa using hc1
    refine' exs_next (ex_ifF (ts_eq ?zt ?ze) exs_here) ?_
    case zt => k_updF
    case ze =>
      simp
      intro h
      omega
    by_cases hc2 : tm = 1 ∧ ex > te + 1
    · have hu := mod_unit (sg := sg) (mn := mn) (prec := prec) r V.sg01 hc2.2
      rw [← hc2.1] at hu
      rw [hu]
      refine' exs_ret (ex_ifT (ts_eq ?zt ?ze) (exs_ret (ex_ret ?zr) rfl)) rfl
      case zt => k_updF
      case zr => k_updF
      case ze =>
        have e1 := hc2.1
        subst e1
        have : nb 1 = 1 := rfl
        simp [this]
        omega
    refine' exs_next (ex_ifF (ts_eq ?zt ?ze) exs_here) ?_
    case zt => k_updF
    case ze =>
      simp
      intro h
      subst h
      have : nb 1 = 1 := rfl
      omega
    refine exs_next (ex_assign (d := .int (bse ex te)) (ev_callB (n_min _) b_min (by decide) (evs_cons (ev_local rfl) (evs_cons (ev_local rfl) evs_nil)) bfun_min)) ?_
    have hb : bse ex te ≤ ex ∧ bse ex te ≤ te := by unfold bse; split <;> omega
    obtain ⟨m1, m2, m3⟩ := mdv_nb W V
    refine exs_next (ex_assign (d := .int (sgn sg mn)) (ev_eq (ev_bin (ev_bin (x := -1) (y := sg) (ev_neg ev_int) (ev_local rfl) (bin_pow (by rcases W.sg01 with h | h <;> omega) ?_)) (ev_local rfl) (bin_mul (hmul1 _))) ?_)) ?_
    · have : Builtin.Int.intBits (-1) = 1 := rfl
      rw [this]
      rcases W.sg01 with h | h <;> omega
    · refine congrArg PyData.int ?_
      rcases W.sg01 with h | h <;> subst h <;> simp [sgn]
    refine exs_next (ex_assign (d := .int (sgn tg tm)) (ev_eq (ev_bin (ev_bin (x := -1) (y := tg) (ev_neg ev_int) (ev_local rfl) (bin_pow (by rcases V.sg01 with h | h <;> omega) ?_)) (ev_local rfl) (bin_mul (hmul2 _))) ?_)) ?_
    · have : Builtin.Int.intBits (-1) = 1 := rfl
      rw [this]
      rcases V.sg01 with h | h <;> omega
    · refine congrArg PyData.int ?_
      rcases V.sg01 with h | h <;> subst h <;> simp [sgn]
    have hdn : sgn tg tm * 2 ^ (te - bse ex te).toNat ≠ 0 := by
      have h1 := p2pos (te - bse ex te).toNat
      have h2 : sgn tg tm ≠ 0 := by unfold sgn; split <;> omega
      exact Int.mul_ne_zero h2 (by omega)
    have hq1 := nb_sgn sg mn
    have hq2 := nb_sgn tg tm
    have l1 := W.lo
    have l2 := W.hi
    have l3 := V.lo
    have l4 := V.hi
    have hb2 : -100 ≤ bse ex te := by unfold bse; split <;> omega
    refine exs_next (ex_assign (d := .int (mdv sg mn ex tg tm te)) (ev_bin (ev_bin (ev_local rfl) (ev_bin (ev_local rfl) (ev_local rfl) (bin_sub _ _)) (bin_shl (by dsimp only; omega) ?_)) (ev_bin (ev_local rfl) (ev_bin (ev_local rfl) (ev_local rfl) (bin_sub _ _)) (bin_shl (by dsimp only; omega) ?_)) (bin_mod hdn))) ?_
    · unfold nb at hq1 hsz
      dsimp only
      omega
    · unfold nb at hq2 hsz2
      dsimp only
      omega
    have hn := f_norm c r (sgOf (mdv sg mn ex tg tm te)) (absOf (mdv sg mn ex tg tm te)) (bse ex te) prec (absOf_nonneg _) (sgOf01 _) (.inr (by omega)) (by rw [nb_absOf]; omega)
    generalize mdv sg mn ex tg tm te = D at *
    refine exs_join (b := decide (D ≥ 0)) [(Str.ofString "sign", .int (sgOf D)), (Str.ofString "man", .int (absOf D)), (Str.ofString "base", .int (bse ex te)), (Str.ofString "prec", .int prec), (Str.ofString "rnd", .str r.str)] (ts_cmp (ev_local rfl) ev_int (Cmp.int (cmp_ge _ _))) (fun hb => ?_) (fun hb => ?_) ?_
    · have h : D ≥ 0 := of_decide_eq_true hb
      refine exs_next (ex_assign ev_int) (exs_nil ?_)
      have e1 : sgOf D = 0 := if_neg (by omega)
      have e2 : absOf D = D := if_neg (by omega)
      rw [e1, e2]
      k_subL
      all_goals rfl
    · have h : ¬ D ≥ 0 := of_decide_eq_false hb
      refine exs_next (ex_assign (ev_neg (ev_local rfl))) (exs_next (ex_assign ev_int) (exs_nil ?_))
      have e1 : sgOf D = 1 := if_pos (by omega)
      have e2 : absOf D = -D := if_pos (by omega)
      rw [e1, e2]
      k_subL
      all_goals rfl
    · exact exs_ret (ex_ret (ev_call (n_normalize _) (k_normalize _) (evs_cons (ev_local rfl) (evs_cons (ev_local rfl) (evs_cons (ev_local rfl) (evs_cons (ev_bits (ev_local rfl)) (evs_cons (ev_local rfl) (evs_cons (ev_local rfl) evs_nil)))))) hn (by decide))) rfl
  · decide

set_option maxHeartbeats 1000000 in
theorem f_mixed (c : Ctx) (ns : List Int) (i : Nat) (hi : i ≤ 100) (hns : ns.length ≤ 100) : Fun c 1 169 [.list (ns.map PyData.int), .int (i : Int)] (.int (mixF ns i)) := by
  refine fun_of (k := 0) (dds := []) [Str.ofString "script", Str.ofString "k"] [] rfl rfl .nil ?_ ?_ ?_ rfl rfl rfl ?_
  · intro s vs hl X
    match vs, hl with
    | [v1, v2], _ => exact BindsTo.of_eq rfl
  · decide
  · intro Γ
    have hml : ∀ y : Int, IntMulOk y 6364136223846793005 := fun y => IntMulOk.of_right (by decide)
    have hml2 : ∀ y : Int, IntMulOk y 1442695040888963407 := fun y => IntMulOk.of_right (by decide)
    refine exs_next (ex_assign (d := .int (ns.getD i 0)) (ev_ite (b := decide ((i : Int) < ((ns.map PyData.int).length : Int))) (ts_cmp (ev_local rfl) (ev_len (n_len _) b_len (evs_cons (ev_local rfl) evs_nil) (by rw [List.length_map]; omega)) (Cmp.int (cmp_lt _ _))) (fun hb => ?_) (fun hb => ?_))) ?_
    · have h : i < ns.length := by
        have := of_decide_eq_true hb
        rw [List.length_map] at this
        omega
      refine ev_itemL (ev_local rfl) (ev_local rfl) (by omega) ?_ (by omega)
      rw [Int.toNat_natCast, List.getElem?_map, List.getElem?_eq_getElem h, List.getD_eq_getElem?_getD, List.getElem?_eq_getElem h]
      rfl
    · have h : ns.length ≤ i := by
        have := of_decide_eq_false hb
        rw [List.length_map] at this
        omega
      have e : ns.getD i 0 = 0 := by rw [List.getD_eq_getElem?_getD, List.getElem?_eq_none h]; rfl
      rw [e]
      exact ev_int
    by_cases hc : ns.getD i 0 ≥ 2 ^ (64 : Int).toNat
    · have e : mixF ns i = ns.getD i 0 := if_pos hc
      rw [e]
      exact exs_ret (ex_ifT (ts_eq (ts_cmp (ev_local rfl) (ev_bin ev_int ev_int (bin_pow (by decide) (by decide))) (Cmp.int (cmp_ge _ _))) (decide_eq_true hc)) (exs_ret (ex_ret (ev_local rfl)) rfl)) rfl
    · have e : mixF ns i = (ns.getD i 0 * 6364136223846793005 + ((i : Int) + 1) * 1442695040888963407).fmod (2 ^ (190 : Int).toNat) := if_neg hc
      rw [e]
      refine exs_next (ex_ifF (ts_eq (ts_cmp (ev_local rfl) (ev_bin ev_int ev_int (bin_pow (by decide) (by decide))) (Cmp.int (cmp_ge _ _))) (decide_eq_false hc)) exs_here) ?_
      exact exs_ret (ex_ret (ev_bin (ev_bin (ev_bin (ev_local rfl) ev_int (bin_mul (hml _))) (ev_bin (ev_bin (ev_local rfl) ev_int (bin_add _ _)) ev_int (bin_mul (hml2 _))) (bin_add _ _)) (ev_bin ev_int ev_int (bin_pow (by decide) (by decide))) (bin_mod (by have := p2pos (190 : Int).toNat; omega)))) rfl
  · decide

set_option maxHeartbeats 1000000 in
theorem f_raw0 (c : Ctx) (rich bits : Int) (h0 : rawKind rich = 0) : Fun c 1 176 [.int rich, .int bits, .int 90] (T4 (0, 0, 0, 0)) := by
  refine fun_of (k := 0) (dds := []) [Str.ofString "rich", Str.ofString "bits", Str.ofString "spread"] [] rfl rfl .nil ?_ ?_ ?_ rfl rfl rfl ?_
  · intro s vs hl X
    match vs, hl with
    | [v1, v2, v3], _ => exact BindsTo.of_eq rfl
  · decide
  · intro Γ
    have hm2 : ∀ y : Int, IntMulOk 2 y := fun y => IntMulOk.of_left (by decide)
    refine exs_next (ex_unpackS (names := [Str.ofString "kind", Str.ofString "e", Str.ofString "m"]) rfl (ev_tuple (ds := [.int (rawKind rich), .int (rawE rich), .int (rawM rich)]) (evs_cons (ev_bin (ev_bin (ev_local rfl) ev_int (bin_div (by decide) (by decide))) ev_int (bin_mod (by decide))) (evs_cons (ev_bin (ev_bin (ev_bin (ev_local rfl) ev_int (bin_div (by decide) (by decide))) (ev_bin (ev_bin ev_int (ev_local rfl) (bin_mul (hm2 _))) ev_int (bin_add _ _)) (bin_mod (by decide))) (ev_local rfl) (bin_sub _ _)) (evs_cons (ev_bin (ev_local rfl) (ev_bin ev_int ev_int (bin_pow (by decide) (by decide))) (bin_div (by decide) (by decide))) evs_nil))) (Nat.le_of_ble_eq_true rfl)) rfl (asg_bind (asg_bind (asg_bind asg_nil)))) ?_
    refine' exs_ret (ex_ifT (ts_eq (ts_cmp (ev_local rfl) ev_int (Cmp.int (cmp_eq _ _))) (by rw [h0]; rfl)) (exs_ret (ex_ret ?zr) ?zq)) rfl
    case zr => k_updF
    case zq => rfl
  · decide

set_option maxHeartbeats 1000000 in
theorem f_raw1 (c : Ctx) (rich bits : Int) (hb : bits = 70 ∨ bits = 40) (h0 : rawKind rich ≠ 0) : Fun c 1 176 [.int rich, .int bits, .int 90] (T4 (rich.fmod 2, rawMan rich bits, rawE rich, (nb (rawMan rich bits) : Int))) := by
  refine fun_of (k := 0) (dds := []) [Str.ofString "rich", Str.ofString "bits", Str.ofString "spread"] [] rfl rfl .nil ?_ ?_ ?_ rfl rfl rfl ?_
  · intro s vs hl X
    match vs, hl with
    | [v1, v2, v3], _ => exact BindsTo.of_eq rfl
  · decide
  · intro Γ
    have hm2 : ∀ y : Int, IntMulOk 2 y := fun y => IntMulOk.of_left (by decide)
    have hm2r : ∀ y : Int, IntMulOk y 2 := fun y => IntMulOk.of_right (by decide)
    have hj := fmod_range (rawM rich) (m := bits) (by omega)
    have hj1 := fmod_range (rawM rich) (m := bits - 1) (by omega)
    have hpw : ∀ y : Int, y ≤ 100 → (Builtin.Int.intBits 2 : Int) * y ≤ 2 ^ 27 := by
      intro y hy
      have : Builtin.Int.intBits 2 = 2 := rfl
      rw [this]
      omega
    refine exs_next (ex_unpackS (names := [Str.ofString "kind", Str.ofString "e", Str.ofString "m"]) rfl (ev_tuple (ds := [.int (rawKind rich), .int (rawE rich), .int (rawM rich)]) (evs_cons (ev_bin (ev_bin (ev_local rfl) ev_int (bin_div (by decide) (by decide))) ev_int (bin_mod (by decide))) (evs_cons (ev_bin (ev_bin (ev_bin (ev_local rfl) ev_int (bin_div (by decide) (by decide))) (ev_bin (ev_bin ev_int (ev_local rfl) (bin_mul (hm2 _))) ev_int (bin_add _ _)) (bin_mod (by decide))) (ev_local rfl) (bin_sub _ _)) (evs_cons (ev_bin (ev_local rfl) (ev_bin ev_int ev_int (bin_pow (by decide) (by decide))) (bin_div (by decide) (by decide))) evs_nil))) (Nat.le_of_ble_eq_true rfl)) rfl (asg_bind (asg_bind (asg_bind asg_nil)))) ?_
    refine exs_next (ex_ifF (ts_eq (ts_cmp (ev_local rfl) ev_int (Cmp.int (cmp_eq _ _))) (by simpa using h0)) exs_here) ?_
    refine exs_next (ex_assign (ev_bin (ev_bin (ev_bin (ev_bin (ev_local rfl) (ev_bin (x := 2) ev_int (ev_bin ev_int (ev_bin (ev_local rfl) (ev_local rfl) (bin_mod (by omega))) (bin_add _ _)) (bin_pow (by omega) (hpw _ (by omega)))) (bin_mod (by have := p2pos (1 + (rawM rich).fmod bits).toNat; omega))) ev_int (bin_div (by decide) (by decide))) ev_int (bin_mul (hm2r _))) ev_int (bin_add _ _))) ?_
    refine exs_next (ρ' := [(Str.ofString "rich", .int rich), (Str.ofString "e", .int (rawE rich)), (Str.ofString "man", .int (rawMan rich bits))]) ?_ (exs_ret (ex_ret (ev_tuple (evs_cons (ev_bin (ev_local rfl) ev_int (bin_mod (by decide))) (evs_cons (ev_local rfl) (evs_cons (ev_local rfl) (evs_cons (ev_bits (ev_local rfl)) evs_nil)))) (Nat.le_of_ble_eq_true rfl))) rfl)
    by_cases h1 : rawKind rich = 1
    · have e : rawMan rich bits = 1 := if_pos h1
      rw [e]
      refine ex_ifT (ts_eq (ts_cmp (ev_local rfl) ev_int (Cmp.int (cmp_eq _ _))) (by simpa using h1)) (exs_next (ex_assign ev_int) (exs_nil ?_))
      k_subL
      all_goals rfl
    refine ex_ifF (ts_eq (ts_cmp (ev_local rfl) ev_int (Cmp.int (cmp_eq _ _))) (by simpa using h1)) ?_
    by_cases h2 : rawKind rich = 2
    · have e : rawMan rich bits = 2 ^ (1 + (rawM rich).fmod bits).toNat - 1 := by
        unfold rawMan
        rw [if_neg h1, if_pos h2]
      rw [e]
      refine exs_next (ex_ifT (ts_eq (ts_cmp (ev_local rfl) ev_int (Cmp.int (cmp_eq _ _))) (by simpa using h2)) (exs_next (ex_assign (ev_bin (ev_bin (x := 2) ev_int (ev_bin ev_int (ev_bin (ev_local rfl) (ev_local rfl) (bin_mod (by omega))) (bin_add _ _)) (bin_pow (by omega) (hpw _ (by omega)))) ev_int (bin_sub _ _))) exs_here)) (exs_nil ?_)
      k_subL
      all_goals rfl
    by_cases h3 : rawKind rich = 3
    · have e : rawMan rich bits = 2 ^ (1 + (rawM rich).fmod (bits - 1)).toNat + 1 := by
        unfold rawMan
        rw [if_neg h1, if_neg h2, if_pos h3]
      rw [e]
      refine exs_next (ex_ifF (ts_eq (ts_cmp (ev_local rfl) ev_int (Cmp.int (cmp_eq _ _))) (by simpa using h2)) (exs_next (ex_ifT (ts_eq (ts_bool (tsb_and (ts_cmp (ev_local rfl) ev_int (Cmp.int (cmp_eq _ _))) (fun _ => tsb_and (ts_cmp (ev_local rfl) ev_int (Cmp.int (cmp_gt _ _))) (fun _ => tsb_and_nil)))) (by simp [h3]; omega)) (exs_next (ex_assign (ev_bin (ev_bin (x := 2) ev_int (ev_bin ev_int (ev_bin (ev_local rfl) (ev_bin (ev_local rfl) ev_int (bin_sub _ _)) (bin_mod (by omega))) (bin_add _ _)) (bin_pow (by omega) (hpw _ (by omega)))) ev_int (bin_add _ _))) exs_here)) exs_here)) (exs_nil ?_)
      k_subL
      all_goals rfl
    · have e : rawMan rich bits = ((rawM rich).fmod (2 ^ (1 + (rawM rich).fmod bits).toNat)).fdiv 2 * 2 + 1 := by
        unfold rawMan
        rw [if_neg h1, if_neg h2, if_neg h3]
      rw [e]
      refine exs_next (ex_ifF (ts_eq (ts_cmp (ev_local rfl) ev_int (Cmp.int (cmp_eq _ _))) (by simpa using h2)) (exs_next (ex_ifF (ts_eq (ts_bool (tsb_and (ts_cmp (ev_local rfl) ev_int (Cmp.int (cmp_eq _ _))) (fun _ => tsb_and (ts_cmp (ev_local rfl) ev_int (Cmp.int (cmp_gt _ _))) (fun _ => tsb_and_nil)))) (by simp [h3])) exs_here) exs_here)) (exs_nil ?_)
      k_subL
      all_goals rfl
  · decide


theorem f_raw (c : Ctx) (rich bits : Int) (hb : bits = 70 ∨ bits = 40) : ∃ sg mn ex : Int, Wf sg mn ex ∧ Fun c 1 176 [.int rich, .int bits, .int 90] (T4 (sg, mn, ex, (nb mn : Int))) := by
  by_cases h0 : rawKind rich = 0
  · exact ⟨0, 0, 0, ⟨.inl rfl, .inr ⟨rfl, rfl, rfl⟩, by decide, by decide, by decide⟩, f_raw0 c rich bits h0⟩
  · exact ⟨_, _, _, rawMan_wf rich hb, f_raw1 c rich bits hb h0⟩
theorem f_rounded (c : Ctx) (r : Rn) (x : Int) (k p : Nat) (hxs : nb x ≤ 3000) (hk : k ≤ 1000) (hp : 1 ≤ p) (hps : p ≤ 1000) : Fun c 1 190 [.int x, .int (2 ^ k), .int (p : Int), .str r.str] (T4 (norm (sgOf x) (absOf x) (-(k : Int)) p r)) := by
  by_cases h : x = 0
  · subst h
    exact f_law_rounded0 c r _ _
  · exact f_law_rounded c r x k p h hxs hk hp hps
theorem eqv_T4 (x : Int × Int × Int × Int) : PyData.eqv (T4 x) (T4 x) = true := by simp [T4, PyData.eqv, PyData.eqvAll]
theorem shaped_T4 (x : Int × Int × Int × Int) : SeqAt.shaped (T4 x) = true := rfl
theorem abv_nb {sg mn ex : Int} (W : Wf sg mn ex) : nb (abv sg mn ex) ≤ 200 := by
  have a1 := nb_sgn sg mn
  have b1 := W.size
  have c2 := W.hi
  have e1 : nb (2 ^ ex.toNat) ≤ 101 := by rw [nb_p2]; omega
  have f1 := PySem.intBits_mul_le (x := sgn sg mn) (m := 70) (by unfold nb at a1 b1; omega) e1
  unfold abv nb
  omega
theorem T4_at (x : Int × Int × Int × Int) : T4 x = .tuple [.int x.1, .int x.2.1, .int x.2.2.1, .int x.2.2.2] := rfl

set_option maxHeartbeats 1000000 in
theorem f_mod_right0 (c : Ctx) (r : Rn) (sg mn ex : Int) (W : Wf sg mn ex) (ta tb td tf tg tm te : Int) (h1 : tb > 0 → (ta, tb, td, tf) = (tg, tm, te, (nb tm : Int))) (h2 : ¬ tb > 0 → tg = 1 ∧ tm = 1 ∧ te = 0) (V : Wf tg tm te) (htpos : 0 < tm) (prec : Nat) (hprec : 70 ≤ prec) (hp2 : prec ≤ 200) : Fun c 5 216 [T4 (sg, mn, ex, (nb mn : Int)), T4 (ta, tb, td, tf), .int (prec : Int), .str r.str] (.bool true) := by
  refine fun_of (k := 4) (dds := []) [Str.ofString "s", Str.ofString "t", Str.ofString "prec", Str.ofString "rnd"] [] rfl rfl .nil ?_ ?_ ?_ rfl rfl rfl ?_
  · intro s vs hl X
    match vs, hl with
    | [v1, v2, v3, v4], _ => exact BindsTo.of_eq rfl
  · decide
  · intro Γ
    have hlit : ¬ tb > 0 → PyData.tuple [.int 1, .int 1, .int 0, .int 1] = T4 (tg, tm, te, (nb tm : Int)) := by
      intro h
      obtain ⟨rfl, rfl, rfl⟩ := h2 h
      rfl
    have hA := abv_nb W
    have hB := abv_nb V
    have hlo := W.lo
    have hlo2 := V.lo
    have pa := nb_p2 (-ex).toNat
    have pb := nb_p2 (-te).toNat
    have q1 := PySem.intBits_mul_le (x := abv sg mn ex) (m := 200) (y := 2 ^ (-te).toNat) (n := 101) hA (by unfold nb at pb; omega)
    have q2 := PySem.intBits_mul_le (x := abv tg tm te) (m := 200) (y := 2 ^ (-ex).toNat) (n := 101) hB (by unfold nb at pa; omega)
    have q3 := PySem.intBits_fmod_le q1 q2
    have hne : abv tg tm te * 2 ^ (-ex).toNat ≠ 0 := by
      have h3 := p2pos (-ex).toNat
      have h4 := p2pos te.toNat
      have h5 : sgn tg tm ≠ 0 := by unfold sgn; split <;> omega
      unfold abv
      exact Int.mul_ne_zero (Int.mul_ne_zero h5 (by omega)) (by omega)
    have hprec2 : (prec : Int) ≥ 70 := by omega
    refine exs_next (ex_unpackS (names := [Str.ofString "a", Str.ofString "b"]) rfl (ev_tuple (evs_cons (ev_call (n_law_worth _) (k_law_worth _) (evs_cons (ev_local rfl) evs_nil) (f_worth c sg mn ex W) (by decide)) (evs_cons (ev_call (n_law_worth _) (k_law_worth _) (evs_cons (ev_ite (b := decide (tb > 0)) (ts_cmp (ev_item (i := 1) (ev_local rfl) ev_int rfl (by decide)) ev_int (Cmp.int (cmp_gt _ _))) (fun hb => ev_eq (ev_local rfl) (congrArg T4 (h1 (of_decide_eq_true hb)))) (fun hb => ev_eq (ev_tuple (evs_cons ev_int (evs_cons ev_int (evs_cons ev_int (evs_cons ev_int evs_nil)))) (Nat.le_of_ble_eq_true rfl)) (hlit (of_decide_eq_false hb)))) evs_nil) (f_worth c tg tm te V) (by decide)) evs_nil)) (Nat.le_of_ble_eq_true rfl)) rfl (asg_bind (asg_bind asg_nil))) ?_
    refine exs_next (ex_assign (ev_call (n_mpf_mod _) (k_mpf_mod _) (evs_cons (ev_local rfl) (evs_cons (ev_ite (b := decide (tb > 0)) (ts_cmp (ev_item (i := 1) (ev_local rfl) ev_int rfl (by decide)) ev_int (Cmp.int (cmp_gt _ _))) (fun hb => ev_eq (ev_local rfl) (congrArg T4 (h1 (of_decide_eq_true hb)))) (fun hb => ev_eq (ev_tuple (evs_cons ev_int (evs_cons ev_int (evs_cons ev_int (evs_cons ev_int evs_nil)))) (Nat.le_of_ble_eq_true rfl)) (hlit (of_decide_eq_false hb)))) (evs_cons (ev_local rfl) (evs_cons (ev_local rfl) evs_nil)))) (f_mod c r sg mn ex W tg tm te V htpos prec hprec2) (by decide))) ?_
    have hr := f_rounded c r ((abv sg mn ex * 2 ^ (-te).toNat).fmod (abv tg tm te * 2 ^ (-ex).toNat)) ((-ex).toNat + (-te).toNat) prec (by unfold nb; omega) (by omega) (by omega) (by omega)
    rw [mod_law r prec] at hr
    have hmul : ∀ y z : Int, Builtin.Int.intBits y ≤ 2 ^ 20 → Builtin.Int.intBits z ≤ 2 ^ 20 → IntMulOk y z := fun y z h1 h2 => IntMulOk.of_bits h1 h2
    have z1 : Builtin.Int.intBits (abv sg mn ex) ≤ 2 ^ 20 := by unfold nb at hA; omega
    have z2 : Builtin.Int.intBits (abv tg tm te) ≤ 2 ^ 20 := by unfold nb at hB; omega
    have z3 : Builtin.Int.intBits (2 ^ (-ex).toNat) ≤ 2 ^ 20 := by unfold nb at pa; omega
    have z4 : Builtin.Int.intBits (2 ^ (-te).toNat) ≤ 2 ^ 20 := by unfold nb at pb; omega
    refine exs_ret (ex_ret (ev_cmp (ev_local rfl) (ev_call (n_law_rounded _) (k_law_rounded _) (evs_cons (ev_bin (ev_bin (ev_item (i := 0) (ev_local (x := Str.ofString "a") rfl) ev_int rfl (by decide)) (ev_item (i := 1) (ev_local (x := Str.ofString "b") rfl) ev_int rfl (by decide)) (bin_mul (hmul _ _ z1 z4))) (ev_bin (ev_item (i := 0) (ev_local (x := Str.ofString "b") rfl) ev_int rfl (by decide)) (ev_item (i := 1) (ev_local (x := Str.ofString "a") rfl) ev_int rfl (by decide)) (bin_mul (hmul _ _ z2 z3))) (bin_mod hne)) (evs_cons (ev_eq (ev_bin (ev_item (i := 1) (ev_local (x := Str.ofString "a") rfl) ev_int rfl (by decide)) (ev_item (i := 1) (ev_local (x := Str.ofString "b") rfl) ev_int rfl (by decide)) (bin_mul (hmul _ _ z3 z4))) (congrArg PyData.int (p2add _ _).symm)) (evs_cons (ev_local rfl) (evs_cons (ev_local rfl) evs_nil)))) hr (by decide)) (Cmp.dataEq (shaped_T4 _) (shaped_T4 _)))) ?_
    rw [eqv_T4]
  · decide


/-- the law's part upon mpf_mod -/
theorem f_mod_right (c : Ctx) (r : Rn) (sg mn ex : Int) (W : Wf sg mn ex) (tg tm te : Int) (V : Wf tg tm te) (prec : Nat) (hprec : 70 ≤ prec) (hp2 : prec ≤ 200) :
    Fun c 5 216 [T4 (sg, mn, ex, (nb mn : Int)), T4 (tg, tm, te, (nb tm : Int)), .int (prec : Int), .str r.str] (.bool true) := by
  by_cases h : tm > 0
  · exact f_mod_right0 c r sg mn ex W _ _ _ _ tg tm te (fun _ => rfl) (fun h' => absurd h h') V h prec hprec hp2
  · exact f_mod_right0 c r sg mn ex W _ _ _ _ 1 1 0 (fun h' => absurd h' h) (fun _ => ⟨rfl, rfl, rfl⟩) ⟨.inr rfl, .inl ⟨rfl, by decide⟩, by decide, by decide, by decide⟩ (by decide) prec hprec hp2

section
variable {c : Ctx} {k : Nat} {cn : Str} {cs : Scope} {a : Addr} {ccd : Value}
/-- the law's own frame -/
structure Low (Γ : Frm c k cn cs a ccd) : Prop where
  dp : Γ.dp = 302
  un : Γ.un = 7
  outer : Γ.outer = []
  XB : (Kf c.w).In Γ.base
  TB : Top Γ.p Γ.loose Γ.mean Γ.mg Γ.mb Γ.base
/-- a call whose ledger is let go -/
structure FunL (c : Ctx) (k : Nat) (f : Addr) (b : Bool) : Prop where
  run : ∀ (cn : Str) (cs : Scope) (a : Addr) (ccd : Value) (Γ : Frm c k cn cs a ccd) (low : Low Γ) (Q : Value → Shared → Prop) (E : Value → Shared → Prop) (s : Shared) (m : Str → Option Value),
    Fr Γ.g Γ.L s.heap m → (∀ h' tk', Fr Γ.g Γ.L h' m → Q (.bool b) { s with heap := h', toks := tk' }) → wpAny (model Pg c.w) Γ.A (call (.ref f) []) Q E s
/-- statements that hand back a bool, the ledger let go -/
structure ExsL (Γ : Frm c k cn cs a ccd) (ρ : Rho) (sts : List Stmt) (b : Bool) : Prop where
  run : ∀ (Q : Flow → Shared → Prop) (E : Value → Shared → Prop) (s : Shared) (news : Led), At Γ ρ news s.heap → (∀ h' tk' m, Fr Γ.g Γ.L h' m → Q (.ret (.bool b)) { s with heap := h', toks := tk' }) →
    wpAny (model Pg c.w) Γ.A (execs sts Γ.env) Q E s
theorem exsL_next {Γ : Frm c k cn cs a ccd} {ρ ρ' : Rho} {st : Stmt} {rest : List Stmt} {b : Bool} (h1 : Ex Γ ρ st (.next ρ')) (h2 : ExsL Γ ρ' rest b) : ExsL Γ ρ (st :: rest) b := by
  refine ⟨fun Q E s news hat hk => ?_⟩
  refine wpAny_execs_cons (h1.run _ _ _ _ hat fun f n1 h t hok s1 => ?_)
  obtain ⟨rfl, hat1⟩ := hok
  exact h2.run _ _ { s with heap := h, toks := t } _ hat1 fun h2 t2 m F => hk h2 t2 m F
theorem exsL_forget {Γ : Frm c k cn cs a ccd} {ρ : Rho} (ρ' : Rho) {sts : List Stmt} {b : Bool} (h : ∀ q ∈ ρ', ρ.lookup q.1 = some q.2) (h2 : ExsL Γ ρ' sts b) : ExsL Γ ρ sts b := by
  refine ⟨fun Q E s news hat hk => ?_⟩
  obtain ⟨⟨m, F, l⟩, N⟩ := hat
  refine h2.run _ _ _ news ⟨⟨m, F, fun x d e => ?_⟩, N⟩ hk
  have hm : ∀ (l : Rho), l.lookup x = some d → (x, d) ∈ l := by
    intro l
    induction l with
    | nil => intro h; simp at h
    | cons q r ih =>
      intro h
      rw [List.lookup_cons] at h
      by_cases hq : (x == q.1) = true
      · rw [hq] at h
        obtain rfl := Option.some.inj h
        rw [beq_iff_eq.mp hq]
        exact .head _
      · rw [Bool.eq_false_iff.mpr hq] at h
        exact .tail _ (ih h)
  exact l x d (h (x, d) (hm ρ' e))
theorem exsL_last {Γ : Frm c k cn cs a ccd} {ρ : Rho} {fn : Str} {pf pos pr : Pos} {fa : Addr} {k' : Nat} {rest : List Stmt} {b : Bool} (hn : nsIn (Kf c.w) mainGlobals fn = some (some (.ref fa))) (hkp : keepIn (Kf c.w) (.ref fa) = true)
    (hf : FunL c k' fa b) (hk' : k' ≤ k) (low : Low Γ) (hx : (envX cn cs Γ.L a ccd []).kindOf fn = some .globalImplicit := by rfl) (hd : (fn == ("__debug__" : Str)) = false := by decide)
    (hee : ∀ args : List Expr, eval (.Call (.Name fn pf) args [] pos) Γ.env = (do callWith pos (← eval (.Name fn pf) Γ.env) [] (backTo pos (starEach args Γ.env)) (backToKw pos (keywordEach [] Γ.env))) := by intro _; rfl) :
    ExsL Γ ρ (.Return (some (.Call (.Name fn pf) [] [] pos)) pr :: rest) b := by
  refine ⟨fun Q E s news hat hk => ?_⟩
  obtain ⟨⟨m, F, l⟩, N⟩ := hat
  refine wpAny_execs_cons (wpAny_Return_some ?_)
  refine Call_ (nameX_K F Γ.inK (topRead_of Γ.top) hn ?_ Γ.isFn hx hd) (hee _)
  refine callWith_K0 (Γ.inK.keeps F.keep) hkp ?_
  exact hf.run _ _ _ _ (Γ.less k' hk') ⟨low.dp, low.un, low.outer, low.XB, low.TB⟩ _ _ _ _ F fun h' tk' F' => hk h' tk' m F'
/-- the law's body -/
structure LawOk (c : Ctx) (ns : List Int) : Prop where
  run : ∀ (name qual : Str) (params : Arguments) (body : List Stmt) (scope : Scope) (dV kV doc pm cdv ct oc : Value) (an od : Option Addr) (osl : Array (Option Value)), (Kf c.w).lookup 223 = some ⟨oc, od, .func (fnOf name qual params body scope dV kV doc pm an cdv ct), osl⟩ →
    ∀ (cn : Str) (a : Addr) (ccd : Value) (Γ : Frm c 12 cn scope a ccd), Low Γ → ExsL Γ [(Str.ofString "script", .list (ns.map PyData.int))] body true
theorem law_ok_of {c : Ctx} {ns : List Int} {name qual : Str} {params : Arguments} {body : List Stmt} {scope : Scope} {dV kV doc pm cdv ct oc : Value} {an od : Option Addr} {osl : Array (Option Value)} (ho : (Kf c.w).lookup 223 = some ⟨oc, od, .func (fnOf name qual params body scope dV kV doc pm an cdv ct), osl⟩)
    (h : ∀ (cn : Str) (a : Addr) (ccd : Value) (Γ : Frm c 12 cn scope a ccd), Low Γ → ExsL Γ [(Str.ofString "script", .list (ns.map PyData.int))] body true) : LawOk c ns := by
  refine ⟨fun name' qual' params' body' scope' dV' kV' doc' pm' cdv' ct' oc' an' od' osl' ho' => ?_⟩
  have e := Option.some.inj (ho.symm.trans ho')
  have e2 := Data.func.inj (congrArg Obj.data e)
  have e3 : body = body' := FuncBody.stmts.inj (congrArg FuncData.body e2)
  have e4 : scope = scope' := congrArg FuncData.scope e2
  subst e3
  subst e4
  exact h
end

/-- the numbers that are whole -/
theorem whole_mgn (r : Rn) {sg mn ex : Int} (W : Wf sg mn ex) : whole r (abv sg mn ex) (-ex).toNat = sgn sg (mgn r sg mn ex) := by
  by_cases h : 0 ≤ ex
  · have e0 : (-ex).toNat = 0 := by omega
    rw [e0, whole_zero]
    unfold mgn abv
    rw [if_pos h]
    unfold sgn
    split
    · rw [Int.neg_mul]
    · rfl
  · rw [abv_nonneg_exp (by omega), whole_sgn r _ W.nonneg W.sg01]
    unfold mgn
    rw [if_neg h]
theorem norm_sgn {sg y : Int} (hy : 0 ≤ y) (hs : sg = 0 ∨ sg = 1) (e p : Int) (r : Rn) : norm (sgOf (sgn sg y)) (absOf (sgn sg y)) e p r = norm sg y e p r := by
  by_cases h0 : y = 0
  · subst h0
    rcases hs with rfl | rfl <;> simp [sgn, sgOf, absOf, norm]
  · rcases hs with rfl | rfl
    · have h1 : ¬ y < 0 := by omega
      simp [sgn, sgOf, absOf, h1]
    · have h1 : -y < 0 := by omega
      have e1 : sgOf (sgn 1 y) = 1 := if_pos h1
      have e2 : absOf (sgn 1 y) = y := by
        show (if -y < 0 then - -y else -y) = y
        rw [if_pos h1]
        omega
      rw [e1, e2]
/-- a whole number, rounded as the law rounds -/
theorem round_mgn (q r : Rn) {sg mn ex : Int} (W : Wf sg mn ex) (p : Int) : norm (sgOf (whole q (abv sg mn ex) (-ex).toNat)) (absOf (whole q (abv sg mn ex) (-ex).toNat)) (-((0 : Nat) : Int)) p r = norm sg (mgn q sg mn ex) 0 p r := by
  rw [whole_mgn q W, norm_sgn (mgn_nonneg q W) W.sg01]
  rfl
theorem nb_whole (q : Rn) {sg mn ex : Int} (W : Wf sg mn ex) : nb (whole q (abv sg mn ex) (-ex).toNat) ≤ 200 := by
  rw [whole_mgn q W, nb_sgn]
  exact mgn_nb q W

set_option maxHeartbeats 4000000 in
theorem law_ok (c : Ctx) (ns : List Int) (hns : ns.length ≤ 100) (hO : FunL c 11 209 true) : LawOk c ns := by
  refine law_ok_of rfl ?_
  intro cn a ccd Γ low
  -- the draws
  have mixed : ∀ i : Nat, i ≤ 100 → Fun c 1 169 [.list (ns.map PyData.int), .int (i : Int)] (.int (mixF ns i)) := fun i hi => f_mixed c ns i hi hns
  refine exsL_next (ex_unpackS (names := [Str.ofString "first", Str.ofString "rich"]) rfl (ev_tuple (evs_cons (ev_call (n_law_mixed _) (k_law_mixed _) (evs_cons (ev_local rfl) (evs_cons ev_int evs_nil)) (mixed 0 (by omega)) (by decide)) (evs_cons (ev_call (n_law_mixed _) (k_law_mixed _) (evs_cons (ev_local rfl) (evs_cons ev_int evs_nil)) (mixed 1 (by omega)) (by decide)) evs_nil)) (Nat.le_of_ble_eq_true rfl)) rfl (asg_bind (asg_bind asg_nil))) ?_
  have m2 := mixed 2 (by omega)
  generalize mixF ns 0 = first at *
  generalize mixF ns 1 = rich at *
  generalize mixF ns 2 = third at *
  obtain ⟨r, hr⟩ : ∃ r : Rn, ([.str (Str.ofString "n"), .str (Str.ofString "f"), .str (Str.ofString "c"), .str (Str.ofString "d"), .str (Str.ofString "u")] : List PyData)[(first.fmod 5).toNat]? = some (.str r.str) := by
    have := fmod_range first (m := 5) (by decide)
    have h : first.fmod 5 = 0 ∨ first.fmod 5 = 1 ∨ first.fmod 5 = 2 ∨ first.fmod 5 = 3 ∨ first.fmod 5 = 4 := by omega
    rcases h with h | h | h | h | h <;> rw [h]
    · exact ⟨.n, rfl⟩
    · exact ⟨.f, rfl⟩
    · exact ⟨.c, rfl⟩
    · exact ⟨.d, rfl⟩
    · exact ⟨.u, rfl⟩
  obtain ⟨pn, hpn, hp1, hp2⟩ : ∃ pn : Nat, 70 + (first.fdiv 5).fmod 40 = (pn : Int) ∧ 70 ≤ pn ∧ pn ≤ 109 := by
    have := fmod_range (first.fdiv 5) (m := 40) (by decide)
    exact ⟨(70 + (first.fdiv 5).fmod 40).toNat, by omega, by omega, by omega⟩
  have h5 := fmod_range first (m := 5) (by decide)
  refine exsL_next (ex_unpackS (names := [Str.ofString "prec", Str.ofString "rnd"]) rfl (ev_tuple (ds := [.int (pn : Int), .str r.str]) (evs_cons (ev_eq (ev_bin ev_int (ev_bin (ev_bin (ev_local rfl) ev_int (bin_div (by decide) (by decide))) ev_int (bin_mod (by decide))) (bin_add _ _)) (congrArg PyData.int hpn)) (evs_cons (ev_itemL (ev_list (evs_cons ev_str (evs_cons ev_str (evs_cons ev_str (evs_cons ev_str (evs_cons ev_str evs_nil))))) (Nat.le_of_ble_eq_true rfl)) (ev_bin (ev_local rfl) ev_int (bin_mod (by decide))) h5.1 hr (by omega)) evs_nil)) (Nat.le_of_ble_eq_true rfl)) rfl (asg_bind (asg_bind asg_nil))) ?_
  obtain ⟨sg, mn, ex0, W0, f1⟩ := f_raw c rich 70 (.inl rfl)
  obtain ⟨tg, tm, te, V, f2⟩ := f_raw c third 40 (.inr rfl)
  refine exsL_next (ex_unpackS (names := [Str.ofString "s", Str.ofString "t"]) rfl (ev_tuple (evs_cons (ev_call (n_law_raw _) (k_law_raw _) (evs_cons (ev_local rfl) (evs_cons ev_int (evs_cons ev_int evs_nil))) f1 (by decide)) (evs_cons (ev_call (n_law_raw _) (k_law_raw _) (evs_cons (ev_call (n_law_mixed _) (k_law_mixed _) (evs_cons (ev_local rfl) (evs_cons ev_int evs_nil)) m2 (by decide)) (evs_cons ev_int (evs_cons ev_int evs_nil))) f2 (by decide)) evs_nil)) (Nat.le_of_ble_eq_true rfl)) rfl (asg_bind (asg_bind asg_nil))) ?_
  -- at times another exponent
  obtain ⟨ex, hex, W⟩ : ∃ ex : Int, ex = (if (((first.fdiv 200).fmod 3 == 0) && decide (mn > 2)) = true then -1 - (first.fdiv 600).fmod (nb mn : Int) else ex0) ∧ Wf sg mn ex := by
    refine ⟨_, rfl, ?_⟩
    split
    · rename_i h
      have hmn : mn > 2 := by simp at h; exact h.2
      have hnb := nb_pos (show 0 < mn by omega)
      have h6 := fmod_range (first.fdiv 600) (m := (nb mn : Int)) (by omega)
      have hs := W0.size
      have hk : mn % 2 = 1 ∧ 0 < mn := by rcases W0.kind with h | h; exact h; omega
      exact ⟨W0.sg01, .inl hk, hs, by omega, by omega⟩
    · exact W0
  refine exsL_next (ρ' := [(Str.ofString "first", .int first), (Str.ofString "prec", .int (pn : Int)), (Str.ofString "rnd", .str r.str), (Str.ofString "t", T4 (tg, tm, te, (nb tm : Int))), (Str.ofString "s", T4 (sg, mn, ex, (nb mn : Int)))]) (ex_if (b := ((first.fdiv 200).fmod 3 == 0) && decide (mn > 2)) (ts_eq (ts_bool (tsb_and (ts_cmp (ev_bin (ev_bin (ev_local rfl) ev_int (bin_div (by decide) (by decide))) ev_int (bin_mod (by decide))) ev_int (Cmp.int (cmp_eq _ _))) (fun _ => tsb_and (ts_cmp (ev_item (i := 1) (ev_local rfl) ev_int rfl (by decide)) ev_int (Cmp.int (cmp_gt _ _))) (fun _ => tsb_and_nil)))) (by simp)) (fun hb => ?_) (fun hb => ?_)) ?_
  · rw [if_pos hb] at hex
    have hmn : mn > 2 := by simp at hb; exact hb.2
    have hnb := nb_pos (show 0 < mn by omega)
    refine exs_next (ex_assign (d := T4 (sg, mn, ex, (nb mn : Int))) (ev_eq (ev_tuple (evs_cons (ev_item (i := 0) (ev_local rfl) ev_int rfl (by decide)) (evs_cons (ev_item (i := 1) (ev_local rfl) ev_int rfl (by decide)) (evs_cons (ev_bin (ev_neg ev_int) (ev_bin (ev_bin (ev_local rfl) ev_int (bin_div (by decide) (by decide))) (ev_item (i := 3) (ev_local rfl) ev_int rfl (by decide)) (bin_mod (by dsimp only; omega))) (bin_sub _ _)) (evs_cons (ev_item (i := 3) (ev_local rfl) ev_int rfl (by decide)) evs_nil)))) (Nat.le_of_ble_eq_true rfl)) ?_)) (exs_nil ?_)
    · rw [hex]
      rfl
    · k_subL
      all_goals rfl
  · rw [hb, if_neg (by decide)] at hex
    subst hex
    refine exs_nil ?_
    k_subL
    all_goals rfl
  clear hex W0 f1 f2 m2 mixed
  have hnn := W.nonneg
  have hlo := W.lo
  have hhi := W.hi
  have hA := abv_nb W
  have hkp := p2pos (-ex).toNat
  have hkb := nb_p2 (-ex).toNat
  have hk9 : Builtin.Int.intBits (2 ^ (-ex).toNat) ≤ 9000 := by unfold nb at hkb; omega
  refine exsL_next (ex_unpack (ev_call (n_law_worth _) (k_law_worth _) (evs_cons (ev_local rfl) evs_nil) (f_worth c sg mn ex W) (by decide)) rfl (asg_name (asg_name asg_nil))) ?_
  -- to_int
  refine exsL_next (ex_ifF (ts_eq (ts_bool (tsb_or (ts_cmp (ev_call (n_to_int _) (k_to_int _) (evs_cons (ev_local rfl) (evs_cons (ev_local rfl) evs_nil)) (f_to_int c r sg mn ex W) (by decide)) (ev_call (n_law_whole _) (k_law_whole _) (evs_cons (ev_local rfl) (evs_cons (ev_local rfl) (evs_cons (ev_local rfl) evs_nil))) (f_law_whole c r (abv sg mn ex) (-ex).toNat (by omega)) (by decide)) (Cmp.int (cmp_ne _ _))) (fun _ => tsb_or (ts_cmp (ev_call (n_to_int _) (k_to_int _) (evs_cons (ev_local rfl) evs_nil) (f_to_int1 c sg mn ex W) (by decide)) (ev_call (n_law_whole _) (k_law_whole _) (evs_cons (ev_local rfl) (evs_cons (ev_local rfl) (evs_cons ev_str evs_nil))) (f_law_whole c .d (abv sg mn ex) (-ex).toNat (by omega)) (by decide)) (Cmp.int (cmp_ne _ _))) (fun _ => tsb_or_nil)))) (by simp)) exs_here) ?_
  -- floor, ceil, nint
  have whl : ∀ q : Rn, Fun c 1 197 [.int (abv sg mn ex), .int (2 ^ (-ex).toNat), .str q.str] (.int (whole q (abv sg mn ex) (-ex).toNat)) := fun q => f_law_whole c q (abv sg mn ex) (-ex).toNat (by omega)
  have rnd300 : ∀ q : Rn, Fun c 1 190 [.int (whole q (abv sg mn ex) (-ex).toNat), .int 1, .int 300, .str (Str.ofString "n")] (T4 (canon sg (mgn q sg mn ex) 0)) := by
    intro q
    have h := f_rounded c .n (whole q (abv sg mn ex) (-ex).toNat) 0 300 (Nat.le_trans (nb_whole q W) (by decide)) (by decide) (by decide) (by decide)
    rw [round_mgn q .n W, norm_few .n (by have := mgn_nb q W; omega)] at h
    exact h
  refine exsL_next (ex_for (fun i => [(Str.ofString "way", .str (if i = 0 then Rn.f.str else if i = 1 then Rn.c.str else Rn.n.str)), (Str.ofString "told", T4 (canon sg (mgn (if i = 0 then .f else if i = 1 then .c else .n) sg mn ex) 0))] ++ [(Str.ofString "below", .int (2 ^ (-ex).toNat)), (Str.ofString "above", .int (abv sg mn ex)), (Str.ofString "first", .int first), (Str.ofString "prec", .int (pn : Int)), (Str.ofString "rnd", .str r.str), (Str.ofString "t", T4 (tg, tm, te, (nb tm : Int))), (Str.ofString "s", T4 (sg, mn, ex, (nb mn : Int)))])
    (ds := [.tuple [T4 (canon sg (mgn .f sg mn ex) 0), .str Rn.f.str], .tuple [T4 (canon sg (mgn .c sg mn ex) 0), .str Rn.c.str], .tuple [T4 (canon sg (mgn .n sg mn ex) 0), .str Rn.n.str]])
    (ev_list (evs_cons (ev_tuple (evs_cons (ev_call (n_mpf_floor _) (k_mpf_floor _) (evs_cons (ev_local rfl) evs_nil) (f_floor1 c sg mn ex W) (by decide)) (evs_cons ev_str evs_nil)) (Nat.le_of_ble_eq_true rfl)) (evs_cons (ev_tuple (evs_cons (ev_call (n_mpf_ceil _) (k_mpf_ceil _) (evs_cons (ev_local rfl) evs_nil) (f_ceil1 c sg mn ex W) (by decide)) (evs_cons ev_str evs_nil)) (Nat.le_of_ble_eq_true rfl)) (evs_cons (ev_tuple (evs_cons (ev_call (n_mpf_nint _) (k_mpf_nint _) (evs_cons (ev_local rfl) evs_nil) (f_nint1 c sg mn ex W) (by decide)) (evs_cons ev_str evs_nil)) (Nat.le_of_ble_eq_true rfl)) evs_nil))) (Nat.le_of_ble_eq_true rfl)) (fun i d hd => ?_) (fun i d hd => ?_)) ?_
  · have hi : i < 3 := (List.getElem?_eq_some_iff.mp hd).1
    have h3 : i = 0 ∨ i = 1 ∨ i = 2 := by omega
    rcases h3 with rfl | rfl | rfl <;> (obtain rfl := Option.some.inj hd) <;> exact ⟨asgT_tup (asg_name (asg_name asg_nil)) rfl, _, rfl⟩
  · have hi : i < 3 := (List.getElem?_eq_some_iff.mp hd).1
    have h3 : i = 0 ∨ i = 1 ∨ i = 2 := by omega
    obtain ⟨q, hq⟩ : ∃ q : Rn, ([(Str.ofString "way", .str (if i = 0 then Rn.f.str else if i = 1 then Rn.c.str else Rn.n.str)), (Str.ofString "told", T4 (canon sg (mgn (if i = 0 then .f else if i = 1 then .c else .n) sg mn ex) 0))] : Rho) = [(Str.ofString "way", .str q.str), (Str.ofString "told", T4 (canon sg (mgn q sg mn ex) 0))] := by
      rcases h3 with rfl | rfl | rfl
      · exact ⟨.f, rfl⟩
      · exact ⟨.c, rfl⟩
      · exact ⟨.n, rfl⟩
    rw [hq]
    exact exs_next (ex_ifF (ts_eq (ts_cmp (ev_local rfl) (ev_call (n_law_rounded _) (k_law_rounded _) (evs_cons (ev_call (n_law_whole _) (k_law_whole _) (evs_cons (ev_local rfl) (evs_cons (ev_local rfl) (evs_cons (ev_local rfl) evs_nil))) (whl q) (by decide)) (evs_cons ev_int (evs_cons ev_int (evs_cons ev_str evs_nil)))) (rnd300 q) (by decide)) (Cmp.dataNe (shaped_T4 _) (shaped_T4 _))) (by rw [eqv_T4]; rfl)) exs_here) (exs_nil (by k_subL; all_goals rfl))
  -- floor, told a precision
  obtain ⟨few, hfew, hf1, hf2⟩ : ∃ few : Nat, 1 + (first.fdiv 40000).fmod 60 = (few : Int) ∧ 1 ≤ few ∧ few ≤ 60 := by
    have := fmod_range (first.fdiv 40000) (m := 60) (by decide)
    exact ⟨(1 + (first.fdiv 40000).fmod 60).toNat, by omega, by omega, by omega⟩
  refine exsL_next (ex_assign (d := .int (few : Int)) (ev_eq (ev_bin ev_int (ev_bin (ev_bin (ev_local rfl) ev_int (bin_div (by decide) (by decide))) ev_int (bin_mod (by decide))) (bin_add _ _)) (congrArg PyData.int hfew))) ?_
  have rfew : Fun c 1 190 [.int ((abv sg mn ex).fdiv (2 ^ (-ex).toNat)), .int 1, .int (few : Int), .str r.str] (T4 (norm sg (mgn .f sg mn ex) 0 few r)) := by
    have h := f_rounded c r (whole .f (abv sg mn ex) (-ex).toNat) 0 few (Nat.le_trans (nb_whole .f W) (by decide)) (by decide) hf1 (by omega)
    rw [round_mgn .f r W, whole_f] at h
    exact h
  refine exsL_next (ex_ifF (ts_eq (ts_cmp (ev_call (n_mpf_floor _) (k_mpf_floor _) (evs_cons (ev_local rfl) (evs_cons (ev_local rfl) (evs_cons (ev_local rfl) evs_nil))) (f_floor3 c r few (by omega) sg mn ex W) (by decide)) (ev_call (n_law_rounded _) (k_law_rounded _) (evs_cons (ev_bin (ev_local rfl) (ev_local rfl) (bin_div (by omega) hk9)) (evs_cons ev_int (evs_cons (ev_local rfl) (evs_cons (ev_local rfl) evs_nil)))) rfew (by decide)) (Cmp.dataNe (shaped_T4 _) (shaped_T4 _))) (by rw [eqv_T4]; rfl)) exs_here) ?_
  -- frac, rational
  have hR0 : 0 ≤ abv sg mn ex % 2 ^ (-ex).toNat := Int.emod_nonneg _ (by omega)
  have hR1 : abv sg mn ex % 2 ^ (-ex).toNat < 2 ^ (-ex).toNat := Int.emod_lt_of_pos _ hkp
  have hRb : nb (abv sg mn ex % 2 ^ (-ex).toNat) ≤ 100 := Nat.le_trans ((nb_le_iff hR0).mpr hR1) (by omega)
  have rfrac : Fun c 1 190 [.int ((abv sg mn ex).fmod (2 ^ (-ex).toNat)), .int (2 ^ (-ex).toNat), .int 300, .str (Str.ofString "n")] (T4 (canon 0 (abv sg mn ex % 2 ^ (-ex).toNat) (-((-ex).toNat : Int)))) := by
    have h := f_rounded c .n (abv sg mn ex % 2 ^ (-ex).toNat) (-ex).toNat 300 (by omega) (by omega) (by decide) (by decide)
    have e1 : sgOf (abv sg mn ex % 2 ^ (-ex).toNat) = 0 := if_neg (by omega)
    have e2 : absOf (abv sg mn ex % 2 ^ (-ex).toNat) = abv sg mn ex % 2 ^ (-ex).toNat := if_neg (by omega)
    rw [e1, e2, norm_few .n (by omega)] at h
    rw [fmod_p2]
    exact h
  refine exsL_next (ex_ifF (ts_eq (ts_bool (tsb_or (ts_cmp (ev_call (n_mpf_frac _) (k_mpf_frac _) (evs_cons (ev_local rfl) evs_nil) (f_frac c sg mn ex W) (by decide)) (ev_call (n_law_rounded _) (k_law_rounded _) (evs_cons (ev_bin (ev_local rfl) (ev_local rfl) (bin_mod (by omega))) (evs_cons (ev_local rfl) (evs_cons ev_int (evs_cons ev_str evs_nil)))) rfrac (by decide)) (Cmp.dataNe (shaped_T4 _) (shaped_T4 _))) (fun _ => tsb_or (ts_cmp (ev_call (n_to_rational _) (k_to_rational _) (evs_cons (ev_local rfl) evs_nil) (f_rational c sg mn ex W) (by decide)) (ev_tuple (evs_cons (ev_local rfl) (evs_cons (ev_local rfl) evs_nil)) (Nat.le_of_ble_eq_true rfl)) (Cmp.dataNe rfl rfl)) (fun _ => tsb_or_nil)))) (by rw [eqv_T4]; simp [PyData.eqv, PyData.eqvAll])) exs_here) ?_
  -- to_man_exp
  refine exsL_next (ex_ifF (ts_eq (ts_bool (tsb_or (ts_cmp (ev_call (n_to_man_exp _) (k_to_man_exp _) (evs_cons (ev_local rfl) (evs_cons ev_bool evs_nil)) (f_man_exp2 c sg mn ex W) (by decide)) (ev_tuple (evs_cons (ev_iteI (ts_cmp (ev_item (i := 0) (ev_local rfl) ev_int rfl (by decide)) ev_int (Cmp.int (cmp_eq _ _))) (fun _ => ev_neg (ev_item (i := 1) (ev_local rfl) ev_int rfl (by decide))) (fun _ => ev_item (i := 1) (ev_local rfl) ev_int rfl (by decide))) (evs_cons (ev_item (i := 2) (ev_local rfl) ev_int rfl (by decide)) evs_nil)) (Nat.le_of_ble_eq_true rfl)) (Cmp.dataNe rfl rfl)) (fun _ => tsb_or (ts_cmp (ev_call (n_to_man_exp _) (k_to_man_exp _) (evs_cons (ev_local rfl) evs_nil) (f_man_exp c sg mn ex W) (by decide)) (ev_tuple (evs_cons (ev_item (i := 1) (ev_local rfl) ev_int rfl (by decide)) (evs_cons (ev_item (i := 2) (ev_local rfl) ev_int rfl (by decide)) evs_nil)) (Nat.le_of_ble_eq_true rfl)) (Cmp.dataNe rfl rfl)) (fun _ => tsb_or_nil)))) (by simp [PyData.eqv, PyData.eqvAll, sgn])) exs_here) ?_
  -- to_fixed, mod
  have hm1 : IntMulOk (abv sg mn ex) (2 ^ ((few : Int)).toNat) := by
    have := nb_p2 few
    refine IntMulOk.of_bits ?_ ?_
    · unfold nb at hA
      omega
    · rw [Int.toNat_natCast]
      unfold nb at this
      omega
  refine exsL_next (ex_ifF (ts_eq (ts_bool (tsb_or (ts_cmp (ev_call (n_to_fixed _) (k_to_fixed _) (evs_cons (ev_local rfl) (evs_cons (ev_local rfl) evs_nil)) (f_fixed c sg mn ex W few (by omega)) (by decide)) (ev_bin (ev_bin (ev_local rfl) (ev_bin (x := 2) (y := (few : Int)) ev_int (ev_local rfl) (bin_pow (by omega) ?_)) (bin_mul hm1)) (ev_local rfl) (bin_div (by omega) hk9)) (Cmp.int (cmp_ne _ _))) (fun _ => tsb_or (ts_not (ts_boolv (ev_call (n_law_mod_right _) (k_law_mod_right _) (evs_cons (ev_local rfl) (evs_cons (ev_local rfl) (evs_cons (ev_local rfl) (evs_cons (ev_local rfl) evs_nil)))) (f_mod_right c r sg mn ex W tg tm te V pn hp1 (by omega)) (by decide)))) (fun _ => tsb_or_nil)))) ?_) exs_here) ?_
  · have : Builtin.Int.intBits 2 = 2 := rfl
    rw [this]
    omega
  · rw [fdiv_p2, Int.toNat_natCast]
    simp
  exact exsL_last (n_law_others_right _) (k_law_others_right _) hO (by decide) low

theorem repL_ints {c : Ctx} {news : Led} : ∀ {vs : List Value} {ns : List Int}, IntsAre vs ns → RepL c news vs (ns.map PyData.int)
  | _, _, .nil => .nil
  | _, _, .cons n t h => .cons (.int n t) (repL_ints h)

theorem law_run {w : World} {base : Heap} {sl : Addr} {svs : List Value} {ns : List Int} {p : Program} {loose : List Str} {mean : ExcName → Option Value} {mg mb : Str → Option Value} {cn : Str} {a L : Addr} {ccd : Value} {s : Shared} {Q : Flow → Shared → Prop} {E : Value → Shared → Prop}
    {name qual : Str} {params : Arguments} {body : List Stmt} {scope : Scope} {dV kV doc pm cdv ct oc : Value} {an od : Option Addr} {osl : Array (Option Value)} (ho : (Kf w).lookup 223 = some ⟨oc, od, .func (fnOf name qual params body scope dV kV doc pm an cdv ct), osl⟩)
    (hO : ∀ c : Ctx, FunL c 11 209 true)
    (K0 : Below callerA base [] base) (X : (Kf w).In base) (T : Top p loose mean mg mb base) (hL : base.IsList sl svs.toArray) (hI : IntsAre svs ns) (hlen : ns.length ≤ 100) (hk : scope.kind = .function) (F : Fr base L s.heap (fun x => List.lookup x [(Str.ofString "script", .ref sl)])) (N : News base L s.heap [])
    (h : ∀ h' tk' m, Fr base L h' m → Q (.ret (.bool true)) { s with heap := h', toks := tk' }) :
    wpAny (model Pg w) (callerA.deeper (envOf cn scope L a ccd)) (execs body (envOf cn scope L a ccd)) Q E s := by
  let c : Ctx := ⟨w, sl, svs⟩
  let Γ : Frm c 12 cn scope a ccd := ⟨302, 7, (callerA.deeper (envOf cn scope L a ccd)).guards, L, [], callerA, base, base, p, loose, mean, mg, mb, K0, X, T, hk, hL, by decide, by decide⟩
  have hlaw := (law_ok c ns hlen (hO c)).run _ _ _ _ _ _ _ _ _ _ _ _ _ _ _ ho cn a ccd Γ ⟨rfl, rfl, rfl, X, T⟩
  refine hlaw.run Q E s [] ⟨⟨_, F, ?_⟩, N⟩ h
  exact Side.loc (.cons (.lst (.inl ⟨rfl, rfl⟩) (repL_ints hI)) .nil)

/-- a call out of a frame that may have cells -/
structure FunK (c : Ctx) (k : Nat) (f : Addr) (ds : List PyData) (out : PyData) : Prop where
  run : ∀ (cn : Str) (cs : Scope) (a : Addr) (ccd : Value) (cl : List (Str × Addr)) (Γ : Frm c k cn cs a ccd) (Q : Value → Shared → Prop) (E : Value → Shared → Prop) (s : Shared) (m : Str → Option Value) (news : Led) (vs : List Value),
    Fr Γ.g Γ.L s.heap m → News Γ.g Γ.L s.heap news → RepL c news vs ds →
    (∀ v news' h' tk', Fr Γ.g Γ.L h' m → News Γ.g Γ.L h' news' → (∀ p ∈ news, p ∈ news') → Rep c news' v out → Q v { s with heap := h', toks := tk' }) →
    wpAny (model Pg c.w) (ktrTop Γ.dp Γ.un Γ.gd cn cs Γ.L a ccd cl Γ.outer) (call (.ref f) vs) Q E s
theorem funK_of {c : Ctx} {k : Nat} {f : Addr} {ds dds : List PyData} {out : PyData} {name qual : Str} {params : Arguments} {body : List Stmt} {scope : Scope} {dV kV doc pm cdv ct oc : Value} {an od : Option Addr} {osl : Array (Option Value)} (ns : List Str) (dvs : List Value)
    (ho : (Kf c.w).lookup f = some ⟨oc, od, .func (fnOf name qual params body scope dV kV doc pm an cdv ct), osl⟩) (hcd : codeIn (Kf c.w) cdv qual = true)
    (hd : RepL c [] dvs dds)
    (hbind : ∀ (s : Shared) (vs : List Value), vs.length = ds.length → (Kf c.w).In s.heap → BindsTo s (fnOf name qual params body scope dV kV doc pm an cdv ct) ⟨vs, []⟩ (ns.zip (vs ++ dvs)))
    (hloc : ∀ x ∈ ns, scope.names.lookup x = some .local)
    (hb : ∀ Γ : Frm c k qual scope f cdv, Exs Γ (ns.zip (ds ++ dds)).reverse body (.ret out))
    (hco : scope.isCoroutine = false) (hgen : scope.isGenerator = false) (hk : scope.kind = .function) (hcell : ∀ x ∈ scope.names, x.2 ≠ .cell) : FunK c (k + 1) f ds out := by
  refine ⟨fun cn cs a ccd cl Γ Q E s m news vs F N R h => ?_⟩
  refine wpAny_call ?_
  refine code_def (binds := ns.zip (vs ++ dvs)) Γ.below F Γ.inK N Γ.top rfl rfl Γ.isFn ho hcd ?_ ?_ ?_ ?_ hco hgen hk hcell
  · have := Γ.room
    show Γ.dp < recursionLimit
    omega
  · exact hbind s vs R.length (Γ.inK.keeps F.keep)
  · intro y hy
    exact hloc _ (List.of_mem_zip hy).1
  · intro g L' h₁ FG F' N' B' X' T'
    let A := ktrTop Γ.dp Γ.un Γ.gd cn cs Γ.L a ccd cl Γ.outer
    let Γ' : Frm c k qual scope f cdv := ⟨Γ.dp + 1, Γ.un + 3, (A.deeper (envOf qual scope L' f cdv)).guards, L', envX cn cs Γ.L a ccd cl :: Γ.outer, A, Γ.base, g, Γ.p, Γ.loose, Γ.mean, Γ.mg, Γ.mb, B', X', T', hk, Γ.scr, by have := Γ.room; omega, by have := Γ.units; omega⟩
    have hat : At Γ' (ns.zip (ds ++ dds)).reverse news h₁ := ⟨⟨_, F', (Side.zip ns (R.append (hd.mono fun p hp => absurd hp List.not_mem_nil))).reverse.loc⟩, N'⟩
    refine (hb Γ').run _ _ _ _ hat fun fl news' h' tk' hok hs => ?_
    obtain ⟨v, rfl, ⟨m', F2⟩, N2, r⟩ := hok
    exact ⟨L', m', news', F2, N2, fun F3 N3 => h v news' h' tk' F3 N3 hs r⟩

set_option maxHeartbeats 1000000 in
/-- what is not finite, rounded, is itself -/
theorem x_round_int (c : Ctx) (r : Rn) (sg ex bc : Int) (h : ex ≠ 0) : Fun c 5 76 [T4 (sg, 0, ex, bc), .str r.str] (T4 (sg, 0, ex, bc)) := by
  refine fun_of (k := 4) (dds := []) [Str.ofString "s", Str.ofString "rnd"] [] rfl rfl .nil ?_ ?_ ?_ rfl rfl rfl ?_
  · intro s vs hl X
    match vs, hl with
    | [v1, v2], _ => exact BindsTo.of_eq rfl
  · decide
  · intro Γ
    refine' exs_next (ex_unpack ?t1 ?l1 ?o1) (exs_ret (ex_ifT (ts_eq ?t2 ?ze2) (exs_ret (ex_ret ?zv) rfl)) rfl)
    case t1 => k_updF
    case l1 => k_updF
    case o1 => k_updF
    case t2 => k_updF
    case ze2 => simp [h]
    case zv => exact ev_local rfl
  · decide
set_option maxHeartbeats 1000000 in
theorem x_pos (c : Ctx) (r : Rn) (sg ex bc prec : Int) (h : ex ≠ 0) (hp : 1 ≤ prec) : Fun c 4 130 [T4 (sg, 0, ex, bc), .int prec, .str r.str] (T4 (sg, 0, ex, bc)) := by
  refine fun_of (k := 3) [Str.ofString "s", Str.ofString "prec", Str.ofString "rnd"] [] rfl rfl .nil ?_ ?_ ?_ rfl rfl rfl ?_
  · intro s vs hl X
    match vs, hl with
    | [v1, v2, v3], _ => exact binds_K X rfl rfl rfl rfl rfl
  · decide
  · intro Γ
    refine' exs_ret (ex_ifT (ts_eq ?t ?e) (exs_next (ex_unpack ?t1 ?l1 ?o1) (exs_ret (ex_ifT (ts_eq ?t2 ?e2) (exs_ret (ex_ret ?zv) rfl)) rfl))) rfl
    case t => k_updF
    case e => simp; omega
    case t1 => k_updF
    case l1 => k_updF
    case o1 => k_updF
    case t2 => k_updF
    case e2 => simp [h]
    case zv => exact ev_local rfl
  · decide
set_option maxHeartbeats 1000000 in
theorem x_floor (c : Ctx) (sg ex bc : Int) (h : ex ≠ 0) : FunK c 6 84 [T4 (sg, 0, ex, bc)] (T4 (sg, 0, ex, bc)) := by
  refine funK_of (k := 5) (dds := [.int 0, .str Rn.d.str]) [Str.ofString "s", Str.ofString "prec", Str.ofString "rnd"] [.int 0 329, .str (Str.ofString "d") 210] rfl rfl (.cons (.int _ _) (.cons (.str _ _) .nil)) ?_ ?_ ?_ rfl rfl rfl ?_
  · intro s vs hl X
    match vs, hl with
    | [v1], _ => exact binds_K X rfl rfl rfl rfl rfl
  · decide
  · intro Γ
    refine' exs_next (ex_assign (ev_call (n_mpf_round_int _) (k_mpf_round_int _) ?zt (x_round_int c .f sg ex bc h) (by decide))) (exs_next (ex_ifF (ts_eq ?zt1 ?ze) exs_here) (exs_ret (ex_ret (ev_local rfl)) rfl))
    case zt => k_updF
    case zt1 => k_updF
    case ze => rfl
  · decide
set_option maxHeartbeats 1000000 in
theorem x_ceil (c : Ctx) (sg ex bc : Int) (h : ex ≠ 0) : FunK c 6 92 [T4 (sg, 0, ex, bc), .int 9, .str Rn.n.str] (T4 (sg, 0, ex, bc)) := by
  refine funK_of (k := 5) (dds := []) [Str.ofString "s", Str.ofString "prec", Str.ofString "rnd"] [] rfl rfl .nil ?_ ?_ ?_ rfl rfl rfl ?_
  · intro s vs hl X
    match vs, hl with
    | [v1, v2, v3], _ => exact binds_K X rfl rfl rfl rfl rfl
  · decide
  · intro Γ
    refine' exs_next (ex_assign (ev_call (n_mpf_round_int _) (k_mpf_round_int _) ?zt (x_round_int c .c sg ex bc h) (by decide))) (exs_next (ex_ifT (ts_eq ?zt1 ?ze) (exs_next (ex_assign (ev_call (n_mpf_pos _) (k_mpf_pos _) ?zt2 (x_pos c .n sg ex bc 9 h (by decide)) (by decide))) exs_here)) (exs_ret (ex_ret (ev_local rfl)) rfl))
    case zt => k_updF
    case zt1 => k_updF
    case ze => rfl
    case zt2 => k_updF
  · decide
set_option maxHeartbeats 1000000 in
theorem x_nint (c : Ctx) (sg ex bc : Int) (h : ex ≠ 0) : FunK c 6 100 [T4 (sg, 0, ex, bc)] (T4 (sg, 0, ex, bc)) := by
  refine funK_of (k := 5) (dds := [.int 0, .str Rn.d.str]) [Str.ofString "s", Str.ofString "prec", Str.ofString "rnd"] [.int 0 351, .str (Str.ofString "d") 210] rfl rfl (.cons (.int _ _) (.cons (.str _ _) .nil)) ?_ ?_ ?_ rfl rfl rfl ?_
  · intro s vs hl X
    match vs, hl with
    | [v1], _ => exact binds_K X rfl rfl rfl rfl rfl
  · decide
  · intro Γ
    refine' exs_next (ex_assign (ev_call (n_mpf_round_int _) (k_mpf_round_int _) ?zt (x_round_int c .n sg ex bc h) (by decide))) (exs_next (ex_ifF (ts_eq ?zt1 ?ze) exs_here) (exs_ret (ex_ret (ev_local rfl)) rfl))
    case zt => k_updF
    case zt1 => k_updF
    case ze => rfl
  · decide

theorem eqv_T4H (x : Int × Int × Int × Int) : PyData.eqv (T4 x) (T4 x) = true := by simp [T4, PyData.eqv, PyData.eqvAll]
abbrev scF : Scope := { kind := .function, names := [(Str.ofString ".0", .local), (Str.ofString "s", .local), (Str.ofString "mpf_floor", .globalImplicit), (Str.ofString "mpf_ceil", .globalImplicit), (Str.ofString "mpf_nint", .globalImplicit)], isGenerator := false, isCoroutine := false }
section
variable {c : Ctx} {Γ : Frm c 6 (Str.ofString "_law_others_right") scO 209 (.ref 208)} {s : Shared} {m : Str → Option Value} {Q E : Value → Shared → Prop}
abbrev AG (Γ : Frm c 6 (Str.ofString "_law_others_right") scO 209 (.ref 208)) : Around := ktrTop Γ.dp Γ.un Γ.gd (Str.ofString "_law_others_right") scO Γ.L 209 (.ref 208) (clO Γ.L) Γ.outer
abbrev envF (Γ : Frm c 6 (Str.ofString "_law_others_right") scO 209 (.ref 208)) (C : Addr) : Env := compEnvC scF [] C (envO Γ.L)

theorem callF {fn : Str} {fa C : Addr} {oC : Obj} {mC : Str → Option Value} {Kq : Led} {x : Int × Int × Int × Int} {D : Addr} {ds : List PyData} {e : Expr} {es : List Expr} {p1 p2 p3 p4 : Pos} (hn : nsIn (Kf c.w) mainGlobals fn = some (some (.ref fa))) (hkp : keepIn (Kf c.w) (.ref fa) = true) (hf : FunK c 6 fa ds (T4 x))
    (hkind : (envF Γ C).kindOf fn = some .globalImplicit) (hd : (fn == ("__debug__" : Str)) = false) (he : starEach (e :: es) (envF Γ C) = (false, eval e (envF Γ C)) :: starEach es (envF Γ C)) (hplain : (backTo p4 (starEach es (envF Γ C))).any (·.1) = false)
    (hC : LCg.NsObj oC mC) (hs : mC (Str.ofString "s") = some (.ref D)) (hCm : (C, oC) ∈ Kq) (hD : Rep c Kq (.ref D) (T4 x)) (F : Fr Γ.g Γ.L s.heap m) (N : News Γ.g Γ.L s.heap Kq)
    (hargs : ∀ (Q : List Value → Shared → Prop) (E : Value → Shared → Prop) (s : Shared), News Γ.g Γ.L s.heap Kq → (∀ vs tk, RepL c Kq vs ds → Q vs { s with toks := tk }) → wpAny (model Pg c.w) (AG Γ) (spliced (backTo p4 (starEach (e :: es) (envF Γ C)))) Q E s)
    (h : ∀ h' tk' news', Fr Γ.g Γ.L h' m → News Γ.g Γ.L h' news' → (∀ p ∈ Kq, p ∈ news') → Q (.bool true) { s with heap := h', toks := tk' }) :
    wpAny (model Pg c.w) (AG Γ) (eval (.Compare (.Call (.Name fn p1) (e :: es) [] p4) [.Eq] [.Name (Str.ofString "s") p2] p3) (envF Γ C)) Q E s := by
  refine wpAny_Compare1 ?_ (by with_unfolding_all rfl)
  refine Call_ (Name_function_global rfl hkind (loadGlobal_global (env := envF Γ C) ((topRead_of Γ.top).g.keeps F.keep) (mg_of Γ.inK (topRead_of Γ.top).g hn) ?_) hd) rfl
  refine callWith_K Γ.inK hkp ?_ he hplain
  refine hargs _ _ _ N fun vs tk hr => ?_
  refine ⟨Γ.inK.keeps F.keep, ?_⟩
  refine hf.run _ _ _ _ (clO Γ.L) Γ _ _ _ _ _ _ F N hr fun v news' h' tk' F' N' s2 r2 => ?_
  refine wpAny_Name (wpAny_loadName_local rfl rfl (hC.ns (N' _ (s2 _ hCm)).1) hs ?_) (by decide)
  obtain ⟨as, g1⟩ := r2.reads Γ.inK Γ.scr Γ.below.stays F' N'
  obtain ⟨bs, g2⟩ := (hD.mono s2).reads Γ.inK Γ.scr Γ.below.stays F' N'
  refine eq_dataH g1 g2 rfl rfl (by have := Γ.units; show Γ.un + 64 < cLine; omega) ?_
  rw [eqv_T4H]
  exact h h' tk' news' F' N' s2

theorem elF {C : Addr} {oC : Obj} {mC : Str → Option Value} {Kq : Led} {sg ex bc : Int} {D : Addr} {q1 q2 q3 q4 q5 q6 q7 q8 q9 q10 q11 q12 q13 q14 q15 q16 q17 q18 : Pos} {n1 n2 : Nat} (h0 : ex ≠ 0)
    (hC : LCg.NsObj oC mC) (hs : mC (Str.ofString "s") = some (.ref D)) (hCm : (C, oC) ∈ Kq) (hD : Rep c Kq (.ref D) (T4 (sg, 0, ex, bc))) (F : Fr Γ.g Γ.L s.heap m) (N : News Γ.g Γ.L s.heap Kq)
    (h : ∀ h' tk' news', Fr Γ.g Γ.L h' m → News Γ.g Γ.L h' news' → (∀ p ∈ Kq, p ∈ news') → Q (.bool true) { s with heap := h', toks := tk' }) :
    wpAny (model Pg c.w) (AG Γ) (eval (.BoolOp .And [.Compare (.Call (.Name (Str.ofString "mpf_floor") q1) [.Name (Str.ofString "s") q2] [] q3) [.Eq] [.Name (Str.ofString "s") q4] q5,
      .Compare (.Call (.Name (Str.ofString "mpf_ceil") q6) [.Name (Str.ofString "s") q7, .Constant (.int 9) n1 q8, .Constant (.str (Str.ofString "n")) n2 q9] [] q10) [.Eq] [.Name (Str.ofString "s") q11] q12,
      .Compare (.Call (.Name (Str.ofString "mpf_nint") q13) [.Name (Str.ofString "s") q14] [] q15) [.Eq] [.Name (Str.ofString "s") q16] q17] q18) (envF Γ C)) Q E s := by
  refine BoolOp_and (callF (n_mpf_floor c.w) (k_mpf_floor c.w) (x_floor c sg ex bc h0) rfl (by decide) rfl rfl hC hs hCm hD F N ?_ fun h1 t1 k1 F1 N1 s1 => ?_)
  · intro Q E s N hq
    refine args_cons (wpAny_Name (wpAny_loadName_local rfl rfl (hC.ns (N _ hCm).1) hs ?_) (by decide)) rfl
    exact args_nil (hq _ _ (.cons hD .nil))
  refine wpAny_truthy_bool ((if_pos rfl).mpr ?_)
  refine BoolOp_and (callF (n_mpf_ceil c.w) (k_mpf_ceil c.w) (x_ceil c sg ex bc h0) rfl (by decide) rfl rfl hC hs (s1 _ hCm) (hD.mono s1) F1 N1 ?_ fun h2 t2 k2 F2 N2 s2 => ?_)
  · intro Q E s N hq
    refine args_cons (wpAny_Name (wpAny_loadName_local rfl rfl (hC.ns (N _ (s1 _ hCm)).1) hs ?_) (by decide)) rfl
    refine args_cons (wpAny_Constant_int ?_) rfl
    refine args_cons (wpAny_Constant_str ?_) rfl
    exact args_nil (hq _ _ (.cons (hD.mono s1) (.cons (.int _ _) (.cons (.str _ _) .nil))))
  refine wpAny_truthy_bool ((if_pos rfl).mpr ?_)
  refine BoolOp_one (callF (n_mpf_nint c.w) (k_mpf_nint c.w) (x_nint c sg ex bc h0) rfl (by decide) rfl rfl hC hs (s2 _ (s1 _ hCm)) ((hD.mono s1).mono s2) F2 N2 ?_ fun h3 t3 k3 F3 N3 s3 => h h3 t3 k3 F3 N3 fun p hp => s3 p (s2 p (s1 p hp)))
  intro Q E s N hq
  refine args_cons (wpAny_Name (wpAny_loadName_local rfl rfl (hC.ns (N _ (s2 _ (s1 _ hCm))).1) hs ?_) (by decide)) rfl
  exact args_nil (hq _ _ (.cons ((hD.mono s1).mono s2) .nil))
end

theorem clos_F (L : Addr) : closureFor scF (envO L) = pure [] := by rfl
section
variable {c : Ctx} {Γ : Frm c 6 (Str.ofString "_law_others_right") scO 209 (.ref 208)} {s : Shared} {m : Str → Option Value} {Q E : Value → Shared → Prop}
theorem ret_all {Kp : Led} {D1 D2 D3 : Addr} {a1 a2 a3 a4 b1 b2 b3 b4 c1 c2 c3 c4 : Tok} {q1 q2 q3 q4 q5 q6 q7 q8 q9 q10 q11 q12 q13 q14 q15 q16 q17 q18 r1 r2 r3 r4 r5 r6 r7 r8 : Pos} {n1 n2 : Nat}
    (F : Fr Γ.g Γ.L s.heap m) (N : News Γ.g Γ.L s.heap Kp) (M : Nm Γ.L Kp (D1, tupO 0 0 (-456) (-2) a1 a2 a3 a4) (D2, tupO 1 0 (-789) (-3) b1 b2 b3 b4) (D3, tupO 0 0 (-123) (-1) c1 c2 c3 c4))
    (h : ∀ h' tk', Fr Γ.g Γ.L h' m → News Γ.g Γ.L h' Kp → Q (.bool true) { s with heap := h', toks := tk' }) :
    wpAny (model Pg c.w) (AG Γ) (eval (.Call (.Name (Str.ofString "all") r1) [.ListComp (.BoolOp .And [.Compare (.Call (.Name (Str.ofString "mpf_floor") q1) [.Name (Str.ofString "s") q2] [] q3) [.Eq] [.Name (Str.ofString "s") q4] q5,
      .Compare (.Call (.Name (Str.ofString "mpf_ceil") q6) [.Name (Str.ofString "s") q7, .Constant (.int 9) n1 q8, .Constant (.str (Str.ofString "n")) n2 q9] [] q10) [.Eq] [.Name (Str.ofString "s") q11] q12,
      .Compare (.Call (.Name (Str.ofString "mpf_nint") q13) [.Name (Str.ofString "s") q14] [] q15) [.Eq] [.Name (Str.ofString "s") q16] q17] q18)
      [⟨.Name (Str.ofString "s") r2, .List [.Name (Str.ofString "great") r3, .Name (Str.ofString "less") r4, .Name (Str.ofString "none") r5] r6, [], 0⟩] scF r7] [] r8) (envO Γ.L)) Q E s := by
  obtain ⟨o1, hm1, hd1⟩ := M.c1
  obtain ⟨o2, hm2, hd2⟩ := M.c2
  obtain ⟨o3, hm3, hd3⟩ := M.c3
  refine Call_ (Name_function_global rfl rfl (loadGlobal_builtin (env := envO Γ.L) ((topRead_of Γ.top).g.keeps F.keep) (mg_none_of Γ.inK (topRead_of Γ.top).g (by rfl)) ((topRead_of Γ.top).b.keeps F.keep) (((topRead_of Γ.top).builtins _ (by decide)).trans boot_all) ?_) (by decide)) rfl
  refine callWith_method1 ?_ rfl rfl
  refine args_cons ?_ rfl
  refine LCg.ListComp_U F (clos_F Γ.L) (by decide) rfl (by decide) rfl (list3 F N hm1 hd1 rfl rfl (by decide) hm2 hd2 rfl rfl (by decide) hm3 hd3 rfl rfl (by decide) rfl fun lx h₁ F₁ N₁ hne => ?_) (fun _ => rfl)
  refine .inl ⟨lx, #[.ref D1, .ref D2, .ref D3], _, rfl, rfl, F₁, N₁, .inr ⟨_, .head _, rfl, _, rfl⟩, (show 3 ≤ sizeLine by decide +kernel), fun s₂ hs₂ => ?_⟩
  obtain ⟨h₂, rfl⟩ := hs₂
  refine LCg.CompRest.succ fun v I oI C oC D m₂ h₃ tk₃ E' hP hoC hm F₃ N₃ o3 hd => ?_
  have hv : v = .ref D1 := by simpa using hP.symm
  refine elF (c := c) (Γ := Γ) (sg := 0) (ex := (-456)) (bc := (-2)) (by decide) hoC (hv ▸ hm) (.tail _ (.head _)) (.tup (vs := [.int 0 a1, .int 0 a2, .int (-456) a3, .int (-2) a4]) (.inr ⟨_, .tail _ (.tail _ (.tail _ (.tail _ M.m1)))⟩) (.cons (.int _ _) (.cons (.int _ _) (.cons (.int _ _) (.cons (.int _ _) .nil))))) F₃ N₃ fun h' tk' news' F' N' hs => LCg.CompEnd.intro F' N' ((lx, lst0 [.ref D1, .ref D2, .ref D3]) :: Kp) (fun p hp => hs p hp) o3 (.inr ⟨_, .head _, rfl, _, rfl⟩) ?_
  clear hP hoC hm F₃ N₃ o3 hd hv F' N' hs
  refine LCg.CompRest.succ fun v I oI C oC D m₂ h₃ tk₃ E' hP hoC hm F₃ N₃ o3 hd => ?_
  have hv : v = .ref D2 := by simpa using hP.symm
  refine elF (c := c) (Γ := Γ) (sg := 1) (ex := (-789)) (bc := (-3)) (by decide) hoC (hv ▸ hm) (.tail _ (.head _)) (.tup (vs := [.int 1 b1, .int 0 b2, .int (-789) b3, .int (-3) b4]) (.inr ⟨_, .tail _ (.tail _ (.tail _ (.tail _ M.m2)))⟩) (.cons (.int _ _) (.cons (.int _ _) (.cons (.int _ _) (.cons (.int _ _) .nil))))) F₃ N₃ fun h' tk' news' F' N' hs => LCg.CompEnd.intro F' N' ((lx, lst0 [.ref D1, .ref D2, .ref D3]) :: Kp) (fun p hp => hs p hp) o3 (.inr ⟨_, .head _, rfl, _, rfl⟩) ?_
  clear hP hoC hm F₃ N₃ o3 hd hv F' N' hs
  refine LCg.CompRest.succ fun v I oI C oC D m₂ h₃ tk₃ E' hP hoC hm F₃ N₃ o3 hd => ?_
  have hv : v = .ref D3 := by simpa using hP.symm
  refine elF (c := c) (Γ := Γ) (sg := 0) (ex := (-123)) (bc := (-1)) (by decide) hoC (hv ▸ hm) (.tail _ (.head _)) (.tup (vs := [.int 0 c1, .int 0 c2, .int (-123) c3, .int (-1) c4]) (.inr ⟨_, .tail _ (.tail _ (.tail _ (.tail _ M.m3)))⟩) (.cons (.int _ _) (.cons (.int _ _) (.cons (.int _ _) (.cons (.int _ _) .nil))))) F₃ N₃ fun h' tk' news' F' N' hs => LCg.CompEnd.intro F' N' ((lx, lst0 [.ref D1, .ref D2, .ref D3]) :: Kp) (fun p hp => hs p hp) o3 (.inr ⟨_, .head _, rfl, _, rfl⟩) ?_
  clear hP hoC hm F₃ N₃ o3 hd hv F' N' hs
  refine LCg.CompRest.zero ?_
  intro D h₃ tk₃ F₃ N₃ o1
  refine args_nil ?_
  refine LSm.all_bools (bs := [true, true, true]) F₃ N₃ rfl ⟨_, (N₃ _ (.head _)).1, rfl, _, rfl⟩ (.cons true (.cons true (.cons true .nil))) fun h' tk F' N' => ?_
  exact h h' tk F' fun p hp => N' p (.tail _ (.tail _ hp))
end

end
set_option maxHeartbeats 8000000 in
theorem others (w : World) : ∀ {gd : Option (List Code)} {cn : Str} {cs : Scope} {a : Addr} {ccd : Value} {A₀ : Around} {base h₀ : Heap} {L : Addr} {m : Str → Option Value} {p : Program} {loose : List Str} {mean : ExcName → Option Value} {mg mb : Str → Option Value} {s : Shared} {sl : Addr} {svs : List Value},
    base.IsList sl svs.toArray → Below A₀ base [] h₀ → Fr h₀ L s.heap m → (Mine.hd.heap_39 w.params).In h₀ → (Mine.hd.heap_39 w.params).In base → Top p loose mean mg mb base → News h₀ L s.heap [] → Top p loose mean mg mb h₀ → cs.kind = .function → ∀ {Q E : Value → Shared → Prop},
    (∀ (h' : Heap) (tk' : Nat), Fr h₀ L h' m → Q (.bool true) { s with heap := h', toks := tk' }) →
    wpAny (model PySem.Challenge.rw_ah5008_01.row.prog w) (ktrTop 302 7 gd cn cs L a ccd [] []) (call (.ref 209) []) Q E s := by
  k_fill
  intro gd cn cs a ccd A₀ base h₀ L m p loose mean mg mb s sl svs hscr B F X XB TB N T hcs Q E hret
  have KD : KtsDicts (([] : List Env).filterMap (·.frame)) h₀ := ktsDicts_nil
  refine wpAny_call ?_
  k_dflt (refine' code_defCT ?k1 ?k2 ?k3 ?k4 ?k5 ?XB ?TB ?D ?kA ?kF ?kK ?k6 ?k7 ?k8 ?k9 ?kB ?kD ?_ ?c2 ?c3 ?c4; (case kA => exact rfl); (case kF => exact rfl); (case kK => assumption); (case k1 => k_asm); (case k2 => k_asm); (case k3 => k_asm); (case k4 => k_asm); (case k5 => k_asm); (case XB => assumption); (case TB => assumption); (case D => assumption); (case k6 => k_is); (case k7 => k_is); (case k8 => ktr_room); (case k9 => exact BindsTo.of_eq rfl); (case kB => exact rfl); (case kD => decide +kernel); (case c2 => exact rfl); (case c3 => exact rfl); (case c4 => exact rfl); k_whole)
  intro g' L' h' tk' cells' FG' F' N' Y' B' X' T' D' l1
  (try k_lt l1)
  k_cells Y'
  (try simp only [List.cons_append, List.nil_append] at N')
  (try dsimp only)
  (try k_lift B')
  (try k_fold)
  clear KD FG'
  obtain ⟨mO, F'⟩ : ∃ mO, Fr g' L' h' mO := ⟨_, F'⟩
  obtain ⟨Mid, hMid⟩ : ∃ Mid : Flow → Shared → Prop, Mid = fun f s' => f = .next ∧ ∃ (h1 : Heap) (tk1 : Nat) (Kp : Led) (D1 D2 D3 : Addr) (a1 a2 a3 a4 b1 b2 b3 b4 c1 c2 c3 c4 : Tok), s' = { s with heap := h1, toks := tk1 } ∧ Fr g' L' h1 mO ∧ News g' L' h1 Kp ∧
    Nm L' Kp (D1, tupO 0 0 (-456) (-2) a1 a2 a3 a4) (D2, tupO 1 0 (-789) (-3) b1 b2 b3 b4) (D3, tupO 0 0 (-123) (-1) c1 c2 c3 c4) := ⟨_, rfl⟩
  have hmk : ∀ {h1 : Heap} {tk1 : Nat} {Kp : Led} {D1 D2 D3 : Addr} {a1 a2 a3 a4 b1 b2 b3 b4 c1 c2 c3 c4 : Tok} {x1 x2 x3 : Obj}, Fr g' L' h1 mO → News g' L' h1 Kp → (L' + 1, x1) ∈ Kp → x1.data = .cell (some (.ref D1)) → (L' + 1 + 1, x2) ∈ Kp → x2.data = .cell (some (.ref D2)) → (L' + 1 + 1 + 1, x3) ∈ Kp → x3.data = .cell (some (.ref D3)) →
      (D1, tupO 0 0 (-456) (-2) a1 a2 a3 a4) ∈ Kp → (D2, tupO 1 0 (-789) (-3) b1 b2 b3 b4) ∈ Kp → (D3, tupO 0 0 (-123) (-1) c1 c2 c3 c4) ∈ Kp → Mid .next { s with heap := h1, toks := tk1 } := by
    intro h1 tk1 Kp D1 D2 D3 a1 a2 a3 a4 b1 b2 b3 b4 c1 c2 c3 c4 x1 x2 x3 F N e1 d1 e2 d2 e3 d3 m1 m2 m3
    rw [hMid]
    exact ⟨rfl, h1, tk1, Kp, D1, D2, D3, a1, a2, a3, a4, b1, b2, b3, b4, c1, c2, c3, c4, rfl, F, N, ⟨m1, m2, m3, ⟨_, e1, d1⟩, ⟨_, e2, d2⟩, ⟨_, e3, d3⟩⟩⟩
  refine wpAny_execs_cons (wpAny_mono (Q := Mid) ?st1 ?rest fun _ _ h => h)
  case st1 =>
    clear hret hMid
    k_steps
    apply hmk
    · assumption
    · assumption
    · k_mem
    · assumption
    · k_mem
    · assumption
    · k_mem
    · assumption
    · k_mem
    · k_mem
    · k_mem
  case rest =>
    intro f s' hm
    rw [hMid] at hm
    obtain ⟨rfl, h1, tk1, Kp, D1, D2, D3, a1, a2, a3, a4, b1, b2, b3, b4, c1, c2, c3, c4, rfl, F1, N1, M⟩ := hm
    clear hmk hMid Mid
    refine wpAny_execs_cons (if_c2 (Ll := L) (Kp := Kp) (q1 := (D1, tupO 0 0 (-456) (-2) a1 a2 a3 a4)) (q2 := (D2, tupO 1 0 (-789) (-3) b1 b2 b3 b4)) (q3 := (D3, tupO 0 0 (-123) (-1) c1 c2 c3 c4)) ⟨B', F1, X', N1, T', D'⟩ M rfl XB TB (fun G => el_12 G) fun g2 h2 tk2 O2 T2 => ?_)
    refine wpAny_execs_cons (if_c1 (Ll := L) (Kp := Kp) (q1 := (D1, tupO 0 0 (-456) (-2) a1 a2 a3 a4)) (q2 := (D2, tupO 1 0 (-789) (-3) b1 b2 b3 b4)) (q3 := (D3, tupO 0 0 (-123) (-1) c1 c2 c3 c4)) O2 M rfl XB TB (fun G => el_2 G) fun g3 h3 tk3 O3 T3 => ?_)
    have TT := T2.trans T3
    obtain ⟨B3, F3, X3, N3, P3, D3'⟩ := O3
    let Γ : Frm ⟨w, sl, svs⟩ 6 (Str.ofString "_law_others_right") scO 209 (.ref 208) := ⟨303, 10, ((ktrTop 302 7 gd cn cs L a ccd [] []).deeper (envO L')).guards, L', [envX cn cs L a ccd []], ktrTop 302 7 gd cn cs L a ccd [] [], base, g3, p, loose, mean, mg, mb, B3, X3, P3, rfl, hscr, by decide, by decide⟩
    refine wpAny_execs_cons (wpAny_Return_some (ret_all (Γ := Γ) F3 N3 M fun h4 tk4 F4 N4 => ?_))
    refine leaveS_r F4 N4 TT fun h₀' kT kF kN kB kX kP kD => ?_
    exact hret h4 tk4 ⟨kF.ns, fun b o e => kF.keep b o (kT.other b o e (by simp)), by rw [← kT.size]; exact kF.above⟩

theorem hOall (c : Ctx) : FunL c 11 209 true := by
  refine ⟨fun cn cs a ccd Γ low Q E s m F h => ?_⟩
  obtain ⟨dp, un, gd, L, outer, A₀, base, g, p, loose, mean, mg, mb, below, inK, top, isFn, scr, room, units⟩ := Γ
  obtain ⟨h1, h2, h3, XB, TB⟩ := low
  dsimp only at h1 h2 h3 XB TB
  subst h1
  subst h2
  subst h3
  exact others c.w scr below F inK XB TB (fun _ hp => nomatch hp) top isFn fun h' tk' F' => h h' tk' F'

end Mine
set_option maxRecDepth 100000 in
set_option maxHeartbeats 8000000 in
theorem PySem.Challenge.cw_ah5008_01_holds : PySem.Challenge.rw_ah5008_01.Holds := by
  exact Mine.hd (by
    k_go0
    rename Fr _ _ _ _ => lF; rename News _ _ _ _ => lN; rename Frag.In _ _ => lX; rename Top _ _ _ _ _ _ => lT
    rename Below _ _ _ _ => lB; rename Heap.IsList _ _ _ => lL; rename IntsAre _ _ => lI; rename (¬ ((_ : Nat) : Int) < _) => lH
    refine Mine.law_run rfl Mine.hOall lB lX lT lL lI (by omega) rfl lF lN (fun h' tk' m F' => ?_)
    (try dsimp only)
    wrow_close)
