import PyProof.Rows.All
import Wide.All
import OpenK.AllK
import Wide.FinOn
import PySem.Challenge.RW_kg0010_01
open PySem PySem.W PyProof.Rows
set_option Elab.async false
namespace Mine

/-- the plain law: a floor quotient q with its remainder r, one more where twice the remainder and q's last bit pass the divisor -/
theorem near_core {x d q r : Int} (hx : d * q + r = x) (h0 : 0 ≤ r) (h1 : r < d) :
    (2 * if (q + if decide (d < 2 * r + Builtin.bitAnd q 1) = true then 1 else 0) * d - x < 0
        then -((q + if decide (d < 2 * r + Builtin.bitAnd q 1) = true then 1 else 0) * d - x)
        else (q + if decide (d < 2 * r + Builtin.bitAnd q 1) = true then 1 else 0) * d - x) < d ∨
    ((2 * if (q + if decide (d < 2 * r + Builtin.bitAnd q 1) = true then 1 else 0) * d - x < 0
        then -((q + if decide (d < 2 * r + Builtin.bitAnd q 1) = true then 1 else 0) * d - x)
        else (q + if decide (d < 2 * r + Builtin.bitAnd q 1) = true then 1 else 0) * d - x) = d ∧
      (q + if decide (d < 2 * r + Builtin.bitAnd q 1) = true then 1 else 0).fmod 2 = 0) := by
  have hb : Builtin.bitAnd q 1 = q % 2 := by
    have h := kbt_mask q 1
    simpa using h
  rw [hb, Int.fmod_eq_emod_of_nonneg _ (show (0 : Int) ≤ 2 by decide)]
  have hc : d * q = q * d := Int.mul_comm d q
  by_cases hu : d < 2 * r + q % 2
  · simp only [hu, decide_true, if_true]
    rw [Int.add_mul, Int.one_mul]
    generalize q * d = p at hc ⊢
    rw [hc] at hx
    split <;> omega
  · simp only [hu, decide_false, Bool.false_eq_true, if_false, Int.add_zero]
    generalize q * d = p at hc ⊢
    rw [hc] at hx
    split <;> omega

theorem near_div (x : Int) {d : Int} (hd : 0 < d) :
    (2 * if (x.fdiv d + if decide (d < 2 * x.fmod d + Builtin.bitAnd (x.fdiv d) 1) = true then 1 else 0) * d - x < 0
        then -((x.fdiv d + if decide (d < 2 * x.fmod d + Builtin.bitAnd (x.fdiv d) 1) = true then 1 else 0) * d - x)
        else (x.fdiv d + if decide (d < 2 * x.fmod d + Builtin.bitAnd (x.fdiv d) 1) = true then 1 else 0) * d - x) < d ∨
    ((2 * if (x.fdiv d + if decide (d < 2 * x.fmod d + Builtin.bitAnd (x.fdiv d) 1) = true then 1 else 0) * d - x < 0
        then -((x.fdiv d + if decide (d < 2 * x.fmod d + Builtin.bitAnd (x.fdiv d) 1) = true then 1 else 0) * d - x)
        else (x.fdiv d + if decide (d < 2 * x.fmod d + Builtin.bitAnd (x.fdiv d) 1) = true then 1 else 0) * d - x) = d ∧
      (x.fdiv d + if decide (d < 2 * x.fmod d + Builtin.bitAnd (x.fdiv d) 1) = true then 1 else 0).fmod 2 = 0) := by
  refine near_core ?_ ?_ ?_
  · rw [Int.fdiv_eq_ediv_of_nonneg _ (Int.le_of_lt hd), Int.fmod_eq_emod_of_nonneg _ (Int.le_of_lt hd)]
    exact Int.mul_ediv_add_emod x d
  · rw [Int.fmod_eq_emod_of_nonneg _ (Int.le_of_lt hd)]
    exact Int.emod_nonneg _ (by omega)
  · rw [Int.fmod_eq_emod_of_nonneg _ (Int.le_of_lt hd)]
    exact Int.emod_lt_of_pos _ hd

theorem near_shift (x : Int) (k : Nat) :
    (2 * if (x.fdiv (2 ^ k) + if decide (1 * 2 ^ k < 2 * Builtin.bitAnd x (1 * 2 ^ k - 1) + Builtin.bitAnd (x.fdiv (2 ^ k)) 1) = true then 1 else 0) * 2 ^ k - x < 0
        then -((x.fdiv (2 ^ k) + if decide (1 * 2 ^ k < 2 * Builtin.bitAnd x (1 * 2 ^ k - 1) + Builtin.bitAnd (x.fdiv (2 ^ k)) 1) = true then 1 else 0) * 2 ^ k - x)
        else (x.fdiv (2 ^ k) + if decide (1 * 2 ^ k < 2 * Builtin.bitAnd x (1 * 2 ^ k - 1) + Builtin.bitAnd (x.fdiv (2 ^ k)) 1) = true then 1 else 0) * 2 ^ k - x) < 2 ^ k ∨
    ((2 * if (x.fdiv (2 ^ k) + if decide (1 * 2 ^ k < 2 * Builtin.bitAnd x (1 * 2 ^ k - 1) + Builtin.bitAnd (x.fdiv (2 ^ k)) 1) = true then 1 else 0) * 2 ^ k - x < 0
        then -((x.fdiv (2 ^ k) + if decide (1 * 2 ^ k < 2 * Builtin.bitAnd x (1 * 2 ^ k - 1) + Builtin.bitAnd (x.fdiv (2 ^ k)) 1) = true then 1 else 0) * 2 ^ k - x)
        else (x.fdiv (2 ^ k) + if decide (1 * 2 ^ k < 2 * Builtin.bitAnd x (1 * 2 ^ k - 1) + Builtin.bitAnd (x.fdiv (2 ^ k)) 1) = true then 1 else 0) * 2 ^ k - x) = 2 ^ k ∧
      (x.fdiv (2 ^ k) + if decide (1 * 2 ^ k < 2 * Builtin.bitAnd x (1 * 2 ^ k - 1) + Builtin.bitAnd (x.fdiv (2 ^ k)) 1) = true then 1 else 0).fmod 2 = 0) := by
  rw [Int.one_mul, kbt_maskF]
  exact near_div x (kbt_pos k)

theorem end_lt {a b : Int} (h : a < b) : (decide (a < b) == true) = true := by simp [h]

theorem end_even {x d : Int} (hd : 0 < d)
    (h : ¬ (2 * if (x.fdiv d + if decide (d < 2 * x.fmod d + Builtin.bitAnd (x.fdiv d) 1) = true then 1 else 0) * d - x < 0
        then -((x.fdiv d + if decide (d < 2 * x.fmod d + Builtin.bitAnd (x.fdiv d) 1) = true then 1 else 0) * d - x)
        else (x.fdiv d + if decide (d < 2 * x.fmod d + Builtin.bitAnd (x.fdiv d) 1) = true then 1 else 0) * d - x) < d) :
    (((x.fdiv d + if decide (d < 2 * x.fmod d + Builtin.bitAnd (x.fdiv d) 1) = true then 1 else 0).fmod 2 == 0) == true) = true := by
  rcases near_div x hd with h' | ⟨_, h'⟩
  · exact absurd h' h
  · rw [h']; rfl

theorem end_eq {x d : Int} (hd : 0 < d)
    (h : ¬ (2 * if (x.fdiv d + if decide (d < 2 * x.fmod d + Builtin.bitAnd (x.fdiv d) 1) = true then 1 else 0) * d - x < 0
        then -((x.fdiv d + if decide (d < 2 * x.fmod d + Builtin.bitAnd (x.fdiv d) 1) = true then 1 else 0) * d - x)
        else (x.fdiv d + if decide (d < 2 * x.fmod d + Builtin.bitAnd (x.fdiv d) 1) = true then 1 else 0) * d - x) < d) :
    (((2 * if (x.fdiv d + if decide (d < 2 * x.fmod d + Builtin.bitAnd (x.fdiv d) 1) = true then 1 else 0) * d - x < 0
        then -((x.fdiv d + if decide (d < 2 * x.fmod d + Builtin.bitAnd (x.fdiv d) 1) = true then 1 else 0) * d - x)
        else (x.fdiv d + if decide (d < 2 * x.fmod d + Builtin.bitAnd (x.fdiv d) 1) = true then 1 else 0) * d - x) == d) == true) = true := by
  rcases near_div x hd with h' | ⟨h', _⟩
  · exact absurd h' h
  · rw [h']; simp

theorem no_odd {x : Int} {k : Nat}
    (ho : (x.fdiv (2 ^ k) + if decide (1 * 2 ^ k < 2 * Builtin.bitAnd x (1 * 2 ^ k - 1) + Builtin.bitAnd (x.fdiv (2 ^ k)) 1) = true then 1 else 0).fmod 2 ≠ 0)
    (h : ¬ (2 * if (x.fdiv (2 ^ k) + if decide (1 * 2 ^ k < 2 * Builtin.bitAnd x (1 * 2 ^ k - 1) + Builtin.bitAnd (x.fdiv (2 ^ k)) 1) = true then 1 else 0) * 2 ^ k - x < 0
        then -((x.fdiv (2 ^ k) + if decide (1 * 2 ^ k < 2 * Builtin.bitAnd x (1 * 2 ^ k - 1) + Builtin.bitAnd (x.fdiv (2 ^ k)) 1) = true then 1 else 0) * 2 ^ k - x)
        else (x.fdiv (2 ^ k) + if decide (1 * 2 ^ k < 2 * Builtin.bitAnd x (1 * 2 ^ k - 1) + Builtin.bitAnd (x.fdiv (2 ^ k)) 1) = true then 1 else 0) * 2 ^ k - x) < 2 ^ k) : False := by
  rcases near_shift x k with h' | ⟨_, h'⟩
  · exact h h'
  · exact ho h'

theorem no_far {x : Int} {k : Nat}
    (ho : (2 * if (x.fdiv (2 ^ k) + if decide (1 * 2 ^ k < 2 * Builtin.bitAnd x (1 * 2 ^ k - 1) + Builtin.bitAnd (x.fdiv (2 ^ k)) 1) = true then 1 else 0) * 2 ^ k - x < 0
        then -((x.fdiv (2 ^ k) + if decide (1 * 2 ^ k < 2 * Builtin.bitAnd x (1 * 2 ^ k - 1) + Builtin.bitAnd (x.fdiv (2 ^ k)) 1) = true then 1 else 0) * 2 ^ k - x)
        else (x.fdiv (2 ^ k) + if decide (1 * 2 ^ k < 2 * Builtin.bitAnd x (1 * 2 ^ k - 1) + Builtin.bitAnd (x.fdiv (2 ^ k)) 1) = true then 1 else 0) * 2 ^ k - x) ≠ 2 ^ k)
    (h : ¬ (2 * if (x.fdiv (2 ^ k) + if decide (1 * 2 ^ k < 2 * Builtin.bitAnd x (1 * 2 ^ k - 1) + Builtin.bitAnd (x.fdiv (2 ^ k)) 1) = true then 1 else 0) * 2 ^ k - x < 0
        then -((x.fdiv (2 ^ k) + if decide (1 * 2 ^ k < 2 * Builtin.bitAnd x (1 * 2 ^ k - 1) + Builtin.bitAnd (x.fdiv (2 ^ k)) 1) = true then 1 else 0) * 2 ^ k - x)
        else (x.fdiv (2 ^ k) + if decide (1 * 2 ^ k < 2 * Builtin.bitAnd x (1 * 2 ^ k - 1) + Builtin.bitAnd (x.fdiv (2 ^ k)) 1) = true then 1 else 0) * 2 ^ k - x) < 2 ^ k) : False := by
  rcases near_shift x k with h' | ⟨h', _⟩
  · exact h h'
  · exact ho h'

theorem pos_abs (n : Int) : 0 < 1 + if n < 0 then -n else n := by split <;> omega
end Mine

set_option maxRecDepth 100000 in
set_option maxHeartbeats 8000000 in
theorem PySem.Challenge.cw_kg0010_01_holds : PySem.Challenge.rw_kg0010_01.Holds := by
  k_with "end" => first
    | (refine Mine.end_lt ?_; with_reducible assumption)
    | (refine Mine.end_even (Mine.pos_abs _) ?_; with_reducible assumption)
    | (refine Mine.end_eq (Mine.pos_abs _) ?_; with_reducible assumption)
    | (exfalso; refine Mine.no_odd (by with_reducible assumption) ?_; with_reducible assumption)
    | (exfalso; refine Mine.no_far (by with_reducible assumption) ?_; with_reducible assumption)
    | decide
  open_k
