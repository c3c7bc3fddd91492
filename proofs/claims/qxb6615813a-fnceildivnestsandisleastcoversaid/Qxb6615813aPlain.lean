import Derived.Test.Qxb6615813aRows
import Derived.WalkKit
import Derived.ProofKit
namespace Go.Proofs.Qxb6615813a

/-- a / b rounded up. -/
def cd (a b : Int) : Int := (a + b - 1) / b

theorem cd_lo (a b : Int) (hb : 1 ≤ b) : a ≤ cd a b * b := by
  have h := Int.lt_ediv_add_one_mul_self (a + b - 1) (show 0 < b by omega)
  rw [Int.add_mul, Int.one_mul] at h
  unfold cd
  omega

theorem cd_up (a b : Int) (hb : 1 ≤ b) : cd a b * b ≤ a + b - 1 := by
  have h := Int.ediv_mul_le (a + b - 1) (show b ≠ 0 by omega)
  unfold cd
  omega

theorem cd_hi (a b : Int) (hb : 1 ≤ b) : (cd a b - 1) * b < a := by
  have h := cd_up a b hb
  rw [Int.sub_mul, Int.one_mul]
  omega

theorem cd_unique (a b q : Int) (hb : 1 ≤ b) (h1 : a ≤ q * b) (h2 : (q - 1) * b < a) : cd a b = q := by
  have k1 := cd_lo a b hb
  have k2 := cd_hi a b hb
  rcases Int.lt_trichotomy (cd a b) q with h | h | h
  · exfalso
    have : cd a b * b ≤ (q - 1) * b := Int.mul_le_mul_of_nonneg_right (by omega) (by omega)
    omega
  · exact h
  · exfalso
    have : q * b ≤ (cd a b - 1) * b := Int.mul_le_mul_of_nonneg_right (by omega) (by omega)
    omega

theorem cd_nonneg (a b : Int) (ha : 0 ≤ a) (hb : 1 ≤ b) : 0 ≤ cd a b := Int.ediv_nonneg (by omega) (by omega)

theorem cd_le (a b : Int) (ha : 0 ≤ a) (hb : 1 ≤ b) : cd a b ≤ a := by
  have h := cd_hi a b hb
  have hn := cd_nonneg a b ha hb
  by_cases h0 : cd a b ≤ 0
  · omega
  · have : (cd a b - 1) * 1 ≤ (cd a b - 1) * b := Int.mul_le_mul_of_nonneg_left hb (by omega)
    omega

theorem cd_nest (a b c : Int) (hb : 1 ≤ b) (hc : 1 ≤ c) : cd (cd a b) c = cd a (b * c) := by
  have hbc : 1 ≤ b * c := by
    have := Int.mul_le_mul hb hc (by omega) (by omega)
    omega
  refine (cd_unique a (b * c) _ hbc ?_ ?_).symm
  · have h1 := cd_lo a b hb
    have h2 := cd_lo (cd a b) c hc
    have h3 : cd a b * b ≤ (cd (cd a b) c * c) * b := Int.mul_le_mul_of_nonneg_right h2 (by omega)
    have e : cd (cd a b) c * (b * c) = (cd (cd a b) c * c) * b := by rw [Int.mul_comm b c, Int.mul_assoc]
    omega
  · have h1 := cd_hi a b hb
    have h2 := cd_hi (cd a b) c hc
    have h3 : ((cd (cd a b) c - 1) * c) * b ≤ (cd a b - 1) * b := Int.mul_le_mul_of_nonneg_right (by omega) (by omega)
    have e : (cd (cd a b) c - 1) * (b * c) = ((cd (cd a b) c - 1) * c) * b := by rw [Int.mul_comm b c, Int.mul_assoc]
    omega

theorem cd_shift (a b k : Int) (hb : 1 ≤ b) : cd (a + k * b) b = cd a b + k := by
  have h1 := cd_lo a b hb
  have h2 := cd_hi a b hb
  refine cd_unique _ b _ hb ?_ ?_
  · rw [Int.add_mul]; omega
  · have e : (cd a b + k - 1) * b = (cd a b - 1) * b + k * b := by rw [← Int.add_mul]; congr 1; omega
    omega

theorem cd_whole (b k : Int) (hb : 1 ≤ b) : cd (k * b) b = k := by
  refine cd_unique _ b _ hb (Int.le_refl _) ?_
  rw [Int.sub_mul, Int.one_mul]
  omega

theorem cd_floor (a b : Int) (hb : 1 ≤ b) (h : a % b = 0) : cd a b = a / b := by
  have e := Int.mul_ediv_add_emod a b
  have e2 : b * (a / b) = a / b * b := Int.mul_comm _ _
  refine cd_unique _ b _ hb (by omega) ?_
  rw [Int.sub_mul, Int.one_mul]
  omega

theorem cd_floor1 (a b : Int) (hb : 1 ≤ b) (h : a % b ≠ 0) : cd a b = a / b + 1 := by
  have e := Int.mul_ediv_add_emod a b
  have h0 := Int.emod_nonneg a (show b ≠ 0 by omega)
  have h1 := Int.emod_lt_of_pos a (show 0 < b by omega)
  have e2 : b * (a / b) = a / b * b := Int.mul_comm _ _
  refine cd_unique _ b _ hb ?_ ?_
  · rw [Int.add_mul, Int.one_mul]; omega
  · rw [show a / b + 1 - 1 = a / b from by omega]; omega

theorem mul_le_of_le_div (b c m : Int) (hb : 1 ≤ b) (h : c ≤ m / b) : b * c ≤ m := by
  have := (Int.le_ediv_iff_mul_le (show 0 < b by omega)).1 h
  rw [Int.mul_comm]; exact this
theorem lt_mul_of_div_lt (b c m : Int) (hb : 1 ≤ b) (h : ¬ c ≤ m / b) : ¬ b * c ≤ m := by
  intro k
  exact h ((Int.le_ediv_iff_mul_le (show 0 < b by omega)).2 (by rw [Int.mul_comm]; exact k))
end Go.Proofs.Qxb6615813a
