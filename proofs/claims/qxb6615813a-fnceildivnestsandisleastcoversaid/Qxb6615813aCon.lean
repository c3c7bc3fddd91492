import Derived.Test.Qxb6615813aPlain
import Derived.Handy
namespace Go.Proofs.Qxb6615813a
open Go.RowKit

theorem wrap_back (x : Int) (h0 : 0 ≤ x - 1) (h1 : x - 1 ≤ 9223372036854775807) : wrap64 (wrap64 x - 1) = x - 1 := by
  simp only [wrap64]
  omega

theorem c5 (a b : Int) (w : World) (ha : 0 ≤ a) (hb : 1 ≤ b) (ham : a ≤ 9223372036854775807) (hbm : b ≤ 9223372036854775807) (hm : a + b - 1 ≤ 9223372036854775807) :
    Calls Try.prog 5 #[.int .i64 a, .int .i64 b] w fun e w' => e = .returned (.int .i64 (cd a b)) ∧ w' = w := by
  have hw := wrap_back (a + b) (by omega) (by omega)
  go_enter Try.func5, Try.ntmps5
  go_wp2
  go_ret
  exact ⟨rfl, rfl⟩

set_option maxHeartbeats 1000000 in
theorem nests_main (a b c : Int) (w : World) (ha : 0 ≤ a) (hb : 1 ≤ b) (hc : 1 ≤ c) (ham : a ≤ 9223372036854775807) (hbm : b ≤ 9223372036854775807) (hcm : c ≤ 9223372036854775807)
    (h1 : c ≤ 9223372036854775807 / b) (h2 : a ≤ 9223372036854775807 - b * c + 1) :
    Calls Try.prog 3 #[.int .i64 a, .int .i64 b, .int .i64 c] w fun e w' => e = .returned (.bool true) ∧ Grown w w' := by
  have m1 := mul_le_of_le_div b c _ hb h1
  have m0 : b ≤ b * c := by have := Int.mul_le_mul_of_nonneg_left hc (show 0 ≤ b by omega); omega
  have m2 : c ≤ b * c := by have := Int.mul_le_mul_of_nonneg_right hb (show 0 ≤ c by omega); omega
  have q1 := cd_lo a b hb
  have q2 := cd_up a b hb
  have q3 := cd_hi a b hb
  have q4 := cd_nonneg a b ha hb
  have q5 := cd_le a b ha hb
  have r1 := cd_lo a (b * c) (by omega)
  have r2 := cd_up a (b * c) (by omega)
  have r3 := cd_hi a (b * c) (by omega)
  have r4 := cd_nonneg a (b * c) ha (by omega)
  have r5 := cd_le a (b * c) ha (by omega)
  have q6 : -9223372036854775808 ≤ (cd a b - 1) * b := by rw [Int.sub_mul, Int.one_mul]; omega
  have r6 : -9223372036854775808 ≤ (cd a (b * c) - 1) * (b * c) := by rw [Int.sub_mul, Int.one_mul]; omega
  have hn := cd_nest a b c hb hc
  go_enter Try.func3, Try.ntmps3
  go_wp2_with (go_at_call 5; refine (c5 _ _ _ (by omega) (by omega) (by omega) (by omega) (by omega)).mono ?_; rintro e w' ⟨rfl, rfl⟩)
  go_ret
  exact ⟨rfl, Grown.refl _⟩

theorem nests (a b c : Int) (w : World) (ha : -9223372036854775808 ≤ a ∧ a ≤ 9223372036854775807) (hb : -9223372036854775808 ≤ b ∧ b ≤ 9223372036854775807) (hc : -9223372036854775808 ≤ c ∧ c ≤ 9223372036854775807) :
    Calls Try.prog 3 #[.int .i64 a, .int .i64 b, .int .i64 c] w fun e w' => e = .returned (.bool true) ∧ Grown w w' := by
  obtain ⟨ha0, ha1⟩ := ha
  obtain ⟨hb0, hb1⟩ := hb
  obtain ⟨hc0, hc1⟩ := hc
  by_cases k1 : a < 0
  · go_enter Try.func3, Try.ntmps3
    go_wp2_with fail
    go_ret
    exact ⟨rfl, Grown.refl _⟩
  by_cases k2 : b < 1
  · go_enter Try.func3, Try.ntmps3
    go_wp2_with fail
    go_ret
    exact ⟨rfl, Grown.refl _⟩
  by_cases k3 : c < 1
  · go_enter Try.func3, Try.ntmps3
    go_wp2_with fail
    go_ret
    exact ⟨rfl, Grown.refl _⟩
  have j1 : 0 ≤ a := by omega
  have j2 : 1 ≤ b := by omega
  have j3 : 1 ≤ c := by omega
  clear k1 k2 k3
  by_cases k4 : c ≤ 9223372036854775807 / b
  · by_cases k5 : a ≤ 9223372036854775807 - b * c + 1
    · exact nests_main a b c w j1 j2 j3 ha1 hb1 hc1 k4 k5
    · have m1 := mul_le_of_le_div b c _ j2 k4
      have m0 : b ≤ b * c := by have := Int.mul_le_mul_of_nonneg_left j3 (show 0 ≤ b by omega); omega
      go_enter Try.func3, Try.ntmps3
      go_wp2_with fail
      go_ret
      exact ⟨rfl, Grown.refl _⟩
  · go_enter Try.func3, Try.ntmps3
    go_wp2_with fail
    go_ret
    exact ⟨rfl, Grown.refl _⟩

set_option maxHeartbeats 1000000 in
theorem shifts_main (a b k : Int) (w : World) (ha : 0 ≤ a) (hb : 1 ≤ b) (hk : 0 ≤ k) (ham : a ≤ 9223372036854775807) (hbm : b ≤ 9223372036854775807) (hkm : k ≤ 9223372036854775807)
    (h1 : k ≤ 9223372036854775807 / b) (h2 : k * b ≤ 9223372036854775807 - (b - 1)) (h3 : a ≤ 9223372036854775807 - (b - 1) - k * b) :
    Calls Try.prog 4 #[.int .i64 a, .int .i64 b, .int .i64 k] w fun e w' => e = .returned (.bool true) ∧ Grown w w' := by
  have m0 : 0 ≤ k * b := Int.mul_nonneg hk (by omega)
  have m1 : k ≤ k * b := by have := Int.mul_le_mul_of_nonneg_left hb hk; omega
  have q4 := cd_nonneg a b ha hb
  have q5 := cd_le a b ha hb
  have hs := cd_shift a b k hb
  have hw := cd_whole b k hb
  by_cases hr : a % b = 0
  · have hf := cd_floor a b hb hr
    go_enter Try.func4, Try.ntmps4
    go_wp2_with (go_at_call 5; refine (c5 _ _ _ (by omega) (by omega) (by omega) (by omega) (by omega)).mono ?_; rintro e w' ⟨rfl, rfl⟩)
    go_ret
    exact ⟨rfl, Grown.refl _⟩
  · have hf := cd_floor1 a b hb hr
    go_enter Try.func4, Try.ntmps4
    go_wp2_with (go_at_call 5; refine (c5 _ _ _ (by omega) (by omega) (by omega) (by omega) (by omega)).mono ?_; rintro e w' ⟨rfl, rfl⟩)
    go_ret
    exact ⟨rfl, Grown.refl _⟩

theorem shifts (a b k : Int) (w : World) (ha : -9223372036854775808 ≤ a ∧ a ≤ 9223372036854775807) (hb : -9223372036854775808 ≤ b ∧ b ≤ 9223372036854775807) (hk : -9223372036854775808 ≤ k ∧ k ≤ 9223372036854775807) :
    Calls Try.prog 4 #[.int .i64 a, .int .i64 b, .int .i64 k] w fun e w' => e = .returned (.bool true) ∧ Grown w w' := by
  obtain ⟨ha0, ha1⟩ := ha
  obtain ⟨hb0, hb1⟩ := hb
  obtain ⟨hk0, hk1⟩ := hk
  by_cases k1 : a < 0
  · go_enter Try.func4, Try.ntmps4
    go_wp2_with fail
    go_ret
    exact ⟨rfl, Grown.refl _⟩
  by_cases k2 : b < 1
  · go_enter Try.func4, Try.ntmps4
    go_wp2_with fail
    go_ret
    exact ⟨rfl, Grown.refl _⟩
  by_cases k3 : k < 0
  · go_enter Try.func4, Try.ntmps4
    go_wp2_with fail
    go_ret
    exact ⟨rfl, Grown.refl _⟩
  have j1 : 0 ≤ a := by omega
  have j2 : 1 ≤ b := by omega
  have j3 : 0 ≤ k := by omega
  clear k1 k2 k3
  by_cases k4 : k ≤ 9223372036854775807 / b
  · have m1 : k * b ≤ 9223372036854775807 := by rw [Int.mul_comm]; exact mul_le_of_le_div b k _ j2 k4
    have m0 : 0 ≤ k * b := Int.mul_nonneg j3 (by omega)
    by_cases k5 : k * b ≤ 9223372036854775807 - (b - 1)
    · by_cases k6 : a ≤ 9223372036854775807 - (b - 1) - k * b
      · exact shifts_main a b k w j1 j2 j3 ha1 hb1 hk1 k4 k5 k6
      · go_enter Try.func4, Try.ntmps4
        go_wp2_with fail
        go_ret
        exact ⟨rfl, Grown.refl _⟩
    · go_enter Try.func4, Try.ntmps4
      go_wp2_with fail
      go_ret
      exact ⟨rfl, Grown.refl _⟩
  · go_enter Try.func4, Try.ntmps4
    go_wp2_with fail
    go_ret
    exact ⟨rfl, Grown.refl _⟩
end Go.Proofs.Qxb6615813a
