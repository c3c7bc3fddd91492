import Derived.Test.Qxb6615655aRows
import Derived.WalkKit
import Derived.ProofKit
import Derived.OpenShut
import Derived.ShutString
import Derived.BigQuiet
import Derived.Handy
import Derived.WalkSpells
namespace Go.Proofs.Qxb6615655a
open Go.RowKit

theorem grown_drewN {W w' : World} (h : Grown W w') (n : Nat) : Grown W (w'.drewN n) := by
  induction n generalizing w' with
  | zero => exact h
  | succ n ih => exact ih h.drew

/-- zzBytes: some bool, nothing turns. -/
theorem c4 (a0 a1 a5 : ByteArray) (a2 a3 a4 : Bool) (w0 : a0.size ≤ maxLen) (w1 : a1.size ≤ maxLen) (w5 : a5.size ≤ maxLen) (w : World) :
    Calls Try.prog 4 #[.string a0, .string a1, .bool a2, .bool a3, .bool a4, .string a5] w fun e w' => (∃ b : Bool, e = .returned (.bool b)) ∧ w' = w := by
  unfold maxLen at *
  go_enter Try.func4, Try.ntmps4
  go_wp2
  all_goals (go_ret; exact ⟨⟨_, rfl⟩, rfl⟩)

theorem c5 (s u : ByteArray) (l : Bool) (w : World) :
    Calls Try.prog 5 #[.string s, .string u, .bool l] w fun e w' => e = .returned (.pointer (some ⟨w.heap.size, 0, none⟩)) ∧ w' = w.alloc (.cells #[.string s, .slice none 0 0, .pointer none, .slice none 0 0, .string u, .bool l] 34) := by
  go_enter Try.func5, Try.ntmps5
  go_wp2
  go_ret
  exact ⟨rfl, rfl⟩

theorem c8 (s : ByteArray) (p : Option Addr) (w : World) :
    Calls Try.prog 8 #[.string s, .pointer p] w fun e w' => e = .returned (.agg #[.string s, .pointer p, .slice none 0 0, .string ByteArray.empty, .int .i64 1, .int .i64 1]) ∧ w' = w.alloc (.cells #[.string s, .pointer p, .slice none 0 0, .string ByteArray.empty, .int .i64 1, .int .i64 1] 27) := by
  go_enter Try.func8, Try.ntmps8
  go_wp2
  refine bodyPost_ret (v := .agg #[.string s, .pointer p, .slice none 0 0, .string ByteArray.empty, .int .i64 1, .int .i64 1]) (by simp [results, Try.results8, go_sem]; try rfl) rfl ?_
  exact ⟨rfl, rfl⟩

theorem c6 (s : ByteArray) (p : Option Addr) (w : World) :
    Calls Try.prog 6 #[.string s, .pointer p] w fun e w' => e = .returned (.agg #[.string s, .pointer p, .slice none 0 0, .string ByteArray.empty, .int .i64 1, .int .i64 1]) ∧ w' = (w.alloc (.cells #[.string s, .pointer p, .slice none 0 0, .string ByteArray.empty, .int .i64 1, .int .i64 1] 27)).alloc (.cells #[.string s, .pointer p, .slice none 0 0, .string ByteArray.empty, .int .i64 1, .int .i64 1] 27) := by
  go_enter Try.func6, Try.ntmps6
  go_wp2
  refine bodyPost_ret (v := .agg #[.string s, .pointer p, .slice none 0 0, .string ByteArray.empty, .int .i64 1, .int .i64 1]) (by simp [results, Try.results6, go_sem]; try rfl) rfl ?_
  exact ⟨rfl, rfl⟩

theorem c7 (s : ByteArray) (p : Option Addr) (w : World) :
    Calls Try.prog 7 #[.agg #[.string s, .pointer p, .slice none 0 0, .string ByteArray.empty, .int .i64 1, .int .i64 1]] w fun e w' => e = .returned (.tuple #[.string s, .pointer p, .int .i64 0, .bool true, .string ByteArray.empty, .int .i64 1, .int .i64 1]) ∧ ∃ n, w' = (w.alloc (.cells #[.string s, .pointer p, .slice none 0 0, .string ByteArray.empty, .int .i64 1, .int .i64 1] 27)).drewN n := by
  have hnil := fun (w : World) => Lib.run_eql_slice_nil (P := Try.prog) w 25 _ none 0 0 0 0 Try.underlying25
  go_enter Try.func7, Try.ntmps7
  go_wp2
  go_quiet (fail)
  go_wp2
  refine bodyPost_ret (v := .tuple #[.string s, .pointer p, .int .i64 0, .bool true, .string ByteArray.empty, .int .i64 1, .int .i64 1]) (by simp [results, Try.results7, go_sem]; try rfl) rfl ?_
  exact ⟨rfl, nq, rfl⟩
end Go.Proofs.Qxb6615655a
