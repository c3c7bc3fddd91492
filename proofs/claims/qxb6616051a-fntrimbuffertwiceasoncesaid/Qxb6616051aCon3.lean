import Derived.Test.Qxb6616051aCon2
namespace Go.Proofs.Qxb6616051a
open Go.RowKit
set_option maxHeartbeats 1000000
set_option maxRecDepth 100000

theorem c9_drop (dir : ByteArray) (mb wd : Int) (a : Option Addr) (n c sp : Nat) (w : World) (hn : n ≤ 1048576) (hs : sp ≤ 65536) (h : 65536 < n + sp) :
    Calls Try.prog 9 #[.agg #[.string dir, .int .i64 mb, .int .i64 wd, .slice none 0 0, .int .i64 0, .bool false, .bool false], .string dir, .int .i64 mb, .int .i64 wd, .slice a n c, .int .i64 sp, .bool false, .bool true] w fun e w' =>
      e = .returned (.bool true) ∧ Below w.heap.size w w' := by
  have hnil := fun (w : World) (a : Option Addr) (n c : Nat) => Lib.run_eql_slice_nil (P := Try.prog) w 22 _ a n c 0 0 Try.underlying22
  have h' : (65536 : Int) < (n : Int) + (sp : Int) := by omega
  go_enter Try.func9, Try.ntmps9
  go_wp2
  go_ret
  exact ⟨rfl, (Below.refl _ _).alloc (Nat.le_refl _) _⟩

theorem c9_keep (dir : ByteArray) (mb wd : Int) (a : Option Addr) (b : Addr) (xs : List Int) (c sp : Nat) (w : World) (hn : xs.length ≤ 1048576) (hs : sp ≤ 65536) (h : xs.length + sp ≤ 65536)
    (ha : Hold w a xs) (hb : Hold w (some b) xs) :
    Calls Try.prog 9 #[.agg #[.string dir, .int .i64 mb, .int .i64 wd, .slice (some b) xs.length (xs.length + sp), .int .i64 ((xs.length : Int) + (sp : Int)), .bool false, .bool false], .string dir, .int .i64 mb, .int .i64 wd, .slice a xs.length c, .int .i64 sp, .bool false, .bool true] w fun e w' =>
      e = .returned (.bool true) ∧ Below w.heap.size w w' := by
  have hnil := fun (w : World) (a : Option Addr) (n c : Nat) => run_neq_slice_nil_any (P := Try.prog) w 22 _ a n c 0 0 Try.underlying22
  have h' : (xs.length : Int) + (sp : Int) ≤ 65536 := by omega
  go_enter Try.func9, Try.ntmps9
  go_wp2_with fail
  refine (c13 _ _ _ _ xs _ (by exact hb.alloc _) (by exact ha.alloc _) (by omega)).mono ?_
  rintro e w' ⟨rfl, nd, rfl⟩
  go_wp2
  go_ret
  exact ⟨rfl, below_drewN ((Below.refl _ _).alloc (Nat.le_refl _) _) nd⟩

theorem c10 (dir : ByteArray) (mb wd : Int) (a : Option Addr) (xs : List Int) (c : Nat) (ci : Int) (w : World) (hn : xs.length ≤ 1048576) (ha : Hold w a xs) :
    Calls Try.prog 10 #[.agg #[.string dir, .int .i64 mb, .int .i64 wd, .slice a xs.length c, .int .i64 ci, .bool false, .bool false], .agg #[.string dir, .int .i64 mb, .int .i64 wd, .slice a xs.length c, .int .i64 ci, .bool false, .bool false]] w fun e w' =>
      e = .returned (.bool true) ∧ Below w.heap.size w w' := by
  have hnil := fun (w : World) (a : Option Addr) (n c : Nat) => Lib.run_eql_slice_nil (P := Try.prog) w 22 _ a n c 0 0 Try.underlying22
  go_enter Try.func10, Try.ntmps10
  go_wp2_with fail
  refine (c13 _ _ _ _ xs _ (by exact (ha.alloc _).alloc _) (by exact (ha.alloc _).alloc _) (by omega)).mono ?_
  rintro e w' ⟨rfl, nd, rfl⟩
  go_wp2
  go_ret
  exact ⟨rfl, below_drewN (((Below.refl _ _).alloc (Nat.le_refl _) _).alloc (by simp) _) nd⟩
end Go.Proofs.Qxb6616051a
