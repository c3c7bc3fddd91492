import Derived.Test.Qxb6615168aDoorMem
import Derived.Lib.ByteType
namespace Go.Proofs.Qxb6615168aDoor
open Go.RowKit
set_option maxHeartbeats 1000000
set_option maxRecDepth 100000

/-- (*bytes.Buffer).Len, nothing having been read. -/
theorem f66 (b : Nat) (a : Option Addr) (l c : Nat) (lr : Int) (w : World) (h : Blk w b 42 [.slice a l c, .int .i64 0, .int .i8 lr]) (hl : l ≤ 281474976710656) :
    Calls Tryd.prog 66 #[.pointer (some ⟨b, 0, none⟩)] w fun e w' => e = .returned (.int .i64 l) ∧ ∃ n, w' = w.drewN n := by
  have c0 := h.cell 0 rfl
  have c1 := h.cell 1 rfl
  go_enter Tryd.func66, Tryd.ntmps66
  go_wp2
  go_quiet (fail)
  go_wp2
  go_ret
  exact ⟨rfl, nq, rfl⟩

/-- tryGrowByReslice: there is room. -/
theorem f64_room (b : Nat) (a : Option Addr) (l c n : Nat) (lr : Int) (w : World) (h : Blk w b 42 [.slice a l c, .int .i64 0, .int .i8 lr]) (hn : l + n ≤ c) (hc : c ≤ maxLen) :
    Calls Tryd.prog 64 #[.pointer (some ⟨b, 0, none⟩), .int .i64 n] w fun e w' => e = .returned (.tuple #[.int .i64 l, .bool true]) ∧ w' = w.setCell ⟨b, 0, none⟩ (.slice a (l + n) c) := by
  have c0 := h.cell 0 rfl
  have f0 := h.frozen 0
  unfold maxLen at hc
  have h1 : (n : Int) ≤ (c : Int) - (l : Int) := by omega
  clear h
  go_enter Tryd.func64, Tryd.ntmps64
  go_wp2
  go_ret2
  exact ⟨rfl, rfl⟩

/-- tryGrowByReslice: there is none. -/
theorem f64_none (b : Nat) (a : Option Addr) (l c n : Nat) (lr : Int) (w : World) (h : Blk w b 42 [.slice a l c, .int .i64 0, .int .i8 lr]) (hl : l ≤ c) (hn : c < l + n) (hc : c ≤ maxLen) :
    Calls Tryd.prog 64 #[.pointer (some ⟨b, 0, none⟩), .int .i64 n] w fun e w' => e = .returned (.tuple #[.int .i64 0, .bool false]) ∧ w = w' := by
  have c0 := h.cell 0 rfl
  unfold maxLen at hc
  have h1 : (c : Int) - (l : Int) < (n : Int) := by omega
  clear h
  go_enter Tryd.func64, Tryd.ntmps64
  go_wp2
  go_ret2
  exact ⟨rfl, rfl⟩

/-- growSlice's deferred closure: nothing panicked. -/
theorem f68 (w : World) : CallsD Tryd.prog 68 #[] .returning w fun e u' w' => e = .returned (.tuple #[]) ∧ u' = .returning ∧ w' = w := by
  have hnn : ∀ w, (binOp .neq 20 .nilIface .nilIface).run Tryd.prog w = .ok (.bool false) w := fun w => Lib.run_neq_nil_nil w Tryd.underlying20
  refine callsD_of_wpS Tryd.func68 rfl fun c₀ cs hu => ?_
  apply wpS_seq
  apply wpS_region
  simp [wpOpsS, go_sem, recoverD, hu, hnn, Tryd.ntmps68, Exit.thenS]
  refine wpS_cond (t := false) (by simp [Act.eval, Array.replicate]) ?_
  simp only [Bool.false_eq_true, if_false]
  refine wpS_of_wp (wp_skip ?_)
  cases c₀
  simp_all [bodyPostS, results, Tryd.results68]

theorem zero_one (n : Nat) : Builtin.zeroCells (Value.int .u8 0).cells n = Array.replicate n (Value.int .u8 0) := by
  apply Array.ext
  · simp [Builtin.zeroCells, Value.cells]
  · intro k h1 h2
    simp [Builtin.zeroCells, Value.cells, Nat.mod_one]
theorem zeros_eq (n m : Nat) : (Builtin.zeroCells (Value.int .u8 0).cells n ++ Builtin.zeroCells (Value.int .u8 0).cells m) = ((List.replicate (n + m) (0 : Int)).map (Value.int .u8)).toArray := by
  rw [zero_one, zero_one]
  simp

/-- append([]byte(nil), make([]byte, n)...): a new row of zeros. -/
theorem run_zeros (w : World) (ty : TypeId) (n : Nat) (h0 : 0 < n) (hn : n ≤ 281474976710656) :
    ∃ c, n ≤ c ∧ c ≤ maxLen ∧ (Builtin.append_ #[22, 3] ty #[.slice none 0 0, .int .i64 n]).run Tryd.prog w = .ok (.slice (some ⟨w.heap.size, 0, none⟩) n c) (w.alloc (row (zeros c))).drew := by
  obtain ⟨i, hi, hz, hs, hb⟩ := info_parts info5
  refine ⟨grownCap w n 0 5, grownCap_ge w _ 0 5, grownCap_le_maxLen w _ 0 5 (by unfold maxLen; omega), ?_⟩
  have h := Lib.run_append_nil_zeros (P := Tryd.prog) w 22 3 ty 5 i (.int .u8 0) .i64 .i64 Tryd.underlying22 Tryd.underlying3 hi hz n h0 (by omega) (by omega) (by rw [hb]; omega)
  rw [h, zeros_eq, show n + (grownCap w n 0 5 - n) = grownCap w n 0 5 by have := grownCap_ge w n 0 5; omega]
  rfl

theorem f67_end (w : World) (c2 l : Nat) (xs : List Int) (hxl : xs.length = l) (h : l ≤ c2) :
    ∃ cur2 : List Int, cur2.length = c2 ∧ RowAt (putRow (w.alloc (row (zeros c2))).drew w.heap.size (over (zeros c2) 0 xs)) w.heap.size cur2 ∧
      cur2.take l = xs ∧ Below w.heap.size w (putRow (w.alloc (row (zeros c2))).drew w.heap.size (over (zeros c2) 0 xs)) := by
  have hr : RowAt (w.alloc (row (zeros c2))).drew w.heap.size (zeros c2) := RowAt.made _ _
  refine ⟨over (zeros c2) 0 xs, by rw [length_over _ _ _ (by rw [length_zeros]; omega), length_zeros], putRow_row hr _, ?_, below_setRow (((Below.refl _ _).alloc (Nat.le_refl _) _).drew) (Nat.le_refl _) _⟩
  subst hxl
  simp [over]

/-- bytes.growSlice: a new row that begins with the same bytes and has room for n more. -/
theorem f67 (a : Option Addr) (l c n : Nat) (xs : List Int) (w : World) (ha : Hold w a xs) (hxl : xs.length = l) (hlc : l ≤ c) (hn : 1 ≤ n) (hlim : l + n ≤ 140737488355328) (hc2 : c ≤ 140737488355328) :
    Calls Tryd.prog 67 #[.slice a l c, .int .i64 n] w fun e w' => ∃ cur2 : List Int, e = .returned (.slice (some ⟨w.heap.size, 0, none⟩) l cur2.length) ∧ RowAt w' w.heap.size cur2 ∧
      cur2.take l = xs ∧ l + n ≤ cur2.length ∧ cur2.length ≤ maxLen ∧ Below w.heap.size w w' := by
  by_cases hC : l + n < 2 * c
  · obtain ⟨c2, h1, h2, happ⟩ := run_zeros w 22 (2 * c) (by omega) (by omega)
    rw [show (((2 * c : Nat)) : Int) = 2 * (c : Int) by omega] at happ
    have hcp := run_cp (w.alloc (row (zeros c2))).drew w.heap.size 0 (zeros c2) xs (some ⟨w.heap.size, 0, none⟩) a 3 (2 * c) l c2 c (RowAt.made _ _) (ha.alloc _) (fun _ => rfl) (by rw [hxl]; exact (Nat.min_eq_left (by omega)).symm) (by rw [length_zeros]; omega)
    rw [hxl] at hcp
    have hC' : (l : Int) + (n : Int) < 2 * (c : Int) := by omega
    go_enter_defers Tryd.func67, Tryd.ntmps67
    go_wp2_with (at_builtin; refine Lib.wpList_append_run _ rfl _ _ _ _ rfl _ _ rfl rfl _ _ happ ?_)
    refine leaves_cons (f := 68) (args := #[]) (by simp) (by simp [go_sem]) ?_
    refine (f68 _).mono ?_
    rintro e u' w'' ⟨rfl, rfl, rfl⟩
    refine ⟨_, results_tmp rfl _ _ _, ?_⟩
    obtain ⟨cur2, q1, q2, q3, q4⟩ := f67_end w c2 l xs hxl (by omega)
    exact ⟨cur2, by rw [q1]; rfl, q2, q3, by omega, by omega, q4⟩
  · obtain ⟨c2, h1, h2, happ⟩ := run_zeros w 22 (l + n) (by omega) (by omega)
    rw [show (((l + n : Nat)) : Int) = (l : Int) + (n : Int) by omega] at happ
    have hcp := run_cp (w.alloc (row (zeros c2))).drew w.heap.size 0 (zeros c2) xs (some ⟨w.heap.size, 0, none⟩) a 3 (l + n) l c2 c (RowAt.made _ _) (ha.alloc _) (fun _ => rfl) (by rw [hxl]; exact (Nat.min_eq_left (by omega)).symm) (by rw [length_zeros]; omega)
    rw [hxl] at hcp
    have hC' : ¬ (l : Int) + (n : Int) < 2 * (c : Int) := by omega
    go_enter_defers Tryd.func67, Tryd.ntmps67
    go_wp2_with (at_builtin; refine Lib.wpList_append_run _ rfl _ _ _ _ rfl _ _ rfl rfl _ _ happ ?_)
    refine leaves_cons (f := 68) (args := #[]) (by simp) (by simp [go_sem]) ?_
    refine (f68 _).mono ?_
    rintro e u' w'' ⟨rfl, rfl, rfl⟩
    refine ⟨_, results_tmp rfl _ _ _, ?_⟩
    obtain ⟨cur2, q1, q2, q3, q4⟩ := f67_end w c2 l xs hxl (by omega)
    exact ⟨cur2, by rw [q1]; rfl, q2, q3, by omega, by omega, q4⟩
end Go.Proofs.Qxb6615168aDoor
