import Derived.Test.Qxb6615655aCon
import Derived.LaidEqlPtr
namespace Go.Proofs.Qxb6615655a
open Go.RowKit
set_option maxHeartbeats 1000000
set_option maxRecDepth 100000

theorem info34 : ∃ j, Try.prog.info? 34 = some j ∧ j.size ≠ 0 := by
  refine ⟨(Try.prog.info? 34).get (by kernel_rfl), (Option.some_get _).symm, ?_⟩
  exact of_decide_eq_true (by kernel_rfl)

theorem eql_same (w : World) (a : Addr) : (binOp .eql 23 (.pointer (some a)) (.pointer (some a))).run Try.prog w = .ok (.bool true) w := by
  obtain ⟨j, hj, _⟩ := info34
  exact run_eql_ptr_same w a Try.underlying23 hj

theorem eql_left (w : World) (a : Addr) : (binOp .eql 23 (.pointer none) (.pointer (some a))).run Try.prog w = .ok (.bool false) w := by
  have h : ∀ d : Nat, (Op.equalIn (d + 1) 23 (.pointer none) (.pointer (some a))).run Try.prog w = .ok false w := fun d => by
    simp [Op.equalIn, run_underlying Try.underlying23]
  simp only [binOp]
  simp [Op.equal, Op.maxDepth, h 9999]

/-- Two blocks of plain cells, one beside the other, lie in the world. -/
def Two (B : Nat) (w : World) : Prop := ∃ ca cb, w.heap[B]? = some (.cells ca 34 (0, 0)) ∧ w.heap[B + 1]? = some (.cells cb 34 (0, 0))

theorem two_lt {B : Nat} {w : World} (h : Two B w) : B + 1 < w.heap.size := by
  obtain ⟨_, _, _, h⟩ := h
  exact (Array.getElem?_eq_some_iff.1 h).1
theorem two_alloc {B : Nat} {w : World} (o : Obj) (h : Two B w) : Two B (w.alloc o) := by
  have hl := two_lt h
  obtain ⟨ca, cb, h1, h2⟩ := h
  exact ⟨ca, cb, (Below.heap_alloc _ _ _ (by omega)).trans h1, (Below.heap_alloc _ _ _ (by omega)).trans h2⟩
theorem two_drewN {B : Nat} {w : World} (n : Nat) (h : Two B w) : Two B (w.drewN n) := h
theorem two_drew {B : Nat} {w : World} (h : Two B w) : Two B w.drew := h
theorem two_start (w : World) (ca cb : Array Value) : Two w.heap.size ((w.alloc (.cells ca 34)).alloc (.cells cb 34)) := by
  refine ⟨ca, cb, ?_, ?_⟩
  · show ((w.heap.push _).push _)[_]? = _
    rw [Array.getElem?_push, if_neg (by simp), Array.getElem?_push, if_pos rfl]
  · show ((w.heap.push _).push _)[_]? = _
    rw [Array.getElem?_push, if_pos (by simp)]

theorem eql_other {B : Nat} {w : World} (h : Two B w) : (binOp .eql 23 (.pointer (some ⟨B, 0, none⟩)) (.pointer (some ⟨B + 1, 0, none⟩))).run Try.prog w = .ok (.bool false) w := by
  obtain ⟨j, hj, hs⟩ := info34
  obtain ⟨ca, cb, h1, h2⟩ := h
  exact run_eql_ptr_other w Try.underlying23 hj hs (by simp) h1 h2

theorem law (a0 a1 a5 : ByteArray) (a2 a3 a4 : Bool) (w0 : a0.size ≤ maxLen) (w1 : a1.size ≤ maxLen) (w5 : a5.size ≤ maxLen) (w : World) :
    Calls Try.prog 3 #[.string a0, .string a1, .bool a2, .bool a3, .bool a4, .string a5] w fun e w' => e = .returned (.bool true) ∧ Grown w w' := by
  have hps := eql_same
  have hpl := eql_left
  cases a2 <;> cases a3 <;> cases a4
  all_goals
    go_enter Try.func3, Try.ntmps3
    go_wp2_with (first | (go_at_call 4; refine (c4 a0 a1 a5 _ _ _ w0 w1 w5 _).mono ?_; rintro e w' ⟨⟨b, rfl⟩, rfl⟩) | (go_at_call 5; refine (c5 _ _ _ _).mono ?_; rintro e w' ⟨rfl, rfl⟩) | (go_at_call 6; refine (c6 _ _ _).mono ?_; rintro e w' ⟨rfl, rfl⟩) | (go_at_call 7; refine (c7 _ _ _).mono ?_; rintro e w' ⟨rfl, n, rfl⟩))
    all_goals try (rw [eql_other (by repeat (first | (with_reducible exact two_start _ _ _) | (with_reducible refine two_alloc _ ?_) | (with_reducible refine two_drewN _ ?_) | (with_reducible refine two_drew ?_)))]; go_wp2)
    all_goals try (rw [eql_other (by repeat (first | (with_reducible exact two_start _ _ _) | (with_reducible refine two_alloc _ ?_) | (with_reducible refine two_drewN _ ?_) | (with_reducible refine two_drew ?_)))]; go_wp2)
    all_goals (go_ret; exact ⟨rfl, by repeat (first | (with_reducible exact Grown.refl _) | (with_reducible refine Grown.alloc ?_ _ _) | (with_reducible refine grown_drewN ?_ _) | (with_reducible refine Grown.drew ?_))⟩)
end Go.Proofs.Qxb6615655a
