import Derived.Test.Qxb6615168aDoorEnds
namespace Go.Proofs.Qxb6615168aDoor
open Go.RowKit Go.MuLone
set_option maxHeartbeats 2000000
set_option maxRecDepth 100000

/-- A new Writer over a bytes.Buffer. -/
def Made (w : World) (b s u ur f : Nat) (w' : World) : Prop :=
  Blk w' s 53 [.int .i32 0, .int .u32 0, .pointer (some ⟨u, 0, none⟩), .slice (some ⟨f, 0, none⟩) 5 65540, .nilIface] ∧ Bio w' u ur b 0 ∧ RowAt w' ur (zeros 65536) ∧ RowAt w' f (zeros 65540) ∧ ur ≠ f ∧
    w.heap.size ≤ s ∧ w.heap.size ≤ u ∧ w.heap.size ≤ ur ∧ w.heap.size ≤ f ∧ Below w.heap.size w w'

theorem f14 (b : Nat) (w : World) :
    Calls Tryd.prog 14 #[.iface 26 (.pointer (some ⟨b, 0, none⟩))] w fun e w' => ∃ s u ur f, e = .returned (.pointer (some ⟨s, 0, none⟩)) ∧ Made w b s u ur f w' := by
  have hmk := run_mk 5 65540 (by omega) (by omega)
  rw [show ((5 : Nat) : Int) = 5 from rfl, show ((65540 : Nat) : Int) = 65540 from rfl] at hmk
  go_enter Tryd.func14, Tryd.ntmps14
  go_wp2_with fail
  go_region_with (
      go_at_call 21
      refine (f21 b _).mono ?_
      rintro e W1 ⟨rfl, hb1, hr1, bl1, sz1⟩)
  all_goals go_wp2
  all_goals go_ret
  · have sz : W1.heap.size = w.heap.size + 2 := sz1
    have hb : Bio W1 (w.heap.size + 1) w.heap.size b 0 := hb1
    have hr : RowAt W1 w.heap.size (zeros 65536) := hr1
    have bl : Below w.heap.size w W1 := (Below.refl _ w).drew.trans bl1
    refine ⟨w.heap.size + 2 + 1, w.heap.size + 1, w.heap.size, w.heap.size + 2, rfl, ?_, (Blk.alloc hb _).alloc _, (Blk.alloc hr _).alloc _, ?_, by omega, by omega, by omega, by omega, by omega, (bl.alloc (by omega) _).alloc (by simp; omega) _⟩
    · have q := Blk.made (W1.alloc (row (zeros 65540))) 53 [.int .i32 0, .int .u32 0, .pointer (some ⟨w.heap.size + 1, 0, none⟩), .slice (some ⟨w.heap.size + 2, 0, none⟩) 5 65540, .nilIface]
      rw [World.size_alloc, sz] at q
      exact q
    · have q := Blk.alloc (RowAt.made W1 (zeros 65540)) (.cells #[.int .i32 0, .int .u32 0, .pointer (some ⟨w.heap.size + 1, 0, none⟩), .slice (some ⟨w.heap.size + 2, 0, none⟩) 5 65540, .nilIface] 53)
      rw [sz] at q
      exact q
  · have sz : W1.heap.size = w.heap.size + 1 + 2 := by rw [sz1]; show (w.alloc (row (zeros 65540))).heap.size + 2 = _; rw [World.size_alloc]
    have e0 : (w.alloc (row (zeros 65540))).drew.heap.size = w.heap.size + 1 := by show (w.alloc (row (zeros 65540))).heap.size = _; rw [World.size_alloc]
    rw [e0] at hb1 hr1 bl1
    have hf : RowAt W1 w.heap.size (zeros 65540) := Blk.below (w := (w.alloc (row (zeros 65540))).drew) (RowAt.made w _) bl1 (by omega)
    have bl : Below w.heap.size w W1 := ((Below.refl _ w).alloc (Nat.le_refl _) _).drew.trans (bl1.mono (by omega))
    refine ⟨w.heap.size + 1 + 2, w.heap.size + 1 + 1, w.heap.size + 1, w.heap.size, rfl, ?_, Blk.alloc hb1 _, Blk.alloc hr1 _, Blk.alloc hf _, by omega, by omega, by omega, by omega, by omega, bl.alloc (by omega) _⟩
    have q := Blk.made W1 53 [.int .i32 0, .int .u32 0, .pointer (some ⟨w.heap.size + 1 + 1, 0, none⟩), .slice (some ⟨w.heap.size, 0, none⟩) 5 65540, .nilIface]
    rw [sz] at q
    exact q

/-- ZZnewSinkWriter: a new Writer over a new, empty bytes.Buffer. -/
theorem f6 (w : World) :
    Calls Tryd.prog 6 #[] w fun e w' => ∃ s u ur f, e = .returned (.tuple #[.pointer (some ⟨s, 0, none⟩), .pointer (some ⟨w.heap.size, 0, none⟩)]) ∧
      St w' w.heap.size s u ur f w.heap.size [] 0 5 (zeros 65540) (zeros 65536) 0 [] ∧ Below w.heap.size w w' := by
  go_enter Tryd.func6, Tryd.ntmps6
  go_wp2_with fail
  refine (f14 w.heap.size _).mono ?_
  rintro e W1 ⟨s, u, ur, f, rfl, hB, hb, hr, hf, hne, n1, n2, n3, n4, bl⟩
  rw [World.size_alloc] at n1 n2 n3 n4 bl
  have hsink : Blk W1 w.heap.size 42 [.slice none 0 0, .int .i64 0, .int .i8 0] := Blk.below (Blk.made w 42 [.slice none 0 0, .int .i64 0, .int .i8 0]) bl (by omega)
  have bl' : Below w.heap.size w W1 := ((Below.refl _ w).alloc (Nat.le_refl _) _).trans (bl.mono (by omega))
  have hS : St W1 w.heap.size s u ur f w.heap.size [] 0 5 (zeros 65540) (zeros 65536) 0 [] :=
    ⟨hB, hb, hr, hf, .inl ⟨rfl, rfl, 0, hsink⟩, length_zeros _, length_zeros _, hne, by simp, by simp, by omega, by omega, by omega, by omega, Nat.le_refl _, by simp, bl'.size⟩
  clear hB hb hr hf hsink bl
  go_wp2
  go_ret2
  exact ⟨s, u, ur, f, rfl, hS, bl'⟩
end Go.Proofs.Qxb6615168aDoor
