import Derived.Test.Qxb6615168aDoorBuf
import Derived.Deep.RegionWith
namespace Go.Proofs.Qxb6615168aDoor
open Go.RowKit
set_option maxHeartbeats 2000000
set_option maxRecDepth 100000

/-- grow, the buffer nil, at most 64 bytes wanted. -/
theorem f65_small (b n : Nat) (lr : Int) (w : World) (h : Blk w b 42 [.slice none 0 0, .int .i64 0, .int .i8 lr]) (hn : 1 ≤ n) (h64 : n ≤ 64) :
    Calls Tryd.prog 65 #[.pointer (some ⟨b, 0, none⟩), .int .i64 n] w fun e w' => e = .returned (.int .i64 0) ∧ ∃ cur2 : List Int, RowAt w' w.heap.size cur2 ∧ n ≤ cur2.length ∧ cur2.length ≤ maxLen ∧
      Blk w' b 42 [.slice (some ⟨w.heap.size, 0, none⟩) n cur2.length, .int .i64 0, .int .i8 lr] ∧ Kept [b] w w' := by
  have hnil := fun (w : World) (a : Option Addr) (n c : Nat) => Lib.run_eql_slice_nil (P := Tryd.prog) w 22 _ a n c 0 0 Tryd.underlying22
  have hmk := run_mk n 64 h64 (by omega)
  rw [show ((64 : Nat) : Int) = 64 from rfl] at hmk
  have h64' : (n : Int) ≤ 64 := by omega
  go_enter Tryd.func65, Tryd.ntmps65
  go_wp2_with fail
  refine (f66 b none 0 0 lr _ h (by omega)).mono ?_
  rintro e w1 ⟨rfl, k, rfl⟩
  have h1 := h.drewN k
  have HS : Hid ((w.drewN k).heap.size = w.heap.size) := rfl
  have hk1 : Kept [b] w (w.drewN k) := (Kept.refl _ _).drewN k
  generalize w.drewN k = W at *
  have c0 := h1.cell 0 rfl
  have c1 := h1.cell 1 rfl
  have f0 := h1.frozen 0
  have hlt := h1.lt
  go_wp2_with fail
  refine (f64_none b none 0 0 n lr _ h1 (by omega) (by omega) (by unfold maxLen; omega)).mono ?_
  rintro e _ ⟨rfl, rfl⟩
  go_wp2
  go_ret
  rw [← HS.out]
  refine ⟨rfl, zeros 64, ?_, by rw [length_zeros]; exact h64, by rw [length_zeros]; simp [maxLen], ?_, ?_⟩
  · simpa using RowAt.made (W.setCell ⟨b, 0, none⟩ (.slice (some ⟨W.heap.size, 0, none⟩) n 64)) (zeros 64)
  · rw [length_zeros]
    exact (h1.set 0 (.slice (some ⟨W.heap.size, 0, none⟩) n 64)).alloc _
  · exact (hk1.setCell (p := ⟨b, 0, none⟩) (by simp) _).alloc _

theorem grow_end {w w2 : World} {b N l c : Nat} {a : Option Addr} {lr : Int} {cur2 : List Int} (h2 : Blk w2 b 42 [.slice a l c, .int .i64 0, .int .i8 lr]) (hr : RowAt w2 N cur2) (hk : Kept [b] w w2) (X Y : Value) :
    RowAt (((w2.setCell ⟨b, 0, none⟩ X).setCell ⟨b, 1, none⟩ (.int .i64 0)).setCell ⟨b, 0, none⟩ Y) N cur2 ∧
    Blk (((w2.setCell ⟨b, 0, none⟩ X).setCell ⟨b, 1, none⟩ (.int .i64 0)).setCell ⟨b, 0, none⟩ Y) b 42 [Y, .int .i64 0, .int .i8 lr] ∧
    Kept [b] w (((w2.setCell ⟨b, 0, none⟩ X).setCell ⟨b, 1, none⟩ (.int .i64 0)).setCell ⟨b, 0, none⟩ Y) := by
  have hne : N ≠ b := fun e => Blk.ne hr h2 (by decide) e
  refine ⟨?_, ?_, ?_⟩
  · exact Blk.setOther (Blk.setOther (Blk.setOther hr hne _) hne _) hne _
  · exact ((h2.set 0 X).set 1 (.int .i64 0)).set 0 Y
  · exact ((hk.setCell (p := ⟨b, 0, none⟩) (by simp) _).setCell (p := ⟨b, 1, none⟩) (by simp) _).setCell (p := ⟨b, 0, none⟩) (by simp) _

/-- grow where there is no room, by growSlice; the buffer not nil. -/
theorem f65_row (b n : Nat) (a : Addr) (l c : Nat) (xs : List Int) (lr : Int) (w : World) (h : Blk w b 42 [.slice (some a) l c, .int .i64 0, .int .i8 lr]) (ha : Hold w (some a) xs) (hxl : xs.length = l) (hlc : l ≤ c)
    (hn : 1 ≤ n) (hroom : c < l + n) (hlim : l + n ≤ 140737488355328) (hl0 : l ≠ 0) :
    Calls Tryd.prog 65 #[.pointer (some ⟨b, 0, none⟩), .int .i64 n] w fun e w' => e = .returned (.int .i64 l) ∧ ∃ cur2 : List Int, RowAt w' w.heap.size cur2 ∧ cur2.take l = xs ∧ l + n ≤ cur2.length ∧ cur2.length ≤ maxLen ∧
      Blk w' b 42 [.slice (some ⟨w.heap.size, 0, none⟩) (l + n) cur2.length, .int .i64 0, .int .i8 lr] ∧ Kept [b] w w' := by
  have hnil := fun (w : World) (a : Option Addr) (n c : Nat) => Lib.run_eql_slice_nil (P := Tryd.prog) w 22 _ a n c 0 0 Tryd.underlying22
  have hwn : IntKind.i64.wrap (n : Int) = n := by rw [IntKind.wrap_i64]; omega
  have hl0' : ((l : Int) == 0) = false := beq_eq_false_iff_ne.2 (by omega)
  go_enter Tryd.func65, Tryd.ntmps65
  go_wp2_with fail
  refine (f66 b (some a) l c lr _ h (by omega)).mono ?_
  rintro e w1 ⟨rfl, k, rfl⟩
  have h1 := h.drewN k
  have ha1 := ha.drewN k
  have HS : Hid ((w.drewN k).heap.size = w.heap.size) := rfl
  have hk1 : Kept [b] w (w.drewN k) := (Kept.refl _ _).drewN k
  have hb := h.lt
  generalize w.drewN k = W at *
  have c0 := h1.cell 0 rfl
  have c1 := h1.cell 1 rfl
  have f0 := h1.frozen 0
  have f1 := h1.frozen 1
  go_wp2_with fail
  refine (f64_none b (some a) l c n lr _ h1 (by omega) (by omega) (by unfold maxLen; omega)).mono ?_
  rintro e _ ⟨rfl, rfl⟩
  go_wp2_with fail
  go_region_with (
      go_at_call 67
      refine (f67 (some a) l c n xs _ ?_ hxl hlc hn hlim (by omega)).mono ?_
      exact ha1
      rintro e w2 ⟨cur2, rfl, hr2, htk, hcap, hcm, hbel⟩
      have h2 := h1.drew.below hbel h1.lt
      have hk2 := hk1.drew.trans (Kept.of_below hbel [b])
      have d0 := h2.cell 0 rfl
      have d1 := h2.cell 1 rfl
      have e0 := h2.frozen 0
      have e1 := h2.frozen 1)
  all_goals go_wp2
  all_goals go_ret
  all_goals rw [← HS.out]
  all_goals exact ⟨rfl, cur2, (grow_end h2 hr2 hk2 _ _).1, htk, hcap, hcm, (grow_end h2 hr2 hk2 _ _).2.1, (grow_end h2 hr2 hk2 _ _).2.2⟩

/-- grow of the nil buffer, more than 64 bytes wanted. -/
theorem f65_nil (b n : Nat) (lr : Int) (w : World) (h : Blk w b 42 [.slice none 0 0, .int .i64 0, .int .i8 lr]) (h64 : 64 < n) (hlim : n ≤ 140737488355328) :
    Calls Tryd.prog 65 #[.pointer (some ⟨b, 0, none⟩), .int .i64 n] w fun e w' => e = .returned (.int .i64 0) ∧ ∃ cur2 : List Int, RowAt w' w.heap.size cur2 ∧ n ≤ cur2.length ∧ cur2.length ≤ maxLen ∧
      Blk w' b 42 [.slice (some ⟨w.heap.size, 0, none⟩) n cur2.length, .int .i64 0, .int .i8 lr] ∧ Kept [b] w w' := by
  have hnil := fun (w : World) (a : Option Addr) (n c : Nat) => Lib.run_eql_slice_nil (P := Tryd.prog) w 22 _ a n c 0 0 Tryd.underlying22
  have hwn : IntKind.i64.wrap (n : Int) = n := by rw [IntKind.wrap_i64]; omega
  have h64' : (64 : Int) < (n : Int) := by omega
  have h65 : ¬ (n : Int) ≤ 0 := by omega
  go_enter Tryd.func65, Tryd.ntmps65
  go_wp2_with fail
  refine (f66 b none 0 0 lr _ h (by omega)).mono ?_
  rintro e w1 ⟨rfl, k, rfl⟩
  have h1 := h.drewN k
  have HS : Hid ((w.drewN k).heap.size = w.heap.size) := rfl
  have hk1 : Kept [b] w (w.drewN k) := (Kept.refl _ _).drewN k
  have hb := h.lt
  generalize w.drewN k = W at *
  have c0 := h1.cell 0 rfl
  have c1 := h1.cell 1 rfl
  have f0 := h1.frozen 0
  have f1 := h1.frozen 1
  go_wp2_with fail
  refine (f64_none b none 0 0 n lr _ h1 (by omega) (by omega) (by unfold maxLen; omega)).mono ?_
  rintro e _ ⟨rfl, rfl⟩
  go_wp2_with fail
  go_region_with (
      go_at_call 67
      refine (f67 none 0 0 n [] _ ?_ rfl (by omega) (by omega) (by omega) (by omega)).mono ?_
      exact Hold.nil _ _
      rintro e w2 ⟨cur2, rfl, hr2, htk, hcap, hcm, hbel⟩
      have h2 := h1.drew.below hbel h1.lt
      have hk2 := hk1.drew.trans (Kept.of_below hbel [b])
      have d0 := h2.cell 0 rfl
      have d1 := h2.cell 1 rfl
      have e0 := h2.frozen 0
      have e1 := h2.frozen 1)
  all_goals go_wp2
  all_goals go_ret
  all_goals rw [← HS.out]
  all_goals exact ⟨rfl, cur2, (grow_end h2 hr2 hk2 _ _).1, by omega, hcm, (grow_end h2 hr2 hk2 _ _).2.1, (grow_end h2 hr2 hk2 _ _).2.2⟩
end Go.Proofs.Qxb6615168aDoor
