import Derived.Test.Qxb6615168aDoorBufio
namespace Go.Proofs.Qxb6615168aDoor
open Go.RowKit
set_option maxHeartbeats 2000000
set_option maxRecDepth 100000

/-- (*bufio.Writer).Flush with nothing in the buffer. -/
theorem f26_none (u ur b : Nat) (w : World) (h : Bio w u ur b 0) :
    Calls Tryd.prog 26 #[.pointer (some ⟨u, 0, none⟩)] w fun e w' => e = .returned .nilIface ∧ w = w' := by
  have c0 := h.cell 0 rfl
  have c2 := h.cell 2 rfl
  go_enter Tryd.func26, Tryd.ntmps26
  go_wp2
  go_ret
  exact ⟨rfl, rfl⟩

theorem Sink.set {w : World} {b : Nat} {G : List Nat} {bs : List Int} (h : Sink w b G bs) {u : Nat} {t : TypeId} {cs : List Value} (hu : Blk w u t cs) (h1 : t ≠ 42) (h2 : t ≠ 5) (i : Nat) (v : Value) : Sink (w.setCell ⟨u, i, none⟩ v) b G bs :=
  h.kept (L := [u]) ((Kept.refl _ _).setCell (p := ⟨u, i, none⟩) (by simp) _) (fun k hk e => by
    rw [List.mem_singleton] at e
    subst e
    exact h.sep hu h1 h2 hk)

/-- (*bufio.Writer).Flush: the buffer's bytes go to the sink. -/
theorem f26_some (u ur b : Nat) (G : List Nat) (us bs ps : List Int) (w : World) (h : Bio w u ur b ps.length) (hr : RowAt w ur us) (htk : us.take ps.length = ps) (h0 : ps ≠ []) (hp : ps.length ≤ 65536)
    (hs : Sink w b G bs) (hlim : bs.length + ps.length ≤ 140737488355328) :
    Calls Tryd.prog 26 #[.pointer (some ⟨u, 0, none⟩)] w fun e w' => e = .returned .nilIface ∧ Bio w' u ur b 0 ∧
      ∃ G', Sink w' b G' (bs ++ ps) ∧ Kept (u :: b :: G) w w' ∧ ∀ k ∈ G', k ∈ G ∨ w.heap.size ≤ k := by
  have c0 := h.cell 0 rfl
  have c1 := h.cell 1 rfl
  have c2 := h.cell 2 rfl
  have c3 := h.cell 3 rfl
  have z2 := h.frozen 2
  have hpl : 0 < ps.length := List.length_pos_iff.2 h0
  have hp0 : ((ps.length : Int) == 0) = false := beq_eq_false_iff_ne.2 (by omega)
  have ha := hold_of_row hr ps.length
  rw [htk] at ha
  have hu2 := hs.sep h (by decide) (by decide)
  go_enter Tryd.func26, Tryd.ntmps26
  go_wp2_with fail
  go_region_with (
      go_at_call 63
      refine (f63 b G bs ps (some ⟨ur, 0, none⟩) _ _ ?_ h0 ?_ hlim).mono ?_
      exact hs
      exact ha
      rintro e W2 ⟨rfl, G', hs2, hk2, hG⟩
      have h2 : Bio W2 u ur b ps.length := Blk.kept (w := w.drew) h hk2 hu2
      have d0 := h2.cell 0 rfl
      have d2 := h2.cell 2 rfl
      have y2 := h2.frozen 2)
  all_goals go_wp2
  all_goals go_ret
  all_goals exact ⟨rfl, h2.set 2 (.int .i64 0), G', hs2.set h2 (by decide) (by decide) 2 _, ((Kept.refl _ _).drew.trans (hk2.mono (fun k _ hk => List.mem_cons_of_mem _ hk))).setCell (p := ⟨u, 2, none⟩) (by simp) _, hG⟩

theorem run_assert (b : Nat) (w : World) : (Instr.typeAssert (.iface 26 (.pointer (some ⟨b, 0, none⟩))) 60 51 true).run Tryd.prog w = .ok (.tuple #[.pointer none, .bool false]) w := by kernel_rfl

/-- bufio.NewWriterSize over a bytes.Buffer. -/
theorem f21 (b : Nat) (w : World) :
    Calls Tryd.prog 21 #[.iface 26 (.pointer (some ⟨b, 0, none⟩)), .int .i64 65536] w fun e w' => e = .returned (.pointer (some ⟨w.heap.size + 1, 0, none⟩)) ∧
      Bio w' (w.heap.size + 1) w.heap.size b 0 ∧ RowAt w' w.heap.size (zeros 65536) ∧ Below w.heap.size w w' ∧ w'.heap.size = w.heap.size + 2 := by
  have hmk := run_mk 65536 65536 (by omega) (by omega)
  rw [show ((65536 : Nat) : Int) = 65536 from rfl] at hmk
  have hta := run_assert b
  go_enter Tryd.func21, Tryd.ntmps21
  go_wp2
  go_ret
  refine ⟨rfl, ?_, ?_, ?_, by simp⟩
  · unfold Bio
    simpa using Blk.made (w.alloc (row (zeros 65536))) 68 [.nilIface, .slice (some ⟨w.heap.size, 0, none⟩) 65536 65536, .int .i64 0, .iface 26 (.pointer (some ⟨b, 0, none⟩))]
  · exact Blk.alloc (RowAt.made w _) _
  · exact ((Below.refl _ _).alloc (Nat.le_refl _) _).alloc (by simp) _
end Go.Proofs.Qxb6615168aDoor
