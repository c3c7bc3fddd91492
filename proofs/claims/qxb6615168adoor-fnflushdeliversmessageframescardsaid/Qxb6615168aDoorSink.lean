import Derived.Test.Qxb6615168aDoorGrow
namespace Go.Proofs.Qxb6615168aDoor
open Go.RowKit
set_option maxHeartbeats 2000000
set_option maxRecDepth 100000

/-- Block b is a bytes.Buffer that has only been written and holds bs; its row, if any, is the one block of G. -/
def Sink (w : World) (b : Nat) (G : List Nat) (bs : List Int) : Prop :=
  (G = [] ∧ bs = [] ∧ ∃ lr, Blk w b 42 [.slice none 0 0, .int .i64 0, .int .i8 lr]) ∨
  (∃ g cur lr, G = [g] ∧ bs ≠ [] ∧ bs.length ≤ cur.length ∧ cur.length ≤ maxLen ∧ cur.take bs.length = bs ∧ RowAt w g cur ∧ Blk w b 42 [.slice (some ⟨g, 0, none⟩) bs.length cur.length, .int .i64 0, .int .i8 lr])

/-- Bytes do not lie in a buffer's own block: so they outlive what turns that block alone. -/
theorem hold_kept {w w' : World} {b : Nat} {a' : Option Addr} {l c : Nat} {lr : Int} {a : Option Addr} {ys : List Int} (h : Blk w b 42 [.slice a' l c, .int .i64 0, .int .i8 lr]) (hy : Hold w a ys) (hk : Kept [b] w w') : Hold w' a ys := by
  intro hx
  obtain ⟨b1, o1, e, hc⟩ := hy hx
  refine ⟨b1, o1, e, fun i hi => ?_⟩
  have h1 := hc i hi
  have hne : b1 ≠ b := by
    intro e
    subst e
    unfold Blk at h
    simp only [World.cell?, h] at h1
    match o1 + i, h1 with
    | 0, h1 => simp at h1
    | 1, h1 => simp at h1
    | 2, h1 => simp at h1
    | k + 3, h1 => simp at h1
  rw [World.cell?_of_block (hk.block b1 (cell_lt h1) (by simpa using hne))]
  exact h1

/-- What a Write leaves: the bytes behind those that were there. -/
theorem sink_end {w W : World} {b g : Nat} {G : List Nat} {bs ys cur : List Int} (lr : Int) (hb : Blk W b 42 [.slice (some ⟨g, 0, none⟩) (bs.length + ys.length) cur.length, .int .i64 0, .int .i8 lr]) (hr : RowAt W g cur)
    (htk : cur.take bs.length = bs) (hl : bs.length + ys.length ≤ cur.length) (hm : cur.length ≤ maxLen) (hy : ys ≠ []) (hk : Kept (b :: G) w W) (hg : g ∈ G ∨ w.heap.size ≤ g) :
    ∃ G', Sink (putRow W g (over cur bs.length ys)) b G' (bs ++ ys) ∧ Kept (b :: G) w (putRow W g (over cur bs.length ys)) ∧ ∀ k ∈ G', k ∈ G ∨ w.heap.size ≤ k := by
  have hlen := length_over cur bs.length ys hl
  have hgb : b ≠ g := Blk.ne hb hr (by decide)
  refine ⟨[g], .inr ⟨g, over cur bs.length ys, lr, rfl, by simp [hy], by rw [hlen]; simpa using hl, by rw [hlen]; exact hm, ?_, putRow_row hr _, ?_⟩, ?_, by simpa using hg⟩
  · simp only [over, htk, List.length_append, List.append_assoc]
    rw [← List.append_assoc, List.take_append_of_le_length (by simp), List.take_of_length_le (by simp)]
  · rw [hlen, List.length_append]
    exact (setRow_other W g b _ hgb).trans hb
  · refine putRow_kept hk (fun hlt => ?_) _
    rcases hg with hg | hg
    · exact List.mem_cons_of_mem _ hg
    · omega

/-- (*bytes.Buffer).Write, there being room. -/
theorem f63_room (b g : Nat) (bs ys cur : List Int) (a : Option Addr) (c : Nat) (lr : Int) (w : World) (h : Blk w b 42 [.slice (some ⟨g, 0, none⟩) bs.length cur.length, .int .i64 0, .int .i8 lr]) (hr : RowAt w g cur)
    (htk : cur.take bs.length = bs) (hl : bs.length + ys.length ≤ cur.length) (hm : cur.length ≤ maxLen) (hy : ys ≠ []) (ha : Hold w a ys) :
    Calls Tryd.prog 63 #[.pointer (some ⟨b, 0, none⟩), .slice a ys.length c] w fun e w' => e = .returned (.tuple #[.int .i64 ys.length, .nilIface]) ∧
      ∃ G', Sink w' b G' (bs ++ ys) ∧ Kept [b, g] w w' ∧ ∀ k ∈ G', k ∈ [g] ∨ w.heap.size ≤ k := by
  have c2 := h.cell 2 rfl
  have z2 := h.frozen 2
  have hgb : g ≠ b := Blk.ne hr h (by decide)
  have h1 := h.set 2 (.int .i8 0)
  have hk1 : Kept [b] w (w.setCell ⟨b, 2, none⟩ (.int .i8 0)) := (Kept.refl _ _).setCell (p := ⟨b, 2, none⟩) (by simp) _
  have ha1 := hold_kept h ha hk1
  have hr1 : RowAt (w.setCell ⟨b, 2, none⟩ (.int .i8 0)) g cur := Blk.setOther hr hgb _
  simp only [List.set_cons_succ, List.set_cons_zero] at h1
  have hyl : 0 < ys.length := List.length_pos_iff.2 hy
  go_enter Tryd.func63, Tryd.ntmps63
  go_wp2_with fail
  generalize w.setCell ⟨b, 2, none⟩ (.int .i8 0) = W at *
  refine (f64_room b _ _ _ ys.length 0 _ h1 hl hm).mono ?_
  rintro e _ ⟨rfl, rfl⟩
  have h2 := h1.set 0 (.slice (some ⟨g, 0, none⟩) (bs.length + ys.length) cur.length)
  have hk2 : Kept [b] W (W.setCell ⟨b, 0, none⟩ (.slice (some ⟨g, 0, none⟩) (bs.length + ys.length) cur.length)) := (Kept.refl _ _).setCell (p := ⟨b, 0, none⟩) (by simp) _
  have ha2 := hold_kept h1 ha1 hk2
  have hr2 : RowAt (W.setCell ⟨b, 0, none⟩ (.slice (some ⟨g, 0, none⟩) (bs.length + ys.length) cur.length)) g cur := Blk.setOther hr1 hgb _
  have hk3 : Kept [b, g] w (W.setCell ⟨b, 0, none⟩ (.slice (some ⟨g, 0, none⟩) (bs.length + ys.length) cur.length)) := (hk1.trans hk2).mono (by simp; omega)
  simp only [List.set_cons_zero] at h2
  generalize W.setCell ⟨b, 0, none⟩ (.slice (some ⟨g, 0, none⟩) (bs.length + ys.length) cur.length) = W2 at *
  have d0 := h2.cell 0 rfl
  have hne : ¬ cur.length = bs.length := by omega
  have hcp := run_cp W2 g bs.length cur ys (some ⟨g, bs.length, none⟩) a 3 ys.length ys.length (cur.length - bs.length) c hr2 ha2 (fun _ => rfl) (Nat.min_self _).symm hl
  have hm' := hm
  unfold maxLen at hm'
  go_wp2
  go_ret2
  exact ⟨rfl, sink_end 0 h2 hr2 htk hl hm hy hk3 (.inl (by simp))⟩

/-- (*bytes.Buffer).Write, the row being too short. -/
theorem f63_row (b g : Nat) (bs ys cur : List Int) (a : Option Addr) (c : Nat) (lr : Int) (w : World) (h : Blk w b 42 [.slice (some ⟨g, 0, none⟩) bs.length cur.length, .int .i64 0, .int .i8 lr]) (hr : RowAt w g cur)
    (htk : cur.take bs.length = bs) (hb0 : bs ≠ []) (hlc : bs.length ≤ cur.length) (hl : cur.length < bs.length + ys.length) (hy : ys ≠ []) (ha : Hold w a ys) (hlim : bs.length + ys.length ≤ 140737488355328) :
    Calls Tryd.prog 63 #[.pointer (some ⟨b, 0, none⟩), .slice a ys.length c] w fun e w' => e = .returned (.tuple #[.int .i64 ys.length, .nilIface]) ∧
      ∃ G', Sink w' b G' (bs ++ ys) ∧ Kept [b, g] w w' ∧ ∀ k ∈ G', k ∈ [g] ∨ w.heap.size ≤ k := by
  have c2 := h.cell 2 rfl
  have z2 := h.frozen 2
  have hgb : g ≠ b := Blk.ne hr h (by decide)
  have h1 := h.set 2 (.int .i8 0)
  have hk1 : Kept [b] w (w.setCell ⟨b, 2, none⟩ (.int .i8 0)) := (Kept.refl _ _).setCell (p := ⟨b, 2, none⟩) (by simp) _
  have ha1 := hold_kept h ha hk1
  have hr1 : RowAt (w.setCell ⟨b, 2, none⟩ (.int .i8 0)) g cur := Blk.setOther hr hgb _
  simp only [List.set_cons_succ, List.set_cons_zero] at h1
  have HS : Hid ((w.setCell ⟨b, 2, none⟩ (.int .i8 0)).heap.size = w.heap.size) := by show _ = _; simp
  have hyl : 0 < ys.length := List.length_pos_iff.2 hy
  have hbl : 0 < bs.length := List.length_pos_iff.2 hb0
  go_enter Tryd.func63, Tryd.ntmps63
  go_wp2_with fail
  generalize w.setCell ⟨b, 2, none⟩ (.int .i8 0) = W at *
  have hbs := hold_of_row hr1 bs.length
  rw [htk] at hbs
  refine (f64_none b _ _ _ ys.length 0 _ h1 hlc hl (by unfold maxLen; omega)).mono ?_
  rintro e _ ⟨rfl, rfl⟩
  go_wp2_with fail
  refine (f65_row b ys.length ⟨g, 0, none⟩ bs.length cur.length bs 0 _ h1 hbs rfl hlc (by omega) hl hlim (by omega)).mono ?_
  rintro e W2 ⟨rfl, cur2, hr2, htk2, hl2, hm2, h2, hk2⟩
  have ha2 := hold_kept h1 ha1 hk2
  have hk3 : Kept [b, g] w W2 := (hk1.trans hk2).mono (by simp; omega)
  have d0 := h2.cell 0 rfl
  have hne : ¬ cur2.length = bs.length := by omega
  have hcp := run_cp W2 W.heap.size bs.length cur2 ys (some ⟨W.heap.size, bs.length, none⟩) a 3 ys.length ys.length (cur2.length - bs.length) c hr2 ha2 (fun _ => rfl) (Nat.min_self _).symm hl2
  have hm' := hm2
  unfold maxLen at hm'
  go_wp2
  go_ret2
  exact ⟨rfl, sink_end 0 h2 hr2 htk2 hl2 hm2 hy hk3 (.inr (by rw [HS.out]; exact Nat.le_refl _))⟩

/-- (*bytes.Buffer).Write into the nil buffer. -/
theorem f63_nil (b : Nat) (ys : List Int) (a : Option Addr) (c : Nat) (lr : Int) (w : World) (h : Blk w b 42 [.slice none 0 0, .int .i64 0, .int .i8 lr]) (hy : ys ≠ []) (ha : Hold w a ys) (hlim : ys.length ≤ 140737488355328) :
    Calls Tryd.prog 63 #[.pointer (some ⟨b, 0, none⟩), .slice a ys.length c] w fun e w' => e = .returned (.tuple #[.int .i64 ys.length, .nilIface]) ∧
      ∃ G', Sink w' b G' ys ∧ Kept [b] w w' ∧ ∀ k ∈ G', k ∈ ([] : List Nat) ∨ w.heap.size ≤ k := by
  have c2 := h.cell 2 rfl
  have z2 := h.frozen 2
  have h1 := h.set 2 (.int .i8 0)
  have hk1 : Kept [b] w (w.setCell ⟨b, 2, none⟩ (.int .i8 0)) := (Kept.refl _ _).setCell (p := ⟨b, 2, none⟩) (by simp) _
  have ha1 := hold_kept h ha hk1
  simp only [List.set_cons_succ, List.set_cons_zero] at h1
  have HS : Hid ((w.setCell ⟨b, 2, none⟩ (.int .i8 0)).heap.size = w.heap.size) := by show _ = _; simp
  have hyl : 0 < ys.length := List.length_pos_iff.2 hy
  have hgrow : ∀ W : World, Blk W b 42 [.slice none 0 0, .int .i64 0, .int .i8 0] → Calls Tryd.prog 65 #[.pointer (some ⟨b, 0, none⟩), .int .i64 ys.length] W fun e w' => e = .returned (.int .i64 0) ∧ ∃ cur2 : List Int, RowAt w' W.heap.size cur2 ∧ ys.length ≤ cur2.length ∧ cur2.length ≤ maxLen ∧
      Blk w' b 42 [.slice (some ⟨W.heap.size, 0, none⟩) ys.length cur2.length, .int .i64 0, .int .i8 0] ∧ Kept [b] W w' := by
    intro W hW
    by_cases h64 : ys.length ≤ 64
    · exact f65_small b ys.length 0 W hW (by omega) h64
    · exact f65_nil b ys.length 0 W hW (by omega) hlim
  have HG : Hid _ := hgrow
  clear hgrow
  go_enter Tryd.func63, Tryd.ntmps63
  go_wp2_with fail
  generalize w.setCell ⟨b, 2, none⟩ (.int .i8 0) = W at *
  refine (f64_none b _ _ _ ys.length 0 _ h1 (by omega) (by omega) (by unfold maxLen; omega)).mono ?_
  rintro e _ ⟨rfl, rfl⟩
  go_wp2_with fail
  refine Calls.mono (HG.out W h1) ?_
  rintro e W2 ⟨rfl, cur2, hr2, hl2, hm2, h2, hk2⟩
  have ha2 := hold_kept h1 ha1 hk2
  have hk3 : Kept [b] w W2 := hk1.trans hk2
  have d0 := h2.cell 0 rfl
  have hne : ¬ cur2.length = 0 := by omega
  have hcp := run_cp W2 W.heap.size 0 cur2 ys (some ⟨W.heap.size, 0, none⟩) a 3 ys.length ys.length cur2.length c hr2 ha2 (fun _ => rfl) (Nat.min_self _).symm (by omega)
  have hm' := hm2
  unfold maxLen at hm'
  go_wp2
  go_ret2
  have := sink_end (bs := []) (G := []) 0 (by simpa using h2) hr2 (by simp) (by simpa using hl2) hm2 hy hk3 (.inr (by rw [HS.out]; exact Nat.le_refl _))
  exact ⟨rfl, by simpa using this⟩

/-- (*bytes.Buffer).Write of some bytes. -/
theorem f63 (b : Nat) (G : List Nat) (bs ys : List Int) (a : Option Addr) (c : Nat) (w : World) (h : Sink w b G bs) (hy : ys ≠ []) (ha : Hold w a ys) (hlim : bs.length + ys.length ≤ 140737488355328) :
    Calls Tryd.prog 63 #[.pointer (some ⟨b, 0, none⟩), .slice a ys.length c] w fun e w' => e = .returned (.tuple #[.int .i64 ys.length, .nilIface]) ∧
      ∃ G', Sink w' b G' (bs ++ ys) ∧ Kept (b :: G) w w' ∧ ∀ k ∈ G', k ∈ G ∨ w.heap.size ≤ k := by
  rcases h with ⟨rfl, rfl, lr, h⟩ | ⟨g, cur, lr, rfl, hb0, hlc, hm, htk, hr, h⟩
  · exact f63_nil b ys a c lr w h hy ha (by simpa using hlim)
  · by_cases hl : bs.length + ys.length ≤ cur.length
    · exact f63_room b g bs ys cur a c lr w h hr htk hl hm hy ha
    · exact f63_row b g bs ys cur a c lr w h hr htk hb0 hlc (by omega) hy ha hlim

/-- (*bytes.Buffer).Bytes: a slice that holds what was written. -/
theorem f19 (b : Nat) (G : List Nat) (bs : List Int) (w : World) (h : Sink w b G bs) (hl : bs.length ≤ 281474976710656) :
    Calls Tryd.prog 19 #[.pointer (some ⟨b, 0, none⟩)] w fun e w' => (∃ a c, e = .returned (.slice a bs.length c) ∧ Hold w a bs) ∧ ∃ n, w' = w.drewN n := by
  rcases h with ⟨rfl, rfl, lr, h⟩ | ⟨g, cur, lr, rfl, hb0, hlc, hm, htk, hr, h⟩
  · have c0 := h.cell 0 rfl
    have c1 := h.cell 1 rfl
    go_enter Tryd.func19, Tryd.ntmps19
    go_wp2
    go_quiet (fail)
    go_wp2
    go_ret
    exact ⟨⟨none, 0, rfl, Hold.nil _ _⟩, nq, rfl⟩
  · have c0 := h.cell 0 rfl
    have c1 := h.cell 1 rfl
    have hbs := hold_of_row hr bs.length
    rw [htk] at hbs
    have hm' := hm
    unfold maxLen at hm'
    go_enter Tryd.func19, Tryd.ntmps19
    go_wp2
    go_quiet (fail)
    go_wp2
    go_ret
    exact ⟨⟨_, _, rfl, hbs⟩, nq, rfl⟩
end Go.Proofs.Qxb6615168aDoor
