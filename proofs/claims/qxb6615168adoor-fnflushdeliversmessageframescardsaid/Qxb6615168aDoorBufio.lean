import Derived.Test.Qxb6615168aDoorSink
namespace Go.Proofs.Qxb6615168aDoor
open Go.RowKit
set_option maxHeartbeats 2000000
set_option maxRecDepth 100000

/-- Block u is a bufio.Writer with no error, its buffer row ur (65536 bytes), m bytes in it, over the bytes.Buffer of block b. -/
def Bio (w : World) (u ur b : Nat) (m : Int) : Prop := Blk w u 68 [.nilIface, .slice (some ⟨ur, 0, none⟩) 65536 65536, .int .i64 m, .iface 26 (.pointer (some ⟨b, 0, none⟩))]

theorem f36 (u ur b : Nat) (w : World) (h : Bio w u ur b 0) :
    Calls Tryd.prog 36 #[.pointer (some ⟨u, 0, none⟩)] w fun e w' => e = .returned (.int .i64 65536) ∧ ∃ n, w' = w.drewN n := by
  have c1 := h.cell 1 rfl
  have c2 := h.cell 2 rfl
  go_enter Tryd.func36, Tryd.ntmps36
  go_wp2
  go_quiet (fail)
  go_wp2
  go_ret
  exact ⟨rfl, nq, rfl⟩

theorem f37 (u ur b : Nat) (w : World) (h : Bio w u ur b 0) :
    Calls Tryd.prog 37 #[.pointer (some ⟨u, 0, none⟩)] w fun e w' => e = .returned (.int .i64 0) ∧ w = w' := by
  have c2 := h.cell 2 rfl
  go_enter Tryd.func37, Tryd.ntmps37
  go_wp2
  go_ret
  exact ⟨rfl, rfl⟩

/-- Write of at most 65536 bytes into an empty buffer: they are kept there. -/
theorem f25_small (u ur b : Nat) (us ps : List Int) (a : Option Addr) (c : Nat) (w : World) (h : Bio w u ur b 0) (hr : RowAt w ur us) (hus : us.length = 65536) (ha : Hold w a ps) (hp : ps.length ≤ 65536) :
    Calls Tryd.prog 25 #[.pointer (some ⟨u, 0, none⟩), .slice a ps.length c] w fun e w' => e = .returned (.tuple #[.int .i64 ps.length, .nilIface]) ∧
      Bio w' u ur b ps.length ∧ RowAt w' ur (over us 0 ps) ∧ Kept [u, ur] w w' := by
  have hp' : ¬ (65536 : Int) < (ps.length : Int) := by omega
  go_enter Tryd.func25, Tryd.ntmps25
  go_wp2_with fail
  refine wp_loop_rounds 1 ?_
  rw [rounds_succ]
  go_wp2_with fail
  refine (f36 u ur b _ h).mono ?_
  rintro e w1 ⟨rfl, k, rfl⟩
  have h1 : Bio (w.drewN k) u ur b 0 := h
  have hr1 : RowAt (w.drewN k) ur us := hr
  have ha1 := ha.drewN k
  have hk1 : Kept [u, ur] w (w.drewN k) := (Kept.refl _ _).drewN k
  generalize w.drewN k = W at *
  have c0 := h1.cell 0 rfl
  have c1 := h1.cell 1 rfl
  have c2 := h1.cell 2 rfl
  have z2 := h1.frozen 2
  have hcp := run_cp W.drew ur 0 us ps (some ⟨ur, 0, none⟩) a 3 65536 ps.length 65536 c hr1 ha1 (fun _ => rfl) (Nat.min_eq_left hp).symm (by omega)
  go_wp2_with fail
  go_region
  have hne : u ≠ ur := Blk.ne h1 hr1 (by decide)
  have h2 : Bio (putRow W.drew ur (over us 0 ps)) u ur b 0 := (setRow_other W.drew ur u _ hne).trans h1
  have hr2 : RowAt (putRow W.drew ur (over us 0 ps)) ur (over us 0 ps) := putRow_row (w := W.drew) hr1 _
  have hk2 : Kept [u, ur] w (putRow W.drew ur (over us 0 ps)) := putRow_kept hk1.drew (by simp) _
  clear hcp c0 c1 c2 z2
  generalize putRow W.drew ur (over us 0 ps) = W2 at *
  have c2 := h2.cell 2 rfl
  have z2 := h2.frozen 2
  go_wp2
  go_ret2
  refine ⟨rfl, ?_, ?_, ?_⟩
  · exact h2.set 2 (.int .i64 ps.length)
  · exact Blk.setOther hr2 (Ne.symm hne) _
  · exact hk2.setCell (p := ⟨u, 2, none⟩) (by simp) _

theorem Sink.blk {w : World} {b : Nat} {G : List Nat} {bs : List Int} (h : Sink w b G bs) : ∃ cs, Blk w b 42 cs := by
  rcases h with ⟨_, _, lr, h⟩ | ⟨g, cur, lr, _, _, _, _, _, _, h⟩
  · exact ⟨_, h⟩
  · exact ⟨_, h⟩
/-- A block of another type is none of the buffer's. -/
theorem Sink.sep {w : World} {b : Nat} {G : List Nat} {bs : List Int} (h : Sink w b G bs) {u : Nat} {t : TypeId} {cs : List Value} (hu : Blk w u t cs) (h1 : t ≠ 42) (h2 : t ≠ 5) : u ∉ b :: G := by
  intro hm
  obtain ⟨cb, hb⟩ := h.blk
  rcases List.mem_cons.1 hm with e | hm
  · exact Blk.ne hu hb h1 e
  · rcases h with ⟨rfl, _, _⟩ | ⟨g, cur, lr, rfl, _, _, _, _, hr, _⟩
    · simp at hm
    · exact Blk.ne hu hr h2 (by simpa using hm)
theorem Sink.sepRow {w : World} {b : Nat} {G : List Nat} {bs : List Int} (h : Sink w b G bs) {r : Nat} {us : List Int} (hr : RowAt w r us) (hG : r ∉ G) : r ∉ b :: G := by
  intro hm
  obtain ⟨cb, hb⟩ := h.blk
  rcases List.mem_cons.1 hm with e | hm
  · exact Blk.ne hr hb (by decide) e
  · exact hG hm
theorem Sink.kept {L : List Nat} {w w' : World} {b : Nat} {G : List Nat} {bs : List Int} (h : Sink w b G bs) (hk : Kept L w w') (hL : ∀ k, k ∈ b :: G → k ∉ L) : Sink w' b G bs := by
  rcases h with ⟨rfl, rfl, lr, h⟩ | ⟨g, cur, lr, rfl, hb0, hlc, hm, htk, hr, h⟩
  · exact .inl ⟨rfl, rfl, lr, h.kept hk (hL b (by simp))⟩
  · exact .inr ⟨g, cur, lr, rfl, hb0, hlc, hm, htk, hr.kept hk (hL g (by simp)), h.kept hk (hL b (by simp))⟩

/-- Write of more than 65536 bytes over an empty buffer: they go straight to the sink. -/
theorem f25_big (u ur b : Nat) (G : List Nat) (us ps bs : List Int) (a : Addr) (c : Nat) (w : World) (h : Bio w u ur b 0) (hr : RowAt w ur us) (ha : Hold w (some a) ps) (hp : 65536 < ps.length) (hc : ps.length ≤ c)
    (hs : Sink w b G bs) (hurG : ur ∉ G) (hlim : bs.length + ps.length ≤ 140737488355328) (hcm : c ≤ 140737488355328) :
    Calls Tryd.prog 25 #[.pointer (some ⟨u, 0, none⟩), .slice (some a) ps.length c] w fun e w' => e = .returned (.tuple #[.int .i64 ps.length, .nilIface]) ∧
      Bio w' u ur b 0 ∧ RowAt w' ur us ∧ ∃ G', Sink w' b G' (bs ++ ps) ∧ Kept (u :: b :: G) w w' ∧ ∀ k ∈ G', k ∈ G ∨ w.heap.size ≤ k := by
  have hp' : (65536 : Int) < (ps.length : Int) := by omega
  go_enter Tryd.func25, Tryd.ntmps25
  go_wp2_with fail
  refine wp_loop_rounds 2 ?_
  rw [rounds_succ]
  go_wp2_with fail
  refine (f36 u ur b _ h).mono ?_
  rintro e w1 ⟨rfl, k, rfl⟩
  have h1 : Bio (w.drewN k) u ur b 0 := h
  have hr1 : RowAt (w.drewN k) ur us := hr
  have ha1 := ha.drewN k
  have hs1 : Sink (w.drewN k) b G bs := hs
  have hk1 : Kept (u :: b :: G) w (w.drewN k) := (Kept.refl _ _).drewN k
  have HS : Hid ((w.drewN k).heap.size = w.heap.size) := rfl
  generalize w.drewN k = W at *
  have c0 := h1.cell 0 rfl
  have c1 := h1.cell 1 rfl
  have c2 := h1.cell 2 rfl
  have c3 := h1.cell 3 rfl
  have z2 := h1.frozen 2
  have z0 := h1.frozen 0
  go_wp2_with fail
  refine (f37 u ur b _ h1).mono ?_
  rintro e _ ⟨rfl, rfl⟩
  go_wp2_with fail
  refine (f63 b G bs ps (some a) c W hs1 (by intro e; rw [e] at hp; simp at hp) ha1 hlim).mono ?_
  rintro e W2 ⟨rfl, G', hs2, hk2, hG⟩
  have hu2 := hs1.sep h1 (by decide) (by decide)
  have hur2 := hs1.sepRow hr1 hurG
  have h2 : Bio W2 u ur b 0 := Blk.kept h1 hk2 hu2
  have hr2 := hr1.kept hk2 hur2
  have hne : u ≠ ur := Blk.ne h1 hr1 (by decide)
  have hk2' : Kept (u :: b :: G) w W2 := hk1.trans (hk2.mono (fun k _ hk => List.mem_cons_of_mem _ hk))
  have h3 : Bio (W2.setCell ⟨u, 0, none⟩ .nilIface) u ur b 0 := h2.set 0 .nilIface
  have hr3 : RowAt (W2.setCell ⟨u, 0, none⟩ .nilIface) ur us := Blk.setOther hr2 (Ne.symm hne) _
  have hk3 : Kept (u :: b :: G) w (W2.setCell ⟨u, 0, none⟩ .nilIface) := hk2'.setCell (p := ⟨u, 0, none⟩) (by simp) _
  have hs3 : Sink (W2.setCell ⟨u, 0, none⟩ .nilIface) b G' (bs ++ ps) := hs2.kept (L := [u]) ((Kept.refl _ _).setCell (p := ⟨u, 0, none⟩) (by simp) _) (fun k hk => by
    have := hs2.sep h2 (by decide) (by decide)
    intro e
    rw [List.mem_singleton] at e
    subst e
    exact this hk)
  have hG' : ∀ k ∈ G', k ∈ G ∨ w.heap.size ≤ k := fun k hk => by rw [← HS.out]; exact hG k hk
  have HG : Hid _ := hG'
  have d0 := h2.cell 0 rfl
  have y0 := h2.frozen 0
  have hcp : ∀ (W : World) (d a : Option Addr) (n c c' : Nat), (Builtin.copy_ #[22, 22] 3 #[.slice d n c, .slice a 0 c']).run Tryd.prog W = .ok (goInt 0) W := fun W d a n c c' => run_copy_none W 22 22 3 5 d a n c 0 c' Tryd.underlying22 size5 (by simp)
  clear c0 c1 c2 c3 z0 z2 hG hG' hs2 hk2 hr1 h1 hs1 ha1 hk1 hk2' hr2
  by_cases hcn : c = ps.length
  · subst hcn
    go_wp2_with fail
    clear d0 y0 h2
    generalize W2.setCell ⟨u, 0, none⟩ .nilIface = W3 at *
    rw [rounds_succ]
    go_wp2_with fail
    refine (f36 u ur b _ h3).mono ?_
    rintro e _ ⟨rfl, k3, rfl⟩
    have h4 : Bio (W3.drewN k3) u ur b 0 := h3
    have hr4 : RowAt (W3.drewN k3) ur us := hr3
    have hk4 : Kept (u :: b :: G) w (W3.drewN k3) := hk3.drewN k3
    have hs4 : Sink (W3.drewN k3) b G' (bs ++ ps) := hs3
    clear h3 hr3 hk3 hs3
    generalize W3.drewN k3 = W4 at *
    have c0 := h4.cell 0 rfl
    have c1 := h4.cell 1 rfl
    have c2 := h4.cell 2 rfl
    have z2 := h4.frozen 2
    go_wp2_with fail
    go_region
    have h5 : Bio W4.drew u ur b 0 := h4
    have hr5 : RowAt W4.drew ur us := hr4
    have hk5 : Kept (u :: b :: G) w W4.drew := hk4.drew
    have hs5 : Sink W4.drew b G' (bs ++ ps) := hs4
    clear h4 hr4 hk4 hs4 c0 c1 c2 z2
    generalize W4.drew = W5 at *
    have c2 := h5.cell 2 rfl
    have z2 := h5.frozen 2
    go_wp2
    go_ret2
    refine ⟨by simp, h5.set 2 (.int .i64 0), Blk.setOther hr5 (Ne.symm hne) _, G', ?_, hk5.setCell (p := ⟨u, 2, none⟩) (by simp) _, HG.out⟩
    exact hs5.kept (L := [u]) ((Kept.refl _ _).setCell (p := ⟨u, 2, none⟩) (by simp) _) (fun k hk e => by
      rw [List.mem_singleton] at e
      subst e
      exact hs5.sep h5 (by decide) (by decide) hk)
  · go_wp2_with fail
    clear d0 y0 h2
    generalize W2.setCell ⟨u, 0, none⟩ .nilIface = W3 at *
    rw [rounds_succ]
    go_wp2_with fail
    refine (f36 u ur b _ h3).mono ?_
    rintro e _ ⟨rfl, k3, rfl⟩
    have h4 : Bio (W3.drewN k3) u ur b 0 := h3
    have hr4 : RowAt (W3.drewN k3) ur us := hr3
    have hk4 : Kept (u :: b :: G) w (W3.drewN k3) := hk3.drewN k3
    have hs4 : Sink (W3.drewN k3) b G' (bs ++ ps) := hs3
    clear h3 hr3 hk3 hs3
    generalize W3.drewN k3 = W4 at *
    have c0 := h4.cell 0 rfl
    have c1 := h4.cell 1 rfl
    have c2 := h4.cell 2 rfl
    have z2 := h4.frozen 2
    go_wp2_with fail
    go_region
    have h5 : Bio W4.drew u ur b 0 := h4
    have hr5 : RowAt W4.drew ur us := hr4
    have hk5 : Kept (u :: b :: G) w W4.drew := hk4.drew
    have hs5 : Sink W4.drew b G' (bs ++ ps) := hs4
    clear h4 hr4 hk4 hs4 c0 c1 c2 z2
    generalize W4.drew = W5 at *
    have c2 := h5.cell 2 rfl
    have z2 := h5.frozen 2
    go_wp2
    go_ret2
    refine ⟨by simp, h5.set 2 (.int .i64 0), Blk.setOther hr5 (Ne.symm hne) _, G', ?_, hk5.setCell (p := ⟨u, 2, none⟩) (by simp) _, HG.out⟩
    exact hs5.kept (L := [u]) ((Kept.refl _ _).setCell (p := ⟨u, 2, none⟩) (by simp) _) (fun k hk e => by
      rw [List.mem_singleton] at e
      subst e
      exact hs5.sep h5 (by decide) (by decide) hk)
end Go.Proofs.Qxb6615168aDoor
