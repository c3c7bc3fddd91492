import Derived.Test.Qxb6615168aDoorState
namespace Go.Proofs.Qxb6615168aDoor
open Go.RowKit
set_option maxHeartbeats 2000000
set_option maxRecDepth 100000

/-- Only the frame's row has turned. -/
theorem St.frame {w w' : World} {N s u ur f b : Nat} {G : List Nat} {mu : Int} {fl : Nat} {fs us : List Int} {m : Nat} {bs : List Int} (h : St w N s u ur f b G mu fl fs us m bs) (hk : Kept [f] w w') {fs' : List Int} (hr : RowAt w' f fs')
    (hl : fs'.length = 65540) : St w' N s u ur f b G mu fl fs' us m bs := by
  have e1 : s ≠ f := Blk.ne h.blk h.rf (by decide)
  have e2 : u ≠ f := Blk.ne h.bio h.rf (by decide)
  refine ⟨h.blk.kept hk (by simpa using e1), Blk.kept h.bio hk (by simpa using e2), h.rur.kept hk (by simpa using h.d1), hr, h.sink.kept hk (fun k hm e => ?_), h.usl, hl, h.d1, h.d2, h.d3, h.ns, h.nu, h.nur, h.nf, h.nb, h.nG, Nat.le_trans h.nw hk.size⟩
  rw [List.mem_singleton] at e
  subst e
  exact h.sink.sepRow h.rf h.d3 hm
/-- Only the writer's own block has turned. -/
theorem St.head {w w' : World} {N s u ur f b : Nat} {G : List Nat} {mu mu' : Int} {fl fl' : Nat} {fs us : List Int} {m : Nat} {bs : List Int} (h : St w N s u ur f b G mu fl fs us m bs) (hk : Kept [s] w w')
    (hb : Blk w' s 53 [.int .i32 mu', .int .u32 0, .pointer (some ⟨u, 0, none⟩), .slice (some ⟨f, 0, none⟩) fl' 65540, .nilIface]) : St w' N s u ur f b G mu' fl' fs us m bs := by
  have e1 : f ≠ s := Blk.ne h.rf h.blk (by decide)
  have e2 : u ≠ s := Blk.ne h.bio h.blk (by decide)
  have e3 : ur ≠ s := Blk.ne h.rur h.blk (by decide)
  refine ⟨hb, Blk.kept h.bio hk (by simpa using e2), h.rur.kept hk (by simpa using e3), h.rf.kept hk (by simpa using e1), h.sink.kept hk (fun k hm e => ?_), h.usl, h.fsl, h.d1, h.d2, h.d3, h.ns, h.nu, h.nur, h.nf, h.nb, h.nG, Nat.le_trans h.nw hk.size⟩
  rw [List.mem_singleton] at e
  subst e
  exact h.sink.sep h.blk (by decide) (by decide) hm

theorem emit_end {w : World} {N s u ur f b : Nat} {G : List Nat} {mu : Int} {fl : Nat} {fs us : List Int} {m : Nat} {bs : List Int} (h : St w N s u ur f b G mu fl fs us m bs) (k : Int) :
    St (((w.setCell ⟨s, 4, none⟩ .nilIface).setCell ⟨s, 3, none⟩ (.slice (some ⟨f, 0, none⟩) 5 65540)).setCell ⟨f, 4, none⟩ (.int .u8 k)) N s u ur f b G mu 5 (fs.set 4 k) us m bs := by
  have k1 : Kept [s] w ((w.setCell ⟨s, 4, none⟩ .nilIface).setCell ⟨s, 3, none⟩ (.slice (some ⟨f, 0, none⟩) 5 65540)) :=
    ((Kept.refl _ _).setCell (p := ⟨s, 4, none⟩) (by simp) _).setCell (p := ⟨s, 3, none⟩) (by simp) _
  have h1 := h.head (fl' := 5) k1 ((h.blk.set 4 .nilIface).set 3 (.slice (some ⟨f, 0, none⟩) 5 65540))
  exact h1.frame ((Kept.refl _ _).setCell (p := ⟨f, 4, none⟩) (by simp) _) (h1.rf.set 4 k) (by rw [List.length_set]; exact h.fsl)

theorem take_hdr (v kb : Int) (fs : List Int) (fl : Nat) (h : 5 ≤ fl) : (hdr v kb ++ fs.drop 5).take fl = hdr v kb ++ (fs.drop 5).take (fl - 5) := by
  rw [List.take_append, List.take_of_length_le (by simp [hdr]; omega)]
  simp [hdr]

/-- emit: the frame goes to the buffer or, where it is longer, straight to the sink; the next frame of the same kind is begun. -/
theorem f17 (N s u ur f b : Nat) (G : List Nat) (mu : Int) (fl : Nat) (fs us bs : List Int) (k flags : Int) (w : World) (h : St w N s u ur f b G mu fl fs us 0 bs) (hk4 : fs.getD 4 0 = k) (hfl : 5 ≤ fl) (hfl' : fl ≤ 65540) (hlim : bs.length ≤ 1000000000) :
    Calls Tryd.prog 17 #[.pointer (some ⟨s, 0, none⟩), .int .u8 flags] w fun e w' => e = .returned (.tuple #[]) ∧
      ∃ G' fs' us' m' bs', St w' N s u ur f b G' mu 5 fs' us' m' bs' ∧ Below N w w' ∧ fs'.getD 4 0 = k ∧ m' ≤ 65536 ∧
        bs' ++ us'.take m' = bs ++ (hdr (1 + (fl - 5 : Nat)) (bits BinOp.or IntKind.u8 k flags) ++ (fs.drop 5).take (fl - 5)) ∧
        (65536 < fl → m' = 0 ∧ bs' = bs ++ (hdr (1 + (fl - 5 : Nat)) (bits BinOp.or IntKind.u8 k flags) ++ (fs.drop 5).take (fl - 5))) := by
  have c3 := h.blk.cell 3 rfl
  have r4 := h.rf.cell (i := 4) (by rw [h.fsl]; omega)
  rw [hk4] at r4
  have hw5 : IntKind.i64.wrap ((fl : Int) - 5) = ((fl - 5 : Nat) : Int) := by rw [IntKind.wrap_i64]; omega
  have hfl4 : (4 : Int) < (fl : Int) := by omega
  have htk := take_hdr (1 + (fl - 5 : Nat)) (bits BinOp.or IntKind.u8 k flags) fs fl hfl
  have HT : Hid _ := htk
  clear htk
  go_enter Tryd.func17, Tryd.ntmps17
  go_wp2_with fail
  go_region_with (
      go_at_call 24
      refine (f24 f fl 65540 (fl - 5) fs (bits BinOp.or IntKind.u8 k flags) _ ?_ (by rw [h.fsl]; omega) hfl (by omega)).mono ?_
      exact h.rf
      rintro e W1 ⟨rfl, hr1, hk1⟩)
  all_goals
    have hlen1 : (hdr (1 + (fl - 5 : Nat)) (bits BinOp.or IntKind.u8 k flags) ++ fs.drop 5).length = 65540 := by rw [List.length_append, List.length_drop, h.fsl]; rfl
    have h1 : St W1 N s u ur f b G mu fl (hdr (1 + (fl - 5 : Nat)) (bits BinOp.or IntKind.u8 k flags) ++ fs.drop 5) us 0 bs := (h.same (w' := w.drew) rfl).frame hk1 hr1 hlen1
    have b1 : Below N w W1 := (Below.refl N w).drew.trans (hk1.below h.nw (by simpa using h.nf))
    generalize hF : (hdr (1 + (fl - 5 : Nat)) (bits BinOp.or IntKind.u8 k flags) ++ fs.drop 5) = F at *
    clear c3 r4 hr1 hk1 hlen1 hF
    have c2 := h1.blk.cell 2 rfl
    have c3 := h1.blk.cell 3 rfl
    have c4 := h1.blk.cell 4 rfl
    have z4 := h1.blk.frozen 4
    go_wp2_with fail
    go_region_with (
        go_at_call 25
        refine (f25 N s u ur f b G mu fl F us bs _ ?_ hfl hfl' hlim).mono ?_
        exact h1.same rfl
        rintro e W2 ⟨rfl, G', us', m', bs', h2, b2, hm, heq, hbig⟩
        have d3 := h2.blk.cell 3 rfl
        have d4 := h2.blk.cell 4 rfl
        have y3 := h2.blk.frozen 3
        have y4 := h2.blk.frozen 4
        have q4 := h2.rf.cell (i := 4) (by rw [h2.fsl]; omega)
        have x4 := h2.rf.frozen 4
        have hsf : s ≠ f := Blk.ne h2.blk h2.rf (by decide)
        have HQ : Hid _ := heq
        have HB : Hid _ := hbig
        clear heq hbig c2 c3 c4 z4)
    all_goals go_wp2
    all_goals go_returns
    all_goals exact ⟨rfl, G', F.set 4 k, us', m', bs', emit_end h2 k, (((b1.drew.trans b2).setCell (p := ⟨s, 4, none⟩) h.ns _).setCell (p := ⟨s, 3, none⟩) h.ns _).setCell (p := ⟨f, 4, none⟩) h.nf _, by simp [h2.fsl], hm, by rw [HQ.out, HT.out], fun hx => ⟨(HB.out hx).1, by rw [(HB.out hx).2, HT.out]⟩⟩
end Go.Proofs.Qxb6615168aDoor
