import Derived.Test.Qxb6615168aDoorBytes
namespace Go.Proofs.Qxb6615168aDoor
open Go.RowKit Go.MuLone
set_option maxHeartbeats 2000000
set_option maxRecDepth 100000

/-- (*Writer).flush: what the buffer still holds goes to the sink; no error. -/
theorem f18 (N s u ur f b : Nat) (G : List Nat) (mu : Int) (fl : Nat) (fs us bs : List Int) (m : Nat) (w : World) (h : St w N s u ur f b G mu fl fs us m bs) (hm : m ≤ 65536) (hlim : bs.length ≤ 1000000000) :
    Calls Tryd.prog 18 #[.pointer (some ⟨s, 0, none⟩)] w fun e w' => e = .returned .nilIface ∧ (∃ G', Sink w' b G' (bs ++ us.take m)) ∧ Below N w w' := by
  have c2 := h.blk.cell 2 rfl
  have c4 := h.blk.cell 4 rfl
  have z4 := h.blk.frozen 4
  by_cases h0 : m = 0
  · subst h0
    go_enter Tryd.func18, Tryd.ntmps18
    go_wp2_with fail
    refine (f26_none u ur b w h.bio).mono ?_
    rintro e _ ⟨rfl, rfl⟩
    go_wp2
    go_ret
    exact ⟨rfl, ⟨G, by simpa using h.sink.set h.blk (by decide) (by decide) 4 .nilIface⟩, (Below.refl _ _).setCell (p := ⟨s, 4, none⟩) h.ns _⟩
  · have hlen : (us.take m).length = m := by rw [List.length_take, h.usl]; omega
    have hbio : Bio w u ur b ((us.take m).length : Nat) := by rw [hlen]; exact h.bio
    have hne : us.take m ≠ [] := by intro e; rw [e] at hlen; simp at hlen; omega
    go_enter Tryd.func18, Tryd.ntmps18
    go_wp2_with fail
    refine (f26_some u ur b G us bs (us.take m) w hbio h.rur (by rw [hlen]) hne (by omega) h.sink (by omega)).mono ?_
    rintro e W ⟨rfl, hb2, G', hs2, hk2, hG⟩
    have e1 : s ∉ b :: G := h.sink.sep h.blk (by decide) (by decide)
    have e2 : s ≠ u := Blk.ne h.blk h.bio (by decide)
    have hB := h.blk.kept hk2 (by rw [List.mem_cons]; rintro (e | e); exact e2 e; exact e1 e)
    have d4 := hB.cell 4 rfl
    have y4 := hB.frozen 4
    have hbel : Below N w W := hk2.below h.nw (by simp only [List.mem_cons]; rintro k (rfl | rfl | hk); exact h.nu; exact h.nb; exact h.nG k hk)
    have HS : Hid (∃ G', Sink (W.setCell ⟨s, 4, none⟩ .nilIface) b G' (bs ++ us.take m)) := ⟨G', hs2.set hB (by decide) (by decide) 4 .nilIface⟩
    clear c2 c4 z4 hs2 hb2
    go_wp2
    go_ret
    exact ⟨rfl, HS.out, hbel.setCell (p := ⟨s, 4, none⟩) h.ns _⟩

theorem f10 (N s u ur f b : Nat) (G : List Nat) (mu : Int) (fl : Nat) (fs us bs : List Int) (m : Nat) (w : World) (h : St w N s u ur f b G mu fl fs us m bs) (hm : m ≤ 65536) (hlim : bs.length ≤ 1000000000) :
    Calls Tryd.prog 10 #[.pointer (some ⟨s, 0, none⟩)] w fun e w' => e = .returned .nilIface ∧ (∃ G', Sink w' b G' (bs ++ us.take m)) ∧ Below N w w' := by
  go_enter Tryd.func10, Tryd.ntmps10
  go_wp2_with fail
  refine (f18 N s u ur f b G mu fl fs us bs m w h hm hlim).mono ?_
  rintro e W ⟨rfl, hs, hb⟩
  have HS : Hid _ := hs
  clear hs
  go_wp2
  go_ret
  exact ⟨rfl, HS.out, hb⟩

theorem f9 (N s u ur f b : Nat) (G : List Nat) (mu : Int) (fl : Nat) (fs us bs : List Int) (k : Int) (w : World) (h : St w N s u ur f b G mu fl fs us 0 bs) (hk4 : fs.getD 4 0 = k) (hfl : 5 ≤ fl) (hfl' : fl ≤ 65540) (hlim : bs.length ≤ 900000000) :
    Calls Tryd.prog 9 #[.pointer (some ⟨s, 0, none⟩), .int .u8 0] w fun e w' => e = .returned (.tuple #[]) ∧
      ∃ G' fs' us' m' bs', St w' N s u ur f b G' mu 5 fs' us' m' bs' ∧ Below N w w' ∧ m' ≤ 65536 ∧ bs'.length ≤ 1000000000 ∧
        bs' ++ us'.take m' = bs ++ (hdr (1 + (fl - 5 : Nat)) (bits BinOp.or IntKind.u8 k 0) ++ (fs.drop 5).take (fl - 5)) := by
  go_enter Tryd.func9, Tryd.ntmps9
  go_wp2_with fail
  refine (f17 N s u ur f b G mu fl fs us bs k 0 w h hk4 hfl hfl' (by omega)).mono ?_
  rintro e W ⟨rfl, G', fs', us', m', bs', h1, hb, _, hm, heq, _⟩
  have hl : bs'.length ≤ 1000000000 := by
    have q := congrArg List.length heq
    simp only [List.length_append, List.length_take, List.length_drop, h.fsl, hdr, List.length_cons, List.length_nil] at q
    omega
  have HQ : Hid _ := heq
  clear heq
  go_wp2
  go_returns
  exact ⟨rfl, G', fs', us', m', bs', h1, hb, hm, hl, HQ.out⟩

theorem f12 (b : Nat) (G : List Nat) (bs : List Int) (w : World) (h : Sink w b G bs) (hl : bs.length ≤ 281474976710656) :
    Calls Tryd.prog 12 #[.pointer (some ⟨b, 0, none⟩)] w fun e w' => (∃ a c, e = .returned (.slice a bs.length c) ∧ Hold w a bs) ∧ ∃ n, w' = w.drewN n := by
  go_enter Tryd.func12, Tryd.ntmps12
  go_wp2_with fail
  refine (f19 b G bs w h hl).mono ?_
  rintro e W ⟨⟨a, c, rfl, hh⟩, n, rfl⟩
  go_wp2
  go_ret
  exact ⟨⟨a, c, rfl, hh⟩, n, rfl⟩
end Go.Proofs.Qxb6615168aDoor
