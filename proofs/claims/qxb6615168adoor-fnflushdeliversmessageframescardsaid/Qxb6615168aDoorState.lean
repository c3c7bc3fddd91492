import Derived.Test.Qxb6615168aDoorFlush
import Derived.Test.Qxb6615168aDoorHead
namespace Go.Proofs.Qxb6615168aDoor
open Go.RowKit
set_option maxHeartbeats 2000000
set_option maxRecDepth 100000

/-- THE WRITER AND ALL THAT HANGS ON IT: block s the wire.Writer, u the bufio.Writer with its row ur (m bytes in it), f the frame's row (fs, of which the first fl count), b the sink (bs written). All from block N on. -/
structure St (w : World) (N s u ur f b : Nat) (G : List Nat) (mu : Int) (fl : Nat) (fs us : List Int) (m : Nat) (bs : List Int) : Prop where
  blk : Blk w s 53 [.int .i32 mu, .int .u32 0, .pointer (some ⟨u, 0, none⟩), .slice (some ⟨f, 0, none⟩) fl 65540, .nilIface]
  bio : Bio w u ur b m
  rur : RowAt w ur us
  rf : RowAt w f fs
  sink : Sink w b G bs
  usl : us.length = 65536
  fsl : fs.length = 65540
  d1 : ur ≠ f
  d2 : ur ∉ G
  d3 : f ∉ G
  ns : N ≤ s
  nu : N ≤ u
  nur : N ≤ ur
  nf : N ≤ f
  nb : N ≤ b
  nG : ∀ k, k ∈ G → N ≤ k
  nw : N ≤ w.heap.size

/-- Draws turn nothing of it. -/
theorem St.same {w w' : World} {N s u ur f b : Nat} {G : List Nat} {mu : Int} {fl : Nat} {fs us : List Int} {m : Nat} {bs : List Int} (h : St w N s u ur f b G mu fl fs us m bs) (hh : w'.heap = w.heap) : St w' N s u ur f b G mu fl fs us m bs := by
  have hk : Kept [] w w' → True := fun _ => trivial
  obtain ⟨h1, h2, h3, h4, h5, h6, h7, h8, h9, h10, h11, h12, h13, h14, h15, h16, h17⟩ := h
  refine ⟨?_, ?_, ?_, ?_, ?_, h6, h7, h8, h9, h10, h11, h12, h13, h14, h15, h16, by rw [hh]; exact h17⟩
  · unfold Blk at *; rw [hh]; exact h1
  · unfold Bio Blk at *; rw [hh]; exact h2
  · unfold RowAt Blk at *; rw [hh]; exact h3
  · unfold RowAt Blk at *; rw [hh]; exact h4
  · unfold Sink RowAt Blk at *; rw [hh]; exact h5

/-- (*bufio.Writer).Write of the frame. -/
theorem f25 (N s u ur f b : Nat) (G : List Nat) (mu : Int) (fl : Nat) (fs us bs : List Int) (w : World) (h : St w N s u ur f b G mu fl fs us 0 bs) (hfl : 5 ≤ fl) (hfl' : fl ≤ 65540) (hlim : bs.length ≤ 1000000000) :
    Calls Tryd.prog 25 #[.pointer (some ⟨u, 0, none⟩), .slice (some ⟨f, 0, none⟩) fl 65540] w fun e w' => e = .returned (.tuple #[.int .i64 fl, .nilIface]) ∧
      ∃ G' us' m' bs', St w' N s u ur f b G' mu fl fs us' m' bs' ∧ Below N w w' ∧ m' ≤ 65536 ∧ bs' ++ us'.take m' = bs ++ fs.take fl ∧ (65536 < fl → m' = 0 ∧ bs' = bs ++ fs.take fl) := by
  have hlen : (fs.take fl).length = fl := by rw [List.length_take, h.fsl]; omega
  have hh := hold_of_row h.rf fl
  by_cases hc : fl ≤ 65536
  · have q := f25_small u ur b us (fs.take fl) (some ⟨f, 0, none⟩) 65540 w h.bio h.rur h.usl hh (by omega)
    rw [hlen] at q
    refine q.mono ?_
    rintro e w' ⟨rfl, hb, hr, hk⟩
    have e1 : u ≠ f := Blk.ne h.bio h.rf (by decide)
    have e2 : s ≠ u := Blk.ne h.blk h.bio (by decide)
    have e3 : s ≠ ur := Blk.ne h.blk h.rur (by decide)
    refine ⟨rfl, G, over us 0 (fs.take fl), fl, bs, ⟨h.blk.kept hk (by simp [e2, e3]), hb, hr, h.rf.kept hk (by simp [Ne.symm e1, Ne.symm h.d1]), ?_, ?_, h.fsl, h.d1, h.d2, h.d3, h.ns, h.nu, h.nur, h.nf, h.nb, h.nG, Nat.le_trans h.nw hk.size⟩, ?_, hc, ?_, fun hx => by omega⟩
    · refine h.sink.kept hk (fun k hk' e => ?_)
      have a1 := h.sink.sep h.bio (by decide) (by decide)
      have a2 := h.sink.sepRow h.rur h.d2
      simp only [List.mem_cons, List.not_mem_nil, or_false] at e
      rcases e with rfl | rfl
      · exact a1 hk'
      · exact a2 hk'
    · rw [length_over _ _ _ (by rw [hlen, h.usl]; omega)]; exact h.usl
    · exact hk.below h.nw (by simp only [List.mem_cons, List.not_mem_nil, or_false]; rintro k (rfl | rfl); exact h.nu; exact h.nur)
    · congr 1
      rw [over, List.take_zero, List.nil_append, List.take_append_of_le_length (by omega), List.take_of_length_le (by omega)]
  · have q := f25_big u ur b G us (fs.take fl) bs ⟨f, 0, none⟩ 65540 w h.bio h.rur hh (by omega) (by omega) h.sink h.d2 (by omega) (by omega)
    rw [hlen] at q
    refine q.mono ?_
    rintro e w' ⟨rfl, hb, hr, G', hs, hk, hG⟩
    have a1 := h.sink.sep h.blk (by decide) (by decide)
    have a2 := h.sink.sepRow h.rf h.d3
    have e1 : f ≠ u := Blk.ne h.rf h.bio (by decide)
    have e2 : s ≠ u := Blk.ne h.blk h.bio (by decide)
    have fresh : ∀ k zs, RowAt w k zs → k ∉ G → k ∉ G' := fun k zs hr hn hm => by
      rcases hG k hm with hm | hm
      · exact hn hm
      · have := hr.lt; omega
    refine ⟨rfl, G', us, 0, bs ++ fs.take fl, ⟨h.blk.kept hk ?_, hb, hr, h.rf.kept hk ?_, hs, h.usl, h.fsl, h.d1, fresh ur us h.rur h.d2, fresh f fs h.rf h.d3, h.ns, h.nu, h.nur, h.nf, h.nb, ?_, Nat.le_trans h.nw hk.size⟩, ?_, by omega, by simp, fun _ => ⟨rfl, rfl⟩⟩
    · rw [List.mem_cons]; rintro (e | e); exact e2 e; exact a1 e
    · rw [List.mem_cons]; rintro (e | e); exact e1 e; exact a2 e
    · intro k hm
      rcases hG k hm with hm | hm
      · exact h.nG k hm
      · exact Nat.le_trans h.nw hm
    · exact hk.below h.nw (by simp only [List.mem_cons]; rintro k (rfl | rfl | hm); exact h.nu; exact h.nb; exact h.nG k hm)
end Go.Proofs.Qxb6615168aDoor
