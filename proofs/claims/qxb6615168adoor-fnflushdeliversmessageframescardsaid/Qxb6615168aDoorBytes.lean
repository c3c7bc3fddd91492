import Derived.Test.Qxb6615168aDoorBegin
import Derived.Test.Qxb6615168aDoorPlain
namespace Go.Proofs.Qxb6615168aDoor
open Go.RowKit Go.MuLone
set_option maxHeartbeats 2000000
set_option maxRecDepth 100000

/-- The one exit is the normal one. -/
def Only (K : Act → World → Prop) : Exit → Act → World → Prop
  | .normal, a, w => K a w
  | _, _, _ => False
/-- A piece of code that ends normally, whatever the rest asks of other exits. -/
theorem wp_only {P : Program} {c : Code} {Q : Exit → Act → World → Prop} {a : Act} {w : World} (h : c.wp P (Only (fun a w => Q .normal a w)) a w) : c.wp P Q a w :=
  Code.wp_mono (fun e a w hq => by cases e <;> first | exact hq | exact hq.elim) h

theorem only_intro {Q : Exit → Act → World → Prop} {a : Act} {w : World} (h : Q .normal a w) : Only (fun a w => Q .normal a w) .normal a w := h

/-- A slice's length. -/
def lenOf : Value → Nat | .slice _ n _ => n | _ => 0

/-- What holds at the head of the loop of Bytes, j pieces having been taken. -/
def Rel (w : World) (N s u ur f b : Nat) (k : Int) (ps : List Int) (v : Value) (wr : World) : Prop :=
  ∃ (j : Nat) (a : Option Addr) (c : Nat) (G : List Nat) (fs us : List Int), v = .slice a (ps.length - j * 65535) c ∧ Hold wr a (ps.drop (j * 65535)) ∧ ps.length - j * 65535 ≤ c ∧ c ≤ maxLen ∧
    (∀ x, a = some x → x.block < N) ∧ fs.getD 4 0 = k ∧ Below N w wr ∧
    ((j = 0 ∧ St wr N s u ur f b G 1 5 fs us 0 []) ∨
     (∃ i, j = i + 1 ∧ i * 65535 < ps.length ∧ St wr N s u ur f b G 1 (5 + (chunk ps i).length) fs us 0 (sent k ps i) ∧ (fs.drop 5).take (chunk ps i).length = chunk ps i))

/-- What Bytes leaves: the last piece in the frame, all before it in the sink. -/
def Done (w : World) (N s u ur f b : Nat) (k : Int) (ps : List Int) (mu : Int) (w' : World) : Prop :=
  ∃ (i : Nat) (G : List Nat) (fs us : List Int), (i = 0 ∨ i * 65535 < ps.length) ∧ ps.length ≤ (i + 1) * 65535 ∧ St w' N s u ur f b G mu (5 + (chunk ps i).length) fs us 0 (sent k ps i) ∧
    (fs.drop 5).take (chunk ps i).length = chunk ps i ∧ fs.getD 4 0 = k ∧ Below N w w'

theorem done_of_rel {w : World} {N s u ur f b : Nat} {k : Int} {ps : List Int} {v : Value} {wr : World} (h : Rel w N s u ur f b k ps v wr) (h0 : lenOf v = 0) : Done w N s u ur f b k ps 1 wr := by
  obtain ⟨j, a, c, G, fs, us, rfl, _, _, _, _, hk, hb, hc⟩ := h
  simp only [lenOf] at h0
  rcases hc with ⟨rfl, hs⟩ | ⟨i, rfl, hi, hs, ht⟩
  · have hl : ps.length = 0 := by omega
    have hps : ps = [] := List.eq_nil_of_length_eq_zero hl
    subst hps
    exact ⟨0, G, fs, us, .inl rfl, by simp, by simpa [chunk, sent] using hs, by simp [chunk], hk, hb⟩
  · exact ⟨i, G, fs, us, .inr hi, by omega, hs, ht, hk, hb⟩

theorem nat_step (p j L x c : Nat) (hL : p - j * c = L) (hx : x = min c L) : p - (j + 1) * c = L - x := by
  rw [Nat.succ_mul]
  omega

theorem rel_next {w W3 : World} {N s u ur f b : Nat} {k : Int} {ps xs F us : List Int} {G : List Nat} {j L pb po : Nat} (hL : ps.length - j * 65535 = L) (hX : chunk ps j = xs) (hxl : xs.length = min 65535 L) (h0 : ¬ L = 0)
    (hcell : ∀ i, i < (ps.drop (j * 65535)).length → w.cell? ⟨pb, po + i, none⟩ = some (.int .u8 ((ps.drop (j * 65535)).getD i 0))) (hpb : pb < N) (hb : Below N w W3)
    (hs : St W3 N s u ur f b G 1 (5 + xs.length) F us 0 (sent k ps j)) (hk : F.getD 4 0 = k) (ht : (F.drop 5).take xs.length = xs)
    (a2 : Option Addr) (c2 : Nat) (ha2 : L - xs.length ≠ 0 → a2 = some ⟨pb, po + xs.length, none⟩) (hlow : ∀ x, a2 = some x → x.block < N) (hc2 : L - xs.length ≤ c2) (hcm : c2 ≤ maxLen) :
    Rel w N s u ur f b k ps (.slice a2 (L - xs.length) c2) W3 := by
  have e : ps.length - (j + 1) * 65535 = L - xs.length := nat_step _ _ _ _ 65535 hL hxl
  refine ⟨j + 1, a2, c2, G, F, us, by rw [e], ?_, by omega, hcm, hlow, hk, hb, .inr ⟨j, rfl, by omega, by rw [hX]; exact hs, by rw [hX]; exact ht⟩⟩
  intro hne
  have hlen : (ps.drop ((j + 1) * 65535)).length = L - xs.length := by rw [List.length_drop]; exact e
  have hpos : L - xs.length ≠ 0 := by
    intro e0
    rw [e0] at hlen
    exact hne (List.eq_nil_of_length_eq_zero hlen)
  have hx : xs.length = 65535 := by omega
  refine ⟨pb, po + xs.length, ha2 hpos, fun i hi => ?_⟩
  have hi' : 65535 + i < (ps.drop (j * 65535)).length := by rw [List.length_drop]; rw [hlen] at hi; omega
  have h1 := hcell (65535 + i) hi'
  rw [hx, show po + 65535 + i = po + (65535 + i) by omega, hb.cell (p := ⟨pb, po + (65535 + i), none⟩) hpb, h1]
  simp only [List.getD_eq_getElem?_getD, List.getElem?_drop]
  rw [show j * 65535 + (65535 + i) = (j + 1) * 65535 + i by omega]

theorem f8 (N s u ur f b : Nat) (G : List Nat) (fs us ps : List Int) (k : Int) (a : Option Addr) (c : Nat) (w : World) (h : St w N s u ur f b G 0 5 fs us 0 []) (hk : fs.getD 4 0 = k) (ha : Hold w a ps) (hlow : ∀ x, a = some x → x.block < N)
    (hc : ps.length ≤ c) (hcm : c ≤ maxLen) (hps : ps.length ≤ 1048576) :
    Calls Tryd.prog 8 #[.pointer (some ⟨s, 0, none⟩), .slice a ps.length c] w fun e w' => e = .returned (.tuple #[]) ∧ Done w N s u ur f b k ps 0 w' := by
  have h1 := h.lock 1
  have b1 : Below N w (w.setCell ⟨s, 0, none⟩ (.int .i32 1)) := (Below.refl N w).setCell (p := ⟨s, 0, none⟩) h.ns _
  have ha1 : Hold (w.setCell ⟨s, 0, none⟩ (.int .i32 1)) a ps := by
    intro hx
    obtain ⟨pb, po, e, hcell⟩ := ha hx
    have := hlow _ e
    exact ⟨pb, po, e, fun i hi => (b1.cell (p := ⟨pb, po + i, none⟩) this).trans (hcell i hi)⟩
  go_enter_defers Tryd.func8, Tryd.ntmps8
  go_wp2_with fail
  refine (lock_free Tryd.muLib ⟨s, 0, none⟩ _ (h.blk.cell 0 rfl) (h.blk.frozen 0)).mono ?_
  rintro e _ ⟨rfl, rfl⟩
  generalize w.setCell ⟨s, 0, none⟩ (.int .i32 1) = W at *
  go_wp2_with fail
  go_loopw [1] (fun v wr => Rel w N s u ur f b k ps v wr) (fun v _ => lenOf v)
  case atStart => exact ⟨0, a, c, G, fs, us, by simp, by simpa using ha1, by omega, hcm, hlow, hk, b1, .inl ⟨rfl, h1⟩⟩
  case round =>
    have HR : Hid (Rel w N s u ur f b k ps _ wr) := hrel
    clear h h1 b1 ha ha1 hlow hc hcm
    obtain ⟨j, a', c', G', fs', us', rfl, ha', hc', hcm', hlow', hk', hb', hcase⟩ := hrel
    by_cases hz : ps.length - j * 65535 = 0
    · obtain ⟨i, G2, fs2, us2, q1, q2, q3, q4, q5, q6⟩ := done_of_rel HR.out hz
      clear HR hcase ha' hlow'
      have hz' : ¬ (0 : Int) < ((ps.length - j * 65535 : Nat) : Int) := by omega
      go_wp2_with fail
      refine leaves_cons (f := 16) (args := #[.pointer (some ⟨s, 0, none⟩)]) (by simp) (by simp [go_sem]) ?_
      refine (unlock_deferred Tryd.muLib ⟨s, 0, none⟩ .returning _ (q3.blk.cell 0 rfl) (q3.blk.frozen 0)).mono ?_
      rintro e u' w'' ⟨rfl, rfl, rfl⟩
      exact ⟨_, results_none rfl _ _ _, rfl, i, G2, fs2, us2, q1, q2, q3.lock 0, q4, q5, q6.setCell (p := ⟨s, 0, none⟩) q3.ns _⟩
    · have hz' : (0 : Int) < ((ps.length - j * 65535 : Nat) : Int) := by omega
      have hXl : (ps.drop (j * 65535)).length = ps.length - j * 65535 := by simp
      obtain ⟨pb, po, rfl, hcell0⟩ := ha' (by intro e; rw [e] at hXl; simp at hXl; omega)
      have hpb : pb < N := hlow' _ rfl
      have hcl := length_chunk ps j
      have hcl1 : 1 ≤ (chunk ps j).length := by omega
      have hcl2 : (chunk ps j).length ≤ 65535 := chunk_le ps j
      have HC : Hid (∀ i, i < (ps.drop (j * 65535)).length → w.cell? ⟨pb, po + i, none⟩ = some (.int .u8 ((ps.drop (j * 65535)).getD i 0))) := fun i hi => (hb'.cell (p := ⟨pb, po + i, none⟩) hpb).symm.trans (hcell0 i hi)
      have HX : Hid ((ps.drop (j * 65535)).take 65535 = chunk ps j) := rfl
      clear ha' hlow' hXl hcell0
      generalize hL : ps.length - j * 65535 = L at hz hz' hc' hcl
      have HL : Hid (ps.length - j * 65535 = L) := hL
      generalize hX : chunk ps j = xs at hcl hcl1 hcl2 HX
      have HX' : Hid (chunk ps j = xs) := hX
      have HCL : Hid (xs.length = min 65535 L) := hcl
      have hcl3 : xs.length ≤ L := by omega
      clear hX hcl
      clear HR
      rcases hcase with ⟨hj, hst⟩ | ⟨i, hj, hi, hst, htk⟩
      · have HJ : Hid (j = 0) := hj
        clear hj
        clear hL
        have c3 := hst.blk.cell 3 rfl
        go_wp2_with fail
        go_quiet (fail)
        have h2 : St (wr.drewN nq) N s u ur f b G' 1 5 fs' us' 0 (sent k ps j) := by rw [HJ.out]; exact hst.same rfl
        have hb2 : Below N w (wr.drewN nq) := below_drewN hb' nq
        generalize wr.drewN nq = W1 at *
        have pc3 := h2.blk.cell 3 rfl
        have pz3 := h2.blk.frozen 3
        have hold2 : Hold W1 (some ⟨pb, po, none⟩) xs := by
          rw [← HX.out]
          exact Hold.take (fun _ => ⟨pb, po, rfl, fun i hi => (hb2.cell (p := ⟨pb, po + i, none⟩) hpb).trans (HC.out i hi)⟩) 65535
        have hcp := run_cp W1.drew f 5 fs' xs (some ⟨f, 5, none⟩) (some ⟨pb, po, none⟩) 3 65535 L 65535 c' h2.rf hold2 (fun _ => rfl) (by rw [HCL.out]; exact Nat.min_comm _ _) (by rw [h2.fsl]; omega)
        go_wp2_with fail
        refine wp_only ?_
        go_region
        have h3 : St (putRow W1.drew f (over fs' 5 xs)) N s u ur f b G' 1 5 (over fs' 5 xs) us' 0 (sent k ps j) :=
          (h2.same (w' := W1.drew) rfl).frame (putRow_kept (Kept.refl _ _) (by simp) _) (putRow_row (w := W1.drew) h2.rf _) (by rw [length_over _ _ _ (by rw [h2.fsl]; omega)]; exact h2.fsl)
        have hb3 : Below N w (putRow W1.drew f (over fs' 5 xs)) := below_setRow hb2.drew h2.nf _
        have hk3 : Hid ((over fs' 5 xs).getD 4 0 = k) := by show _ = _; rw [getD_over _ _ (by rw [h2.fsl]; omega)]; exact hk'
        have ht3 : Hid (((over fs' 5 xs).drop 5).take xs.length = xs) := drop_over _ _ (by rw [h2.fsl]; omega)
        clear hcp pc3 pz3 hold2 c3 hst
        generalize over fs' 5 xs = F at *
        generalize putRow W1.drew f F = W2 at *
        have pc3 := h3.blk.cell 3 rfl
        have pz3 := h3.blk.frozen 3
        refine only_intro ?_
        go_wp2_with fail
        refine wp_only ?_
        go_region
        refine only_intro ?_
        have h4 : St (W2.setCell ⟨s, 3, none⟩ (.slice (some ⟨f, 0, none⟩) (5 + xs.length) 65540)).drew N s u ur f b G' 1 (5 + xs.length) F us' 0 (sent k ps j) := (h3.reslice (5 + xs.length)).same rfl
        have hb4 : Below N w (W2.setCell ⟨s, 3, none⟩ (.slice (some ⟨f, 0, none⟩) (5 + xs.length) 65540)).drew := (hb3.setCell (p := ⟨s, 3, none⟩) h3.ns _).drew
        generalize (W2.setCell ⟨s, 3, none⟩ (.slice (some ⟨f, 0, none⟩) (5 + xs.length) 65540)).drew = W3 at *
        have hcm2 := hcm'
        unfold maxLen at hcm2
        by_cases hcx : c' = xs.length
        · have hLx : L = xs.length := by omega
          have R := rel_next HL.out HX'.out HCL.out hz HC.out hpb hb4 h4 hk3.out ht3.out (some ⟨pb, po, none⟩) 0 (by omega) (by rintro x ⟨⟩; exact hpb) (by omega) (by omega)
          have HRN : Hid _ := R
          clear R
          subst hcx
          rw [hLx, Nat.sub_self] at HRN
          go_wp2_with fail
          exact ⟨HRN.out, by simp only [lenOf]; omega⟩
        · have R := rel_next HL.out HX'.out HCL.out hz HC.out hpb hb4 h4 hk3.out ht3.out (some ⟨pb, po + xs.length, none⟩) (c' - xs.length) (fun _ => rfl) (by rintro x ⟨⟩; exact hpb) (by omega) (by omega)
          have HRN : Hid _ := R
          clear R
          go_wp2_with fail
          exact ⟨HRN.out, by simp only [lenOf]; omega⟩
      · have HJ : Hid (j = i + 1) := hj
        have hfull := chunk_full ps i (by rw [← hj]; omega)
        rw [hfull] at hst htk
        clear hj hL hfull
        have c3 := hst.blk.cell 3 rfl
        have hls := length_sent k ps i
        have hls' : (sent k ps i).length ≤ 1000000000 := by omega
        clear hls
        go_wp2_with fail
        go_quiet (fail)
        have h1 : St (wr.drewN nq) N s u ur f b G' 1 65540 fs' us' 0 (sent k ps i) := hst.same rfl
        have hb1 : Below N w (wr.drewN nq) := below_drewN hb' nq
        clear hst c3
        generalize wr.drewN nq = W1 at *
        go_wp2_with fail
        refine (f17 N s u ur f b G' 1 65540 fs' us' (sent k ps i) k 128 _ h1 hk' (by omega) (by omega) hls').mono ?_
        rintro e V1 ⟨rfl, G2, fs2, us2, m2, bs2, g2, gb2, hk2, _, _, hbig⟩
        obtain ⟨rfl, rfl⟩ := hbig (by omega)
        have gb2 := hb1.trans gb2
        have g2 : St V1 N s u ur f b G2 1 5 fs2 us2 0 (sent k ps j) := by
          rw [HJ.out]
          have e : hdr (1 + ((65540 - 5 : Nat) : Int)) (bits BinOp.or IntKind.u8 k 128) ++ (fs'.drop 5).take (65540 - 5) = hdr 65536 (bits BinOp.or IntKind.u8 k 128) ++ chunk ps i := by
            rw [show (65540 - 5 : Nat) = 65535 from rfl, htk]; rfl
          rw [e] at g2
          exact g2
        clear hbig htk
        have pc3 := g2.blk.cell 3 rfl
        have pz3 := g2.blk.frozen 3
        have hold2 : Hold V1 (some ⟨pb, po, none⟩) xs := by
          rw [← HX.out]
          exact Hold.take (fun _ => ⟨pb, po, rfl, fun i hi => (gb2.cell (p := ⟨pb, po + i, none⟩) hpb).trans (HC.out i hi)⟩) 65535
        have hcp := run_cp V1.drew f 5 fs2 xs (some ⟨f, 5, none⟩) (some ⟨pb, po, none⟩) 3 65535 L 65535 c' g2.rf hold2 (fun _ => rfl) (by rw [HCL.out]; exact Nat.min_comm _ _) (by rw [g2.fsl]; omega)
        go_wp2_with fail
        refine wp_only ?_
        go_region
        have h3 : St (putRow V1.drew f (over fs2 5 xs)) N s u ur f b G2 1 5 (over fs2 5 xs) us2 0 (sent k ps j) :=
          (g2.same (w' := V1.drew) rfl).frame (putRow_kept (Kept.refl _ _) (by simp) _) (putRow_row (w := V1.drew) g2.rf _) (by rw [length_over _ _ _ (by rw [g2.fsl]; omega)]; exact g2.fsl)
        have hb3 : Below N w (putRow V1.drew f (over fs2 5 xs)) := below_setRow gb2.drew g2.nf _
        have hk3 : Hid ((over fs2 5 xs).getD 4 0 = k) := by show _ = _; rw [getD_over _ _ (by rw [g2.fsl]; omega)]; exact hk2
        have ht3 : Hid (((over fs2 5 xs).drop 5).take xs.length = xs) := drop_over _ _ (by rw [g2.fsl]; omega)
        clear hcp pc3 pz3 hold2
        generalize over fs2 5 xs = F at *
        generalize putRow V1.drew f F = W2 at *
        have pc3 := h3.blk.cell 3 rfl
        have pz3 := h3.blk.frozen 3
        refine only_intro ?_
        go_wp2_with fail
        refine wp_only ?_
        go_region
        refine only_intro ?_
        have h4 : St (W2.setCell ⟨s, 3, none⟩ (.slice (some ⟨f, 0, none⟩) (5 + xs.length) 65540)).drew N s u ur f b G2 1 (5 + xs.length) F us2 0 (sent k ps j) := (h3.reslice (5 + xs.length)).same rfl
        have hb4 : Below N w (W2.setCell ⟨s, 3, none⟩ (.slice (some ⟨f, 0, none⟩) (5 + xs.length) 65540)).drew := (hb3.setCell (p := ⟨s, 3, none⟩) h3.ns _).drew
        generalize (W2.setCell ⟨s, 3, none⟩ (.slice (some ⟨f, 0, none⟩) (5 + xs.length) 65540)).drew = W3 at *
        have hcm2 := hcm'
        unfold maxLen at hcm2
        by_cases hcx : c' = xs.length
        · have hLx : L = xs.length := by omega
          have R := rel_next HL.out HX'.out HCL.out hz HC.out hpb hb4 h4 hk3.out ht3.out (some ⟨pb, po, none⟩) 0 (by omega) (by rintro x ⟨⟩; exact hpb) (by omega) (by omega)
          have HRN : Hid _ := R
          clear R
          subst hcx
          rw [hLx, Nat.sub_self] at HRN
          go_wp2_with fail
          exact ⟨HRN.out, by simp only [lenOf]; omega⟩
        · have R := rel_next HL.out HX'.out HCL.out hz HC.out hpb hb4 h4 hk3.out ht3.out (some ⟨pb, po + xs.length, none⟩) (c' - xs.length) (fun _ => rfl) (by rintro x ⟨⟩; exact hpb) (by omega) (by omega)
          have HRN : Hid _ := R
          clear R
          go_wp2_with fail
          exact ⟨HRN.out, by simp only [lenOf]; omega⟩
end Go.Proofs.Qxb6615168aDoor
