import Derived.Test.Qxb6615168aDoorFinal
import Derived.Test.Qxb6615168aDoorNew
namespace Go.Proofs.Qxb6615168aDoor
open Go.RowKit
set_option maxHeartbeats 2000000
set_option maxRecDepth 100000

theorem hold_low {w w' : World} {N : Nat} {a : Option Addr} {ps : List Int} (h : Hold w a ps) (hl : ∀ x, a = some x → x.block < N) (hb : Below N w w') : Hold w' a ps := by
  intro hx
  obtain ⟨b, o, e, hc⟩ := h hx
  have hbN : b < N := hl _ e
  exact ⟨b, o, e, fun i hi => (hb.cell (p := ⟨b, o + i, none⟩) hbN).trans (hc i hi)⟩

/-- The clone of the payload, what the law needs of it. -/
def Cloned (w : World) (a : Option Addr) (c : Nat) (ps : List Int) : Prop :=
  Calls Tryd.prog 5 #[.slice a ps.length c] w fun e w' => (∃ a' c', e = .returned (.slice a' ps.length c') ∧ Hold w' a' ps ∧ (∀ x, a' = some x → x.block < w'.heap.size) ∧ ps.length ≤ c' ∧ c' ≤ maxLen) ∧ Below w.heap.size w w'
theorem Cloned.out {w : World} {a : Option Addr} {c : Nat} {ps : List Int} (h : Cloned w a c ps) :
    Calls Tryd.prog 5 #[.slice a ps.length c] w fun e w' => (∃ a' c', e = .returned (.slice a' ps.length c') ∧ Hold w' a' ps ∧ (∀ x, a' = some x → x.block < w'.heap.size) ∧ ps.length ≤ c' ∧ c' ≤ maxLen) ∧ Below w.heap.size w w' := h

theorem law_main (k : Int) (a : Option Addr) (c : Nat) (ps : List Int) (w : World) (hk0 : 0 ≤ k) (hk1 : k ≤ 255) (ha : Hold w a ps) (hc : ps.length ≤ c) (hps : ps.length ≤ 1048576) (HC : Cloned w a c ps) :
    Calls Tryd.prog 3 #[.int .u8 k, .slice a ps.length c] w fun e w' => e = .returned (.bool true) ∧ Below w.heap.size w w' := by
  have hm : ps.length ≤ maxLen := by unfold maxLen; omega
  have hps' : ¬ (1048576 : Int) < (ps.length : Int) := by omega
  go_enter Tryd.func3, Tryd.ntmps3
  go_wp2_with (go_at_call 4; refine (f4 _ _ _ _ _ hm).mono ?_; rintro e w' ⟨⟨b, rfl⟩, rfl⟩)
  · go_ret
    exact ⟨rfl, Below.refl _ _⟩
  refine HC.out.mono ?_
  rintro e w1 ⟨⟨a1, c1, rfl, ha1, hl1, hc1, hm1⟩, b1⟩
  clear HC
  go_wp2_with fail
  refine (f6 w1).mono ?_
  rintro e w2 ⟨s, u, ur, f, rfl, h2, b2⟩
  go_wp2_with fail
  refine (f7 _ s u ur f _ _ _ _ _ _ k _ h2).mono ?_
  rintro e w3 ⟨rfl, h3, b3⟩
  have ha3 := hold_low (hold_low ha1 hl1 b2) hl1 b3
  clear h2
  go_wp2_with fail
  refine (f8 _ s u ur f _ _ _ _ ps k a1 c1 _ h3 (by simp [length_zeros]) ha3 hl1 hc1 hm1 hps).mono ?_
  rintro e w4 ⟨rfl, i, G4, fs4, us4, hi1, hi2, h4, ht4, hk4, b4⟩
  have hch := chunk_le ps i
  have hlen := length_sent k ps i
  have hi3 : i ≤ 17 := by omega
  have hfr := frames_eq k ps i hi1 hi2
  have HF : Hid (exp k ps (fc ps.length) (fc ps.length) = sent k ps i ++ (hdr (1 + ((chunk ps i).length : Int)) k ++ chunk ps i)) := hfr
  have HT : Hid ((fs4.drop 5).take (chunk ps i).length = chunk ps i) := ht4
  have hs9 : (sent k ps i).length ≤ 900000000 := by omega
  have b14 : Below w1.heap.size w1 w4 := (b2.trans b3).trans b4
  clear hfr ht4 hi1 hi2 hlen h3 ha3 b2 b3 b4 ha1 hl1
  go_wp2_with fail
  refine (f9 _ s u ur f _ _ _ _ _ _ _ k _ h4 hk4 (by omega) (by omega) hs9).mono ?_
  rintro e w5 ⟨rfl, G5, fs5, us5, m5, bs5, h5, b5, hm5, hl5, heq⟩
  have hT : bs5 ++ us5.take m5 = exp k ps (fc ps.length) (fc ps.length) := by
    rw [heq, HF.out, Nat.add_sub_cancel_left, HT.out, or_zero k hk0 hk1]
  clear heq h4
  go_wp2_with fail
  refine (f10 _ s u ur f _ _ _ _ _ _ _ _ _ h5 hm5 hl5).mono ?_
  rintro e w6 ⟨rfl, ⟨G6, h6⟩, b6⟩
  rw [hT] at h6
  have hE : (exp k ps (fc ps.length) (fc ps.length)).length ≤ 281474976710656 := by
    rw [← hT, List.length_append, List.length_take]
    omega
  clear hT h5
  clear HF HT
  generalize hEx : exp k ps (fc ps.length) (fc ps.length) = E at *
  have HE : Hid (exp k ps (fc ps.length) (fc ps.length) = E) := hEx
  clear hEx
  go_wp2_with fail
  refine (f12 _ G6 E _ h6 hE).mono ?_
  rintro e _ ⟨⟨a7, c7, rfl, ha7⟩, n7, rfl⟩
  have ha7' := ha7.drewN n7
  have b17 : Below w1.heap.size w1 (w6.drewN n7) := below_drewN ((b14.trans b5).trans b6) n7
  have b7 : Below w.heap.size w (w6.drewN n7) := b1.trans (b17.mono b1.size)
  have hap := ha.below b7
  clear h6 ha7
  generalize w6.drewN n7 = w7 at *
  go_wp2_with fail
  refine (f13 k a c ps w7 hap hps hc).mono ?_
  rintro e w8 ⟨⟨a8, c8, rfl, ha8⟩, b8⟩
  rw [HE.out] at ha8 ⊢
  have ha7'' := ha7'.below b8
  clear hap ha7'
  go_wp2_with fail
  refine (f11 a7 a8 c7 c8 E w8 ha7'' ha8 hE).mono ?_
  rintro e _ ⟨rfl, n9, rfl⟩
  go_wp2
  go_ret
  exact ⟨rfl, below_drewN (b7.trans (b8.mono b7.size)) n9⟩
end Go.Proofs.Qxb6615168aDoor
