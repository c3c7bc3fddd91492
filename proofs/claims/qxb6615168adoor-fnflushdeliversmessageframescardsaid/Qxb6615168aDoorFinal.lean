import Derived.Test.Qxb6615168aDoorExpect
namespace Go.Proofs.Qxb6615168aDoor
open Go.RowKit
set_option maxRecDepth 100000

theorem or_zero (k : Int) (h0 : 0 ≤ k) (h1 : k ≤ 255) : bits BinOp.or IntKind.u8 k 0 = k := by
  obtain ⟨n, rfl⟩ := Int.eq_ofNat_of_zero_le h0
  have e : (BitVec.ofInt 8 (n : Int) ||| BitVec.ofInt 8 0).toNat = n := by
    simp
    omega
  show IntKind.u8.wrap ((BitVec.ofInt 8 (n : Int) ||| BitVec.ofInt 8 0).toNat : Int) = n
  rw [e, IntKind.wrap_u8]
  omega

theorem fc_of (n i : Nat) (h1 : i = 0 ∨ i * 65535 < n) (h2 : n ≤ (i + 1) * 65535) : fc n = i + 1 := by
  unfold fc
  split
  · omega
  · omega

theorem exp_sent (k : Int) (ps : List Int) (i : Nat) (hi : i < fc ps.length) : exp k ps (fc ps.length) i = sent k ps i := by
  induction i with
  | zero => rfl
  | succ i ih =>
    have h1 := ih (by omega)
    have h2 := fc_lt ps.length i (by omega)
    have h3 := chunk_full ps i (h2.2.1 hi)
    simp only [exp, sent, h1, h3, if_pos hi, hdr]
    rw [List.append_assoc, List.append_assoc, ← List.append_assoc _ [_]]
    rfl

/-- What the writer has sent and what expectFrames gathers are one. -/
theorem frames_eq (k : Int) (ps : List Int) (i : Nat) (h1 : i = 0 ∨ i * 65535 < ps.length) (h2 : ps.length ≤ (i + 1) * 65535) :
    exp k ps (fc ps.length) (fc ps.length) = sent k ps i ++ (hdr (1 + ((chunk ps i).length : Int)) k ++ chunk ps i) := by
  have hf := fc_of _ _ h1 h2
  have hs := exp_sent k ps i (by omega)
  rw [hf] at hs ⊢
  simp only [exp, hs, hdr]
  rw [if_neg (by omega), List.append_assoc, List.append_assoc, ← List.append_assoc _ [_]]
  rfl

/-- expectFrames. -/
theorem f13 (k : Int) (a : Option Addr) (c : Nat) (ps : List Int) (w : World) (ha : Hold w a ps) (hps : ps.length ≤ 1048576) (hc : ps.length ≤ c) :
    Calls Tryd.prog 13 #[.int .u8 k, .slice a ps.length c] w fun e w' => (∃ a' c', e = .returned (.slice a' (exp k ps (fc ps.length) (fc ps.length)).length c') ∧ Hold w' a' (exp k ps (fc ps.length) (fc ps.length))) ∧ Below w.heap.size w w' := by
  by_cases hpe : ps = []
  · subst hpe
    have e : exp k [] (fc ([] : List Int).length) (fc ([] : List Int).length) = [0, 0, 0, 1, k] := by simp [fc, exp, chunk]
    rw [e]
    exact f13_nil k a c w
  · exact f13_some k a c ps w ha hps hc hpe
end Go.Proofs.Qxb6615168aDoor
