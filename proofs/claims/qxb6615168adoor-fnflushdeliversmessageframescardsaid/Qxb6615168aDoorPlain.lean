import Derived.Test.Qxb6615168aDoorHead
namespace Go.Proofs.Qxb6615168aDoor
open Go.RowKit

/-- Piece j of the payload: at most 65535 bytes. -/
def chunk (ps : List Int) (j : Nat) : List Int := (ps.drop (j * 65535)).take 65535
/-- The first j frames, each full and to be continued. -/
def sent (k : Int) (ps : List Int) : Nat → List Int
  | 0 => []
  | j + 1 => sent k ps j ++ (hdr 65536 (bits BinOp.or IntKind.u8 k 128) ++ chunk ps j)

theorem length_chunk (ps : List Int) (j : Nat) : (chunk ps j).length = min 65535 (ps.length - j * 65535) := by simp [chunk]
theorem chunk_le (ps : List Int) (j : Nat) : (chunk ps j).length ≤ 65535 := by rw [length_chunk]; omega
theorem chunk_full (ps : List Int) (j : Nat) (h : (j + 1) * 65535 ≤ ps.length) : (chunk ps j).length = 65535 := by rw [length_chunk]; omega
theorem chunk_last (ps : List Int) (j : Nat) (h : ps.length ≤ (j + 1) * 65535) : chunk ps j = ps.drop (j * 65535) := by
  unfold chunk
  exact List.take_of_length_le (by simp; omega)
theorem length_sent (k : Int) (ps : List Int) (j : Nat) : (sent k ps j).length ≤ j * 65540 := by
  induction j with
  | zero => simp [sent]
  | succ j ih =>
    have := chunk_le ps j
    simp [sent, hdr]
    omega

theorem Hold.take {w : World} {a : Option Addr} {xs : List Int} (h : Hold w a xs) (n : Nat) : Hold w a (xs.take n) := by
  intro hx
  have hx' : xs ≠ [] := by intro e; rw [e] at hx; simp at hx
  obtain ⟨b, o, e, hc⟩ := h hx'
  refine ⟨b, o, e, fun i hi => ?_⟩
  have : i < n ∧ i < xs.length := by simp at hi; omega
  rw [hc i this.2]
  simp [this.1]
theorem hold_drop {w : World} {b o : Nat} {xs : List Int} (hc : ∀ i, i < xs.length → w.cell? ⟨b, o + i, none⟩ = some (.int .u8 (xs.getD i 0))) (n : Nat) : Hold w (some ⟨b, o + n, none⟩) (xs.drop n) := by
  intro _
  refine ⟨b, o + n, rfl, fun i hi => ?_⟩
  have : n + i < xs.length := by simp at hi; omega
  have h := hc (n + i) this
  rw [show o + n + i = o + (n + i) by omega, h]
  simp
theorem drop_over (fs ys : List Int) (h : 5 + ys.length ≤ fs.length) : ((over fs 5 ys).drop 5).take ys.length = ys := by
  have : (fs.take 5).length = 5 := by simp; omega
  unfold over
  rw [List.append_assoc, List.drop_append_of_le_length (by omega), List.drop_of_length_le (by omega), List.nil_append]
  simp
theorem getD_over (fs ys : List Int) (h : 5 ≤ fs.length) : (over fs 5 ys).getD 4 0 = fs.getD 4 0 := by
  have h5 : (fs.take 5).length = 5 := by simp; omega
  unfold over
  rw [List.append_assoc, List.getD_eq_getElem?_getD, List.getElem?_append_left (by omega), List.getElem?_take_of_lt (by omega), ← List.getD_eq_getElem?_getD]
end Go.Proofs.Qxb6615168aDoor
