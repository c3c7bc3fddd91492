import Derived.Test.Qxb6616051aRows
import Derived.WalkKit
import Derived.ProofKit
import Derived.OpenShut
import Derived.BigQuiet
import Derived.Handy
import Derived.WalkSpells
import Derived.WalkSmall
import Derived.Laws.CopyOwn
namespace Go.Proofs.Qxb6616051a
open Go.RowKit

/-- A block of bytes, none of them frozen. -/
def row (zs : List Int) : Obj := .cells (zs.map (Value.int .u8)).toArray 5 (0, 0)
/-- Block g of the world is that row. -/
def RowAt (w : World) (g : Nat) (zs : List Int) : Prop := w.heap[g]? = some (row zs)

theorem RowAt.lt {w : World} {g : Nat} {zs : List Int} (h : RowAt w g zs) : g < w.heap.size := (Array.getElem?_eq_some_iff.1 h).1
theorem RowAt.cell {w : World} {g : Nat} {zs : List Int} (h : RowAt w g zs) {i : Nat} (hi : i < zs.length) : w.cell? ⟨g, i, none⟩ = some (.int .u8 (zs.getD i 0)) := by
  unfold RowAt row at h
  simp [World.cell?, h, hi]
theorem RowAt.frozen {w : World} {g : Nat} {zs : List Int} (h : RowAt w g zs) (i : Nat) : w.frozen? ⟨g, i, none⟩ = false := by
  unfold RowAt row at h
  simp [World.frozen?, h]
theorem RowAt.set {w : World} {g : Nat} {zs : List Int} (h : RowAt w g zs) (i : Nat) (z : Int) : RowAt (w.setCell ⟨g, i, none⟩ (.int .u8 z)) g (zs.set i z) := by
  unfold RowAt row at *
  rw [setCell_eq_setRow w g i _ 5 (0, 0) _ h, setRow_heap w g _ _ 5 (0, 0) h]
  simp
theorem RowAt.setOther {w : World} {g : Nat} {zs : List Int} (h : RowAt w g zs) {a : Addr} (ha : g ≠ a.block) (v : Value) : RowAt (w.setCell a v) g zs :=
  (Below.heap_setCell _ _ _ _ ha).trans h
theorem RowAt.alloc {w : World} {g : Nat} {zs : List Int} (h : RowAt w g zs) (o : Obj) : RowAt (w.alloc o) g zs :=
  (Below.heap_alloc _ _ _ h.lt).trans h
theorem RowAt.made (w : World) (zs : List Int) : RowAt (w.alloc (row zs)) w.heap.size zs := by
  show (w.heap.push _)[_]? = _
  rw [Array.getElem?_push, if_pos rfl]
theorem RowAt.drewN {w : World} {g : Nat} {zs : List Int} (h : RowAt w g zs) (n : Nat) : RowAt (w.drewN n) g zs := h
theorem RowAt.below {w w' : World} {B g : Nat} {zs : List Int} (h : RowAt w g zs) (hb : Below B w w') (hg : g < B) : RowAt w' g zs := (hb.block g hg).trans h

theorem info5 : (Try.prog.info? 5).map (fun i => (i.zero, i.size, i.bytes)) = some (some (.int .u8 0), 1, 1) := by kernel_rfl

theorem run_mk (n c : Nat) (hn : n ≤ c) (hc : c ≤ 281474976710656) (w : World) :
    (Instr.makeSlice 22 (.int .i64 (n : Int)) (.int .i64 (c : Int))).run Try.prog w = .ok (.slice (some ⟨w.heap.size, 0, none⟩) n c) (w.alloc (row (List.replicate c 0))) := by
  obtain ⟨i, hi, hzz⟩ := Option.map_eq_some_iff.1 info5
  simp only [Prod.mk.injEq] at hzz
  obtain ⟨hz, hs, hb⟩ := hzz
  have h := run_make (P := Try.prog) w 22 5 i (.int .u8 0) Try.underlying22 hi hz .i64 .i64 n c (by omega) (by omega) (by rw [hb]; omega) (by omega)
  rw [h, hs]
  simp only [Int.toNat_natCast, Nat.mul_one]
  have e : (madeCells (Value.int .u8 0).cells c) = ((List.replicate c (0 : Int)).map (Value.int .u8)).toArray := by
    apply Array.ext
    · simp [madeCells]
    · intro k h1 h2
      simp [madeCells, Value.cells, Nat.mod_one]
  rw [e]
  rfl

/-- A slice of length xs.length at 'a' holds the bytes xs (of an empty one nothing is asked). -/
def Hold (w : World) (a : Option Addr) (xs : List Int) : Prop := xs ≠ [] → ∃ b o, a = some ⟨b, o, none⟩ ∧ ∀ i, i < xs.length → w.cell? ⟨b, o + i, none⟩ = some (.int .u8 (xs.getD i 0))

theorem Hold.nil (w : World) (a : Option Addr) : Hold w a [] := fun h => absurd rfl h
theorem hold_of_row {w : World} {g : Nat} {zs : List Int} (h : RowAt w g zs) (n : Nat) : Hold w (some ⟨g, 0, none⟩) (zs.take n) := by
  intro _
  refine ⟨g, 0, rfl, fun i hi => ?_⟩
  have hi' : i < n ∧ i < zs.length := by simp at hi; omega
  rw [Nat.zero_add, h.cell hi'.2]
  simp [hi'.1]
theorem Hold.same {w w' : World} {a : Option Addr} {xs : List Int} (h : Hold w a xs) (hc : ∀ b o, w.cell? ⟨b, o, none⟩ ≠ none → w'.cell? ⟨b, o, none⟩ = w.cell? ⟨b, o, none⟩) : Hold w' a xs := by
  intro hx
  obtain ⟨b, o, ha, h⟩ := h hx
  exact ⟨b, o, ha, fun i hi => by rw [hc _ _ (by rw [h i hi]; simp)]; exact h i hi⟩
theorem cell_lt {w : World} {b o : Nat} {v : Value} (h : w.cell? ⟨b, o, none⟩ = some v) : b < w.heap.size := by
  apply Classical.byContradiction
  intro hn
  rw [World.cell?, Array.getElem?_eq_none (by omega : w.heap.size ≤ b)] at h
  cases h
theorem Hold.below {w w' : World} {a : Option Addr} {xs : List Int} (h : Hold w a xs) (hb : Below w.heap.size w w') : Hold w' a xs :=
  h.same fun b o hne => by
    obtain ⟨v, hv⟩ := Option.ne_none_iff_exists'.1 hne
    exact hb.cell (p := ⟨b, o, none⟩) (cell_lt hv)
theorem Hold.alloc {w : World} {a : Option Addr} {xs : List Int} (h : Hold w a xs) (o : Obj) : Hold (w.alloc o) a xs := h.below ((Below.refl _ _).alloc (Nat.le_refl _) _)
theorem Hold.drewN {w : World} {a : Option Addr} {xs : List Int} (h : Hold w a xs) (n : Nat) : Hold (w.drewN n) a xs := h

/-- The world with block g's cells laid anew. -/
def putRow (w : World) (g : Nat) (zs : List Int) : World := w.setRow g (zs.map (Value.int .u8)).toArray
theorem putRow_row {w : World} {g : Nat} {zs : List Int} (h : RowAt w g zs) (ys : List Int) : RowAt (putRow w g ys) g ys := by
  unfold RowAt row putRow at *
  exact setRow_heap w g _ _ 5 (0, 0) h
theorem putRow_below {B g : Nat} {w0 w : World} (hb : Below B w0 w) (hg : B ≤ g) (ys : List Int) : Below B w0 (putRow w g ys) := below_setRow hb hg _
theorem putRow_size (w : World) (g : Nat) (ys : List Int) : (putRow w g ys).heap.size = w.heap.size := by simp [putRow, World.setRow]
theorem putRow_other {w : World} {g k : Nat} (ys : List Int) (h : k ≠ g) : (putRow w g ys).heap[k]? = w.heap[k]? := setRow_other w g k _ h
theorem putRow_cell {w : World} {g b o : Nat} (ys : List Int) (h : b ≠ g) : (putRow w g ys).cell? ⟨b, o, none⟩ = w.cell? ⟨b, o, none⟩ := by
  simp only [World.cell?, putRow_other ys h]
theorem putRow_frozen {w : World} {g b o : Nat} (ys : List Int) (h : b ≠ g) : (putRow w g ys).frozen? ⟨b, o, none⟩ = w.frozen? ⟨b, o, none⟩ := by
  simp only [World.frozen?, putRow_other ys h]

theorem size5 : (Try.prog.info? 5).map (·.size) = some 1 := by kernel_rfl

/-- copy of xs over the head of row g. -/
theorem run_cp (w : World) (g : Nat) (zs xs : List Int) (a : Option Addr) (ty : TypeId) (dCap sCap : Nat) (hr : RowAt w g zs) (ha : Hold w a xs) (hl : xs.length ≤ zs.length) :
    (Builtin.copy_ #[22, 22] ty #[.slice (some ⟨g, 0, none⟩) xs.length dCap, .slice a xs.length sCap]).run Try.prog w = .ok (goInt xs.length) (putRow w g (xs ++ zs.drop xs.length)) := by
  by_cases hx : xs = []
  · subst hx
    have h := run_copy_none (P := Try.prog) w 22 22 ty 5 (some ⟨g, 0, none⟩) a 0 dCap 0 sCap Try.underlying22 size5 (by simp)
    have e : putRow w g ([] ++ zs.drop 0) = w := by
      simpa [putRow] using setRow_self w g _ 5 (0, 0) (show w.heap[g]? = some (.cells (zs.map (Value.int .u8)).toArray 5 (0, 0)) from hr)
    simp only [List.length_nil] at h ⊢
    rw [e]
    exact h
  · obtain ⟨b, o, rfl, h⟩ := ha hx
    have h := run_copy_row Try.prog w 22 22 ty 5 g 0 xs.length dCap ⟨b, o, none⟩ xs.length sCap (zs.map (Value.int .u8)).toArray 5 (xs.map (Value.int .u8)) Try.underlying22 size5 hr (by simp)
      (fun j v hj => by
        have hj' : j < xs.length := by
          have := (List.getElem?_eq_some_iff.1 hj).1; simpa using this
        rw [WideShapes.add_plain, h j hj']
        simp [hj'] at hj ⊢
        exact hj) (by simpa using hl) (fun v hv => by obtain ⟨z, _, rfl⟩ := List.mem_map.1 hv; rfl)
    rw [h]
    simp [putRow]
end Go.Proofs.Qxb6616051a
