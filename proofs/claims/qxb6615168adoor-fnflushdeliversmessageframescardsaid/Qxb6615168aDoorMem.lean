import Derived.Test.Qxb6615168aDoorRows
import Derived.Test.Qxb6615168aDoorLocks
import Derived.WalkKit
import Derived.ProofKit
import Derived.OpenShut
import Derived.BigQuiet
import Derived.Handy
import Derived.WalkSpells
import Derived.WalkSmall
import Derived.Laws.CopyOwn
import Derived.Lib.AppendZeros
import Derived.Defers
import Derived.Recover
namespace Go.Proofs.Qxb6615168aDoor
open Go.RowKit

/-- Block b is a whole block of these cells, none frozen. -/
def Blk (w : World) (b : Nat) (t : TypeId) (cs : List Value) : Prop := w.heap[b]? = some (.cells cs.toArray t (0, 0))

theorem Blk.lt {w : World} {b : Nat} {t : TypeId} {cs : List Value} (h : Blk w b t cs) : b < w.heap.size := (Array.getElem?_eq_some_iff.1 h).1
theorem Blk.cell {w : World} {b : Nat} {t : TypeId} {cs : List Value} (h : Blk w b t cs) (i : Nat) {v : Value} (hi : cs[i]? = some v) : w.cell? ⟨b, i, none⟩ = some v := by
  unfold Blk at h
  simp [World.cell?, h, hi]
theorem Blk.frozen {w : World} {b : Nat} {t : TypeId} {cs : List Value} (h : Blk w b t cs) (i : Nat) : w.frozen? ⟨b, i, none⟩ = false := by
  unfold Blk at h
  simp [World.frozen?, h]
theorem Blk.set {w : World} {b : Nat} {t : TypeId} {cs : List Value} (h : Blk w b t cs) (i : Nat) (v : Value) : Blk (w.setCell ⟨b, i, none⟩ v) b t (cs.set i v) := by
  unfold Blk at *
  rw [setCell_eq_setRow w b i _ t (0, 0) _ h, setRow_heap w b _ _ t (0, 0) h]
  simp
theorem Blk.setOther {w : World} {b : Nat} {t : TypeId} {cs : List Value} (h : Blk w b t cs) {a : Addr} (ha : b ≠ a.block) (v : Value) : Blk (w.setCell a v) b t cs :=
  (Below.heap_setCell _ _ _ _ ha).trans h
theorem Blk.alloc {w : World} {b : Nat} {t : TypeId} {cs : List Value} (h : Blk w b t cs) (o : Obj) : Blk (w.alloc o) b t cs :=
  (Below.heap_alloc _ _ _ h.lt).trans h
theorem Blk.made (w : World) (t : TypeId) (cs : List Value) : Blk (w.alloc (.cells cs.toArray t)) w.heap.size t cs := by
  show (w.heap.push _)[_]? = _
  rw [Array.getElem?_push, if_pos rfl]
theorem Blk.drewN {w : World} {b : Nat} {t : TypeId} {cs : List Value} (h : Blk w b t cs) (n : Nat) : Blk (w.drewN n) b t cs := h
theorem Blk.drew {w : World} {b : Nat} {t : TypeId} {cs : List Value} (h : Blk w b t cs) : Blk w.drew b t cs := h
theorem Blk.below {w w' : World} {B b : Nat} {t : TypeId} {cs : List Value} (h : Blk w b t cs) (hb : Below B w w') (hg : b < B) : Blk w' b t cs := (hb.block b hg).trans h
theorem Blk.ne {w : World} {b b' : Nat} {t t' : TypeId} {cs cs' : List Value} (h : Blk w b t cs) (h' : Blk w b' t' cs') (ht : t ≠ t') : b ≠ b' := by
  intro e
  subst e
  unfold Blk at *
  rw [h] at h'
  simp at h'
  exact ht h'.2

/-- w' is w with new blocks; of the old ones only those of L have turned. -/
structure Kept (L : List Nat) (w w' : World) : Prop where
  os : w'.os = w.os
  tape : w'.tape = w.tape
  output : w'.output = w.output
  size : w.heap.size ≤ w'.heap.size
  block : ∀ k, k < w.heap.size → k ∉ L → w'.heap[k]? = w.heap[k]?

theorem Kept.refl (L : List Nat) (w : World) : Kept L w w := ⟨rfl, rfl, rfl, Nat.le_refl _, fun _ _ _ => rfl⟩
theorem Kept.mono {L L' : List Nat} {w w' : World} (h : Kept L w w') (hs : ∀ k, k < w.heap.size → k ∈ L → k ∈ L') : Kept L' w w' :=
  ⟨h.os, h.tape, h.output, h.size, fun k hk hn => h.block k hk fun e => hn (hs k hk e)⟩
theorem Kept.trans {L : List Nat} {a b c : World} (h : Kept L a b) (k : Kept L b c) : Kept L a c :=
  ⟨k.os.trans h.os, k.tape.trans h.tape, k.output.trans h.output, Nat.le_trans h.size k.size, fun i hi hn => (k.block i (Nat.lt_of_lt_of_le hi h.size) hn).trans (h.block i hi hn)⟩
theorem Kept.setCell {L : List Nat} {a w : World} (h : Kept L a w) {p : Addr} (hp : p.block < a.heap.size → p.block ∈ L) (u : Value) : Kept L a (w.setCell p u) :=
  ⟨h.os, h.tape, h.output, by simpa [World.setCell] using h.size, fun k hk hn => by
    have hne : k ≠ p.block := by intro e; subst e; exact hn (hp hk)
    rw [Below.heap_setCell _ _ _ _ hne]
    exact h.block k hk hn⟩
theorem Kept.alloc {L : List Nat} {a w : World} (h : Kept L a w) (o : Obj) : Kept L a (w.alloc o) :=
  ⟨h.os, h.tape, h.output, Nat.le_trans h.size (by simp), fun k hk hn => (Below.heap_alloc _ _ _ (Nat.lt_of_lt_of_le hk h.size)).trans (h.block k hk hn)⟩
theorem Kept.drew {L : List Nat} {a w : World} (h : Kept L a w) : Kept L a w.drew := ⟨h.os, h.tape, h.output, h.size, h.block⟩
theorem Kept.drewN {L : List Nat} {a w : World} (h : Kept L a w) (n : Nat) : Kept L a (w.drewN n) := ⟨h.os, h.tape, h.output, h.size, h.block⟩
theorem Kept.setRow {L : List Nat} {a w : World} (h : Kept L a w) {g : Nat} (hg : g < a.heap.size → g ∈ L) (cs : Array Value) : Kept L a (w.setRow g cs) :=
  ⟨h.os, h.tape, h.output, by simpa [World.setRow] using h.size, fun k hk hn => by
    have hne : k ≠ g := by intro e; subst e; exact hn (hg hk)
    rw [setRow_other w g k cs hne]
    exact h.block k hk hn⟩
theorem Kept.of_below {w w' : World} (h : Below w.heap.size w w') (L : List Nat) : Kept L w w' := ⟨h.os, h.tape, h.output, h.size, fun k hk _ => h.block k hk⟩
theorem Kept.below {L : List Nat} {w w' : World} (h : Kept L w w') {B : Nat} (hB : B ≤ w.heap.size) (hL : ∀ k, k ∈ L → B ≤ k) : Below B w w' :=
  ⟨h.os, h.tape, h.output, h.size, fun k hk => h.block k (by omega) fun e => by have := hL k e; omega⟩
theorem Blk.kept {L : List Nat} {w w' : World} {b : Nat} {t : TypeId} {cs : List Value} (h : Blk w b t cs) (hk : Kept L w w') (hb : b ∉ L) : Blk w' b t cs := (hk.block b h.lt hb).trans h

/-- A block of bytes, none of them frozen. -/
def row (zs : List Int) : Obj := .cells (zs.map (Value.int .u8)).toArray 5 (0, 0)
/-- Block g of the world is that row. -/
def RowAt (w : World) (g : Nat) (zs : List Int) : Prop := Blk w g 5 (zs.map (Value.int .u8))

theorem RowAt.lt {w : World} {g : Nat} {zs : List Int} (h : RowAt w g zs) : g < w.heap.size := Blk.lt h
theorem RowAt.cell {w : World} {g : Nat} {zs : List Int} (h : RowAt w g zs) {i : Nat} (hi : i < zs.length) : w.cell? ⟨g, i, none⟩ = some (.int .u8 (zs.getD i 0)) :=
  Blk.cell h i (by simp [hi])
theorem RowAt.frozen {w : World} {g : Nat} {zs : List Int} (h : RowAt w g zs) (i : Nat) : w.frozen? ⟨g, i, none⟩ = false := Blk.frozen h i
theorem RowAt.set {w : World} {g : Nat} {zs : List Int} (h : RowAt w g zs) (i : Nat) (z : Int) : RowAt (w.setCell ⟨g, i, none⟩ (.int .u8 z)) g (zs.set i z) := by
  have := Blk.set h i (.int .u8 z)
  rwa [← List.map_set] at this
theorem RowAt.made (w : World) (zs : List Int) : RowAt (w.alloc (row zs)) w.heap.size zs := Blk.made w 5 _
theorem RowAt.kept {L : List Nat} {w w' : World} {g : Nat} {zs : List Int} (h : RowAt w g zs) (hk : Kept L w w') (hg : g ∉ L) : RowAt w' g zs := Blk.kept h hk hg

/-- n zeros (a definition of its own, so that the walk leaves it standing). -/
def zeros (n : Nat) : List Int := List.replicate n 0
theorem length_zeros (n : Nat) : (zeros n).length = n := by simp [zeros]

theorem info5 : (Tryd.prog.info? 5).map (fun i => (i.zero, i.size, i.bytes)) = some (some (.int .u8 0), 1, 1) := by kernel_rfl
theorem size5 : (Tryd.prog.info? 5).map (·.size) = some 1 := by kernel_rfl

theorem run_mk (n c : Nat) (hn : n ≤ c) (hc : c ≤ 281474976710656) (w : World) :
    (Instr.makeSlice 22 (.int .i64 (n : Int)) (.int .i64 (c : Int))).run Tryd.prog w = .ok (.slice (some ⟨w.heap.size, 0, none⟩) n c) (w.alloc (row (zeros c))) := by
  obtain ⟨i, hi, hzz⟩ := Option.map_eq_some_iff.1 info5
  simp only [Prod.mk.injEq] at hzz
  obtain ⟨hz, hs, hb⟩ := hzz
  have h := run_make (P := Tryd.prog) w 22 5 i (.int .u8 0) Tryd.underlying22 hi hz .i64 .i64 n c (by omega) (by omega) (by rw [hb]; omega) (by omega)
  rw [h, hs]
  simp only [Int.toNat_natCast, Nat.mul_one]
  have e : (madeCells (Value.int .u8 0).cells c) = ((List.replicate c (0 : Int)).map (Value.int .u8)).toArray := by
    apply Array.ext
    · simp [madeCells]
    · intro k h1 h2
      simp [madeCells, Value.cells, Nat.mod_one]
  rw [e]
  rfl

/-- The world with block g's cells laid anew. -/
def putRow (w : World) (g : Nat) (zs : List Int) : World := w.setRow g (zs.map (Value.int .u8)).toArray
theorem putRow_row {w : World} {g : Nat} {zs : List Int} (h : RowAt w g zs) (ys : List Int) : RowAt (putRow w g ys) g ys :=
  setRow_heap w g _ _ 5 (0, 0) h
theorem putRow_size (w : World) (g : Nat) (ys : List Int) : (putRow w g ys).heap.size = w.heap.size := by simp [putRow, World.setRow]
theorem putRow_kept {L : List Nat} {a w : World} (h : Kept L a w) {g : Nat} (hg : g < a.heap.size → g ∈ L) (ys : List Int) : Kept L a (putRow w g ys) := h.setRow hg _
theorem putRow_self {w : World} {g : Nat} {zs : List Int} (h : RowAt w g zs) : putRow w g zs = w := setRow_self w g _ 5 (0, 0) h

/-- A slice of length xs.length at 'a' holds the bytes xs (of an empty one nothing is asked). -/
def Hold (w : World) (a : Option Addr) (xs : List Int) : Prop := xs ≠ [] → ∃ b o, a = some ⟨b, o, none⟩ ∧ ∀ i, i < xs.length → w.cell? ⟨b, o + i, none⟩ = some (.int .u8 (xs.getD i 0))

theorem Hold.nil (w : World) (a : Option Addr) : Hold w a [] := fun h => absurd rfl h
theorem hold_of_row {w : World} {g : Nat} {zs : List Int} (h : RowAt w g zs) (n : Nat) : Hold w (some ⟨g, 0, none⟩) (zs.take n) := by
  intro _
  refine ⟨g, 0, rfl, fun i hi => ?_⟩
  have hi' : i < n ∧ i < zs.length := by simp at hi; omega
  rw [Nat.zero_add, h.cell hi'.2]
  simp [hi'.1]
theorem cell_lt {w : World} {b o : Nat} {v : Value} (h : w.cell? ⟨b, o, none⟩ = some v) : b < w.heap.size := by
  apply Classical.byContradiction
  intro hn
  rw [World.cell?, Array.getElem?_eq_none (by omega : w.heap.size ≤ b)] at h
  cases h
theorem Hold.same {w w' : World} {a : Option Addr} {xs : List Int} (h : Hold w a xs) (hc : ∀ b o, w.cell? ⟨b, o, none⟩ ≠ none → w'.cell? ⟨b, o, none⟩ = w.cell? ⟨b, o, none⟩) : Hold w' a xs := by
  intro hx
  obtain ⟨b, o, ha, h⟩ := h hx
  exact ⟨b, o, ha, fun i hi => by rw [hc _ _ (by rw [h i hi]; simp)]; exact h i hi⟩
theorem Hold.below {w w' : World} {a : Option Addr} {xs : List Int} (h : Hold w a xs) (hb : Below w.heap.size w w') : Hold w' a xs :=
  h.same fun b o hne => by
    obtain ⟨v, hv⟩ := Option.ne_none_iff_exists'.1 hne
    exact hb.cell (p := ⟨b, o, none⟩) (cell_lt hv)
theorem Hold.alloc {w : World} {a : Option Addr} {xs : List Int} (h : Hold w a xs) (o : Obj) : Hold (w.alloc o) a xs := h.below ((Below.refl _ _).alloc (Nat.le_refl _) _)
theorem Hold.drewN {w : World} {a : Option Addr} {xs : List Int} (h : Hold w a xs) (n : Nat) : Hold (w.drewN n) a xs := h

/-- ys laid over zs from place o on. -/
def over (zs : List Int) (o : Nat) (ys : List Int) : List Int := zs.take o ++ ys ++ zs.drop (o + ys.length)
theorem length_over (zs : List Int) (o : Nat) (ys : List Int) (h : o + ys.length ≤ zs.length) : (over zs o ys).length = zs.length := by simp [over]; omega

/-- copy: n bytes of a slice that holds xs (n the lesser length) go into row g from place o on. -/
theorem run_cp (w : World) (g o : Nat) (zs xs : List Int) (d a : Option Addr) (ty : TypeId) (dLen sLen dCap sCap : Nat) (hr : RowAt w g zs) (ha : Hold w a xs) (hd : xs ≠ [] → d = some ⟨g, o, none⟩)
    (hn : xs.length = Nat.min sLen dLen) (hl : o + xs.length ≤ zs.length) :
    (Builtin.copy_ #[22, 22] ty #[.slice d dLen dCap, .slice a sLen sCap]).run Tryd.prog w = .ok (goInt xs.length) (putRow w g (over zs o xs)) := by
  by_cases hx : xs = []
  · subst hx
    have h := run_copy_none (P := Tryd.prog) w 22 22 ty 5 d a dLen dCap sLen sCap Tryd.underlying22 size5 (by simpa using hn.symm)
    have e : putRow w g (over zs o []) = w := by
      have := putRow_self hr
      simpa [over] using this
    rw [e]
    exact h
  · obtain ⟨b, o', rfl, h⟩ := ha hx
    obtain rfl := hd hx
    have h := run_copy_row Tryd.prog w 22 22 ty 5 g o dLen dCap ⟨b, o', none⟩ sLen sCap (zs.map (Value.int .u8)).toArray 5 (xs.map (Value.int .u8)) Tryd.underlying22 size5 hr (by simpa using hn)
      (fun j v hj => by
        have hj' : j < xs.length := by
          have := (List.getElem?_eq_some_iff.1 hj).1; simpa using this
        rw [WideShapes.add_plain, h j hj']
        simp [hj'] at hj ⊢
        exact hj) (by simpa using hl) (fun v hv => by obtain ⟨z, _, rfl⟩ := List.mem_map.1 hv; rfl)
    rw [h]
    simp [putRow, over]
end Go.Proofs.Qxb6615168aDoor
