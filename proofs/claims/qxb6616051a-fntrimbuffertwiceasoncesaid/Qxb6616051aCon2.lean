import Derived.Test.Qxb6616051aCon1
namespace Go.Proofs.Qxb6616051a
open Go.RowKit

/-- The store in block S: what the laws read of it. -/
structure Store (w : World) (S : Nat) (dir : ByteArray) (mb wd : Int) (buf : Value) : Prop where
  dir : w.cell? ⟨S, 15, none⟩ = some (.string dir)
  last : w.cell? ⟨S, 20, none⟩ = some (.pointer none)
  mb : w.cell? ⟨S, 21, none⟩ = some (.int .i64 mb)
  buf : w.cell? ⟨S, 22, none⟩ = some buf
  wd : w.cell? ⟨S, 23, none⟩ = some (.int .i64 wd)
  closed : w.cell? ⟨S, 31, none⟩ = some (.bool false)
  free : w.frozen? ⟨S, 22, none⟩ = false

/-- The cells of a new store. -/
abbrev storeCells (dir : ByteArray) (mb wd : Int) (buf : Value) : Array Value :=
  #[.map none, .int .u64 0, .int .u64 0, .int .i64 0, .pointer none, .int .u64 0, .map none, .int .u64 0, .int .u64 0, .int .u64 0, .int .u64 0, .int .u64 0, .int .u64 0,
    .int .i64 0, .int .i64 0, .string dir, .int .u64 0, .int .i64 0, .pointer none, .slice none 0 0, .pointer none, .int .i64 mb, buf,
    .int .i64 wd, .nilIface, .pointer none, .bool false, .pointer none, .int .u64 0, .int .i64 0, .pointer none, .bool false]

theorem store_mk (W : World) (dir : ByteArray) (mb wd : Int) (buf : Value) : Store (W.alloc (.cells (storeCells dir mb wd buf) 51)) W.heap.size dir mb wd buf := by
  constructor <;> simp [storeCells]

theorem c6 (dir : ByteArray) (mb wd : Int) (a : Option Addr) (cap sp : Nat) (xs : List Int) (w : World) (ha : Hold w a xs) (hl : xs.length ≤ 1048576) (hs : sp ≤ 65536) :
    Calls Try.prog 6 #[.string dir, .int .i64 mb, .int .i64 wd, .slice a xs.length cap, .int .i64 sp] w fun e w' =>
      e = .returned (.pointer (some ⟨w.heap.size + 1, 0, none⟩)) ∧ Below w.heap.size w w' ∧ w'.heap.size = w.heap.size + 2 ∧
      Store w' (w.heap.size + 1) dir mb wd (.slice (some ⟨w.heap.size, 0, none⟩) xs.length (xs.length + sp)) ∧ RowAt w' w.heap.size (xs ++ List.replicate sp 0) := by
  have hmk := run_mk xs.length (xs.length + sp) (by omega) (by omega)
  have hcp := fun ty => run_cp (w.alloc (row (List.replicate (xs.length + sp) 0))) w.heap.size (List.replicate (xs.length + sp) 0) xs a ty (xs.length + sp) cap (RowAt.made _ _) (ha.alloc _) (by simp)
  simp only [List.drop_replicate, Nat.add_sub_cancel_left] at hcp
  rw [Int.natCast_add] at hmk
  have hsz := putRow_size (w.alloc (row (List.replicate (xs.length + sp) 0))) w.heap.size (xs ++ List.replicate sp 0)
  rw [World.size_alloc] at hsz
  go_enter Try.func6, Try.ntmps6
  go_wp2
  have HR : RowAt (putRow (w.alloc (row (List.replicate (xs.length + sp) 0))) w.heap.size (xs ++ List.replicate sp 0)) w.heap.size (xs ++ List.replicate sp 0) := putRow_row (RowAt.made _ _) _
  have HB : Below w.heap.size w (putRow (w.alloc (row (List.replicate (xs.length + sp) 0))) w.heap.size (xs ++ List.replicate sp 0)) := putRow_below ((Below.refl _ _).alloc (Nat.le_refl _) _) (Nat.le_refl _) _
  clear hcp hmk
  generalize putRow (w.alloc (row (List.replicate (xs.length + sp) 0))) w.heap.size (xs ++ List.replicate sp 0) = W at *
  go_ret
  refine ⟨rfl, HB.alloc (by omega) _, by simp [hsz], ?_, HR.alloc _⟩
  rw [← hsz]
  exact store_mk W dir mb wd _

theorem c7_drop (S : Nat) (dir : ByteArray) (mb wd : Int) (a : Option Addr) (n c : Nat) (w : World) (hs : Store w S dir mb wd (.slice a n c)) (hc : 65536 < c) (hc' : c ≤ 281474976710656) :
    Calls Try.prog 7 #[.pointer (some ⟨S, 0, none⟩)] w fun e w' => e = .returned (.tuple #[]) ∧ w' = w.setCell ⟨S, 22, none⟩ (.slice none 0 0) := by
  have h1 := hs.buf
  have h2 := hs.free
  have h3 : (65536 : Int) < (c : Int) := by omega
  clear hs
  go_enter Try.func7, Try.ntmps7
  go_wp2
  go_returns
  exact ⟨rfl, rfl⟩

theorem c7_keep (S : Nat) (dir : ByteArray) (mb wd : Int) (a : Option Addr) (n c : Nat) (w : World) (hs : Store w S dir mb wd (.slice a n c)) (hc : c ≤ 65536) :
    Calls Try.prog 7 #[.pointer (some ⟨S, 0, none⟩)] w fun e w' => e = .returned (.tuple #[]) ∧ w = w' := by
  have h1 := hs.buf
  have h3 : (c : Int) ≤ (65536 : Int) := by omega
  clear hs
  go_enter Try.func7, Try.ntmps7
  go_wp2
  go_returns
  exact ⟨rfl, rfl⟩

theorem store_drop {w : World} {S : Nat} {dir : ByteArray} {mb wd : Int} {buf : Value} (h : Store w S dir mb wd buf) (v : Value) : Store (w.setCell ⟨S, 22, none⟩ v) S dir mb wd v := by
  obtain ⟨h1, h2, h3, h4, h5, h6, h7⟩ := h
  constructor
  · rw [World.cell?_setCell_other _ _ _ _ (by simp)]; exact h1
  · rw [World.cell?_setCell_other _ _ _ _ (by simp)]; exact h2
  · rw [World.cell?_setCell_other _ _ _ _ (by simp)]; exact h3
  · exact World.cell?_setCell_same _ _ _ h4
  · rw [World.cell?_setCell_other _ _ _ _ (by simp)]; exact h5
  · rw [World.cell?_setCell_other _ _ _ _ (by simp)]; exact h6
  · simpa using h7

theorem c12 (S : Nat) (dir : ByteArray) (mb wd : Int) (a : Option Addr) (n c : Nat) (w : World) (hs : Store w S dir mb wd (.slice a n c)) :
    Calls Try.prog 12 #[.pointer (some ⟨S, 0, none⟩)] w fun e w' => e = .returned (.tuple #[.string dir, .int .i64 mb, .int .i64 wd, .slice a n c, .int .i64 c, .bool false, .bool false]) ∧
      ∃ nd, w' = w.drewN nd := by
  obtain ⟨h1, h2, h3, h4, h5, h6, h7⟩ := hs
  go_enter Try.func12, Try.ntmps12
  go_wp2
  go_quiet (fail)
  go_wp2
  refine bodyPost_ret (v := .tuple #[.string dir, .int .i64 mb, .int .i64 wd, .slice a n c, .int .i64 c, .bool false, .bool false]) (by simp [results, Try.results12, go_sem]; try rfl) rfl ?_
  exact ⟨rfl, nq, rfl⟩

theorem Store.below {w w' : World} {B S : Nat} {dir : ByteArray} {mb wd : Int} {buf : Value} (h : Store w S dir mb wd buf) (hb : Below B w w') (hS : S < B) : Store w' S dir mb wd buf := by
  obtain ⟨h1, h2, h3, h4, h5, h6, h7⟩ := h
  exact ⟨(hb.cell (p := ⟨S, 15, none⟩) hS).trans h1, (hb.cell (p := ⟨S, 20, none⟩) hS).trans h2, (hb.cell (p := ⟨S, 21, none⟩) hS).trans h3, (hb.cell (p := ⟨S, 22, none⟩) hS).trans h4,
    (hb.cell (p := ⟨S, 23, none⟩) hS).trans h5, (hb.cell (p := ⟨S, 31, none⟩) hS).trans h6, (hb.frozen (p := ⟨S, 22, none⟩) hS).trans h7⟩

/-- zzSnap: the store's fields as they read. -/
theorem c8 (S : Nat) (dir : ByteArray) (mb wd : Int) (a : Option Addr) (n c : Nat) (w : World) (hs : Store w S dir mb wd (.slice a n c)) (hS : S < w.heap.size) :
    Calls Try.prog 8 #[.pointer (some ⟨S, 0, none⟩)] w fun e w' => e = .returned (.agg #[.string dir, .int .i64 mb, .int .i64 wd, .slice a n c, .int .i64 c, .bool false, .bool false]) ∧
      Below w.heap.size w w' ∧ w'.heap.size = w.heap.size + 1 := by
  go_enter Try.func8, Try.ntmps8
  go_wp2_with fail
  refine (c12 S dir mb wd a n c _ (by exact hs.below ((Below.refl w.heap.size w).alloc (Nat.le_refl _) _) hS)).mono ?_
  rintro e w' ⟨rfl, nd, rfl⟩
  go_wp2
  refine bodyPost_ret (v := .agg #[.string dir, .int .i64 mb, .int .i64 wd, .slice a n c, .int .i64 c, .bool false, .bool false]) (by simp [results, Try.results8, go_sem]; try rfl) rfl ?_
  refine ⟨rfl, ?_, by simp⟩
  repeat (refine Below.setCell ?_ (by simp) _)
  exact below_drewN ((Below.refl _ _).alloc (Nat.le_refl _) _) nd
end Go.Proofs.Qxb6616051a
