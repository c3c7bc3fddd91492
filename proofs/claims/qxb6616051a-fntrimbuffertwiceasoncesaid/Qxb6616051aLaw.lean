import Derived.Test.Qxb6616051aCon3
namespace Go.Proofs.Qxb6616051a
open Go.RowKit
set_option maxHeartbeats 1000000
set_option maxRecDepth 100000

/-- A snapshot lies in block K. -/
structure Snap (w : World) (K : Nat) (dir : ByteArray) (mb wd : Int) (buf : Value) (c : Int) : Prop where
  s0 : w.cell? ⟨K, 0, none⟩ = some (.string dir)
  s1 : w.cell? ⟨K, 1, none⟩ = some (.int .i64 mb)
  s2 : w.cell? ⟨K, 2, none⟩ = some (.int .i64 wd)
  s3 : w.cell? ⟨K, 3, none⟩ = some buf
  s4 : w.cell? ⟨K, 4, none⟩ = some (.int .i64 c)
  s5 : w.cell? ⟨K, 5, none⟩ = some (.bool false)
  s6 : w.cell? ⟨K, 6, none⟩ = some (.bool false)
theorem snap_mk (w : World) (dir : ByteArray) (mb wd : Int) (buf : Value) (c : Int) :
    Snap (w.alloc (.cells #[.string dir, .int .i64 mb, .int .i64 wd, buf, .int .i64 c, .bool false, .bool false] 29)) w.heap.size dir mb wd buf c := by
  constructor <;> simp
theorem Snap.below {w w' : World} {B K : Nat} {dir : ByteArray} {mb wd : Int} {buf : Value} {c : Int} (h : Snap w K dir mb wd buf c) (hb : Below B w w') (hS : K < B) : Snap w' K dir mb wd buf c := by
  obtain ⟨h1, h2, h3, h4, h5, h6, h7⟩ := h
  exact ⟨(hb.cell (p := ⟨K, 0, none⟩) hS).trans h1, (hb.cell (p := ⟨K, 1, none⟩) hS).trans h2, (hb.cell (p := ⟨K, 2, none⟩) hS).trans h3, (hb.cell (p := ⟨K, 3, none⟩) hS).trans h4,
    (hb.cell (p := ⟨K, 4, none⟩) hS).trans h5, (hb.cell (p := ⟨K, 5, none⟩) hS).trans h6, (hb.cell (p := ⟨K, 6, none⟩) hS).trans h7⟩

theorem row_hold {w : World} {g : Nat} {xs : List Int} {sp : Nat} (h : RowAt w g (xs ++ List.replicate sp 0)) : Hold w (some ⟨g, 0, none⟩) xs := by
  have := hold_of_row h xs.length
  rwa [List.take_left] at this

/-- The clone of the data: a slice that holds the same bytes. -/
def Cloned (w : World) (a : Option Addr) (cap : Nat) (xs : List Int) : Prop :=
  Calls Try.prog 5 #[.slice a xs.length cap] w fun e w' => (∃ a' c', e = .returned (.slice a' xs.length c') ∧ Hold w' a' xs) ∧ Below w.heap.size w w'
theorem Cloned.out {w : World} {a : Option Addr} {cap : Nat} {xs : List Int} (h : Cloned w a cap xs) :
    Calls Try.prog 5 #[.slice a xs.length cap] w fun e w' => (∃ a' c', e = .returned (.slice a' xs.length c') ∧ Hold w' a' xs) ∧ Below w.heap.size w w' := h

/-- Where the law does not turn back at once, the clone being made: data nil or a new row. -/
theorem law_keep (dir : ByteArray) (mb wd : Int) (a : Option Addr) (cap sp : Nat) (xs : List Int) (w : World) (w0 : dir.size ≤ maxLen) (hd : dir.size + xs.length ≤ 1048576) (hs : sp ≤ 65536) (h : xs.length + sp ≤ 65536)
    (HC : Cloned w a cap xs) :
    Calls Try.prog 3 #[.string dir, .int .i64 mb, .int .i64 wd, .slice a xs.length cap, .int .i64 sp] w fun e w' => e = .returned (.bool true) ∧ Below w.heap.size w w' := by
  have hm : xs.length ≤ maxLen := by unfold maxLen; omega
  go_enter Try.func3, Try.ntmps3
  go_wp2_with (go_at_call 4; refine (c4 _ _ _ _ _ _ _ _ w0 hm).mono ?_; rintro e w' ⟨⟨b, rfl⟩, rfl⟩)
  · go_ret
    exact ⟨rfl, Below.refl _ _⟩
  refine HC.out.mono ?_
  rintro e w1 ⟨⟨a', c', rfl, hh⟩, hb1⟩
  go_wp2_with fail
  refine (c6 _ _ _ _ _ _ xs _ hh (by omega) hs).mono ?_
  rintro e w2 ⟨rfl, hb2, hz2, hS2, hr2⟩
  have hh2 := hh.below hb2
  have i2 : w1.heap.size + 2 ≤ w2.heap.size := by omega
  clear HC hh hz2
  go_wp2_with fail
  refine (c7_keep _ _ _ _ _ _ _ _ hS2 h).mono ?_
  rintro e _ ⟨rfl, rfl⟩
  go_wp2_with fail
  refine (c8 _ _ _ _ _ _ _ _ hS2 (by omega)).mono ?_
  rintro e w3 ⟨rfl, hb3, hz3⟩
  have hS3 := hS2.below hb3 (by omega)
  have hr3 := hr2.below hb3 (by omega)
  have hh3 := hh2.below hb3
  have i3 : w2.heap.size < w3.heap.size := by omega
  have b3 : Below w.heap.size w w3 := (hb1.trans (hb2.mono hb1.size)).trans (hb3.mono (by have := hb1.size; omega))
  clear hS2 hr2 hh2 hb3 hz3 hb2
  go_wp2_with fail
  refine (c7_keep _ _ _ _ _ _ _ _ (by exact hS3.below ((Below.refl w3.heap.size w3).alloc (Nat.le_refl _) _) (by omega)) h).mono ?_
  rintro e _ ⟨rfl, rfl⟩
  go_wp2_with fail
  refine (c8 (w1.heap.size + 1) dir mb wd (some ⟨w1.heap.size, 0, none⟩) xs.length (xs.length + sp) _ (by exact hS3.below ((Below.refl w3.heap.size w3).alloc (Nat.le_refl _) _) (by omega)) (by simp; omega)).mono ?_
  rintro e w5 ⟨rfl, hb5, hz5⟩
  have q5 : Snap w5 w3.heap.size dir mb wd (.slice (some ⟨w1.heap.size, 0, none⟩) xs.length (xs.length + sp)) ((xs.length : Int) + sp) := (snap_mk w3 dir mb wd _ _).below hb5 (by simp)
  obtain ⟨q50, q51, q52, q53, q54, q55, q56⟩ := q5
  have b35 : Below w3.heap.size w3 w5 := ((Below.refl w3.heap.size w3).alloc (Nat.le_refl _) _).trans (hb5.mono (by simp))
  have i5 : w3.heap.size < w5.heap.size := by have := hb5.size; simp at this; omega
  have hr5 := hr3.below b35 (by omega)
  have hh5 := hh3.below b35
  have b5 : Below w.heap.size w w5 := b3.trans (b35.mono (by have := hb1.size; omega))
  clear hS3 hr3 hh3 hb5 hz5
  go_wp2_with fail
  refine (c9_keep dir mb wd a' ⟨w1.heap.size, 0, none⟩ xs c' sp _ (by omega) hs h (by exact hh5.alloc _) (by exact row_hold (hr5.alloc _))).mono ?_
  rintro e w6 ⟨rfl, hb6⟩
  have q6 : Snap w6 w5.heap.size dir mb wd (.slice (some ⟨w1.heap.size, 0, none⟩) xs.length (xs.length + sp)) ((xs.length : Int) + sp) := (snap_mk w5 dir mb wd _ _).below hb6 (by simp)
  obtain ⟨q60, q61, q62, q63, q64, q65, q66⟩ := q6
  have b56 : Below w5.heap.size w5 w6 := ((Below.refl w5.heap.size w5).alloc (Nat.le_refl _) _).trans (hb6.mono (by simp))
  obtain ⟨q70, q71, q72, q73, q74, q75, q76⟩ : Snap w6 w3.heap.size dir mb wd (.slice (some ⟨w1.heap.size, 0, none⟩) xs.length (xs.length + sp)) ((xs.length : Int) + sp) := (Snap.mk q50 q51 q52 q53 q54 q55 q56).below b56 i5
  have b6 : Below w.heap.size w w6 := b5.trans (b56.mono b5.size)
  have hr6 := hr5.below b56 (by omega)
  clear q50 q51 q52 q53 q54 q55 q56 hb6 hh5 hr5
  go_wp2_with fail
  refine (c10 dir mb wd (some ⟨w1.heap.size, 0, none⟩) xs (xs.length + sp) ((xs.length : Int) + sp) _ (by omega) (row_hold hr6)).mono ?_
  rintro e w7 ⟨rfl, hb7⟩
  go_wp2
  go_ret
  exact ⟨rfl, b6.trans (hb7.mono b6.size)⟩

theorem law_drop (dir : ByteArray) (mb wd : Int) (a : Option Addr) (cap sp : Nat) (xs : List Int) (w : World) (w0 : dir.size ≤ maxLen) (hd : dir.size + xs.length ≤ 1048576) (hs : sp ≤ 65536) (h : 65536 < xs.length + sp)
    (HC : Cloned w a cap xs) :
    Calls Try.prog 3 #[.string dir, .int .i64 mb, .int .i64 wd, .slice a xs.length cap, .int .i64 sp] w fun e w' => e = .returned (.bool true) ∧ Below w.heap.size w w' := by
  have hm : xs.length ≤ maxLen := by unfold maxLen; omega
  go_enter Try.func3, Try.ntmps3
  go_wp2_with (go_at_call 4; refine (c4 _ _ _ _ _ _ _ _ w0 hm).mono ?_; rintro e w' ⟨⟨b, rfl⟩, rfl⟩)
  · go_ret
    exact ⟨rfl, Below.refl _ _⟩
  refine HC.out.mono ?_
  rintro e w1 ⟨⟨a', c', rfl, hh⟩, hb1⟩
  go_wp2_with fail
  refine (c6 _ _ _ _ _ _ xs _ hh (by omega) hs).mono ?_
  rintro e w2 ⟨rfl, hb2, hz2, hS2, hr2⟩
  have i2 : w1.heap.size + 2 ≤ w2.heap.size := by omega
  clear HC hh hz2 hr2
  go_wp2_with fail
  refine (c7_drop _ _ _ _ _ _ _ _ hS2 h (by omega)).mono ?_
  rintro e u2 ⟨rfl, rfl⟩
  have hS2' := store_drop hS2 (.slice none 0 0)
  have bu : Below w.heap.size w (w2.setCell ⟨w1.heap.size + 1, 22, none⟩ (.slice none 0 0)) := (hb1.trans (hb2.mono hb1.size)).setCell (by have := hb1.size; show _ ≤ w1.heap.size + 1; omega) _
  have iu : w1.heap.size + 2 ≤ (w2.setCell ⟨w1.heap.size + 1, 22, none⟩ (.slice none 0 0)).heap.size := by simpa using i2
  clear hS2 hb2 i2
  generalize w2.setCell ⟨w1.heap.size + 1, 22, none⟩ (.slice none 0 0) = u2 at *
  go_wp2_with fail
  refine (c8 _ _ _ _ _ _ _ _ hS2' (by omega)).mono ?_
  rintro e w3 ⟨rfl, hb3, hz3⟩
  have hS3 := hS2'.below hb3 (by omega)
  have i3 : u2.heap.size < w3.heap.size := by omega
  have b3 : Below w.heap.size w w3 := bu.trans (hb3.mono (by have := hb1.size; omega))
  clear hS2' hb3 hz3 bu
  go_wp2_with fail
  refine (c7_keep _ _ _ _ _ _ _ _ (by exact hS3.below ((Below.refl w3.heap.size w3).alloc (Nat.le_refl _) _) (by omega)) (by omega)).mono ?_
  rintro e _ ⟨rfl, rfl⟩
  go_wp2_with fail
  refine (c8 (w1.heap.size + 1) dir mb wd none 0 0 _ (by exact hS3.below ((Below.refl w3.heap.size w3).alloc (Nat.le_refl _) _) (by omega)) (by simp; omega)).mono ?_
  rintro e w5 ⟨rfl, hb5, hz5⟩
  obtain ⟨q50, q51, q52, q53, q54, q55, q56⟩ : Snap w5 w3.heap.size dir mb wd (.slice none 0 0) 0 := (snap_mk w3 dir mb wd _ _).below hb5 (by simp)
  have b35 : Below w3.heap.size w3 w5 := ((Below.refl w3.heap.size w3).alloc (Nat.le_refl _) _).trans (hb5.mono (by simp))
  have i5 : w3.heap.size < w5.heap.size := by have := hb5.size; simp at this; omega
  have b5 : Below w.heap.size w w5 := b3.trans (b35.mono (by have := hb1.size; omega))
  clear hS3 hb5 hz5
  go_wp2_with fail
  refine (c9_drop dir mb wd a' xs.length c' sp _ (by omega) hs h).mono ?_
  rintro e w6 ⟨rfl, hb6⟩
  obtain ⟨q60, q61, q62, q63, q64, q65, q66⟩ : Snap w6 w5.heap.size dir mb wd (.slice none 0 0) 0 := (snap_mk w5 dir mb wd _ _).below hb6 (by simp)
  have b56 : Below w5.heap.size w5 w6 := ((Below.refl w5.heap.size w5).alloc (Nat.le_refl _) _).trans (hb6.mono (by simp))
  obtain ⟨q70, q71, q72, q73, q74, q75, q76⟩ : Snap w6 w3.heap.size dir mb wd (.slice none 0 0) 0 := (Snap.mk q50 q51 q52 q53 q54 q55 q56).below b56 i5
  have b6 : Below w.heap.size w w6 := b5.trans (b56.mono b5.size)
  clear q50 q51 q52 q53 q54 q55 q56 hb6
  go_wp2_with fail
  refine (c10 dir mb wd none [] 0 0 _ (by simp) (Hold.nil _ _)).mono ?_
  rintro e w7 ⟨rfl, hb7⟩
  go_wp2
  go_ret
  exact ⟨rfl, b6.trans (hb7.mono b6.size)⟩
end Go.Proofs.Qxb6616051a
