import Derived.Test.Qxb6615168aDoorMem
namespace Go.Proofs.Qxb6615168aDoor
open Go.RowKit
set_option maxHeartbeats 2000000
set_option maxRecDepth 100000

/-- A frame's header: the length, big end first, and the kind byte. -/
def hdr (v kb : Int) : List Int := [v / 16777216, v / 65536 % 256, v / 256 % 256, v % 256, kb]

theorem set4 (fs : List Int) (a b c d : Int) (h : 4 ≤ fs.length) : (((fs.set 0 a).set 1 b).set 2 c).set 3 d = [a, b, c, d] ++ fs.drop 4 := by
  match fs, h with
  | x0 :: x1 :: x2 :: x3 :: r, _ => simp
theorem set5 (fs : List Int) (a b c d e : Int) (h : 5 ≤ fs.length) : ([a, b, c, d] ++ fs.drop 4).set 4 e = [a, b, c, d, e] ++ fs.drop 5 := by
  match fs, h with
  | x0 :: x1 :: x2 :: x3 :: x4 :: r, _ => simp

theorem f35 (g n c : Nat) (fs : List Int) (v : Int) (w : World) (hr : RowAt w g fs) (hl : 4 ≤ fs.length) (hn : 4 ≤ n) (h0 : 0 ≤ v) (h1 : v < 4294967296) :
    Calls Tryd.prog 35 #[.agg #[], .slice (some ⟨g, 0, none⟩) n c, .int .u32 v] w fun e w' => e = .returned (.tuple #[]) ∧
      RowAt w' g ([v / 16777216, v / 65536 % 256, v / 256 % 256, v % 256] ++ fs.drop 4) ∧ Kept [g] w w' := by
  have HR : Hid (RowAt w g fs) := hr
  have c0 := hr.cell (i := 0) (by omega)
  have c1 := hr.cell (i := 1) (by omega)
  have c2 := hr.cell (i := 2) (by omega)
  have c3 := hr.cell (i := 3) (by omega)
  have z0 := hr.frozen 0
  have z1 := hr.frozen 1
  have z2 := hr.frozen 2
  have z3 := hr.frozen 3
  have hlt := hr.lt
  have hn' : (3 : Int) < (n : Int) := by omega
  generalize fs.getD 0 0 = y0 at *
  generalize fs.getD 1 0 = y1 at *
  generalize fs.getD 2 0 = y2 at *
  generalize fs.getD 3 0 = y3 at *
  go_enter Tryd.func35, Tryd.ntmps35
  go_wp2
  go_returns
  refine ⟨rfl, ?_, ?_⟩
  · have q := Blk.alloc ((((HR.out.set 0 (v / 16777216)).set 1 (v / 65536 % 256)).set 2 (v / 256 % 256)).set 3 (v % 256)) (Obj.cells #[] 76)
    rw [set4 fs _ _ _ _ hl] at q
    exact q
  · exact (((((Kept.refl _ _).setCell (p := ⟨g, 0, none⟩) (by simp) _).setCell (p := ⟨g, 1, none⟩) (by simp) _).setCell (p := ⟨g, 2, none⟩) (by simp) _).setCell (p := ⟨g, 3, none⟩) (by simp) _).alloc _

/-- putHeader lays the header over the frame's first five bytes. -/
theorem f24 (g n c m : Nat) (fs : List Int) (kb : Int) (w : World) (hr : RowAt w g fs) (hl : 5 ≤ fs.length) (hn : 5 ≤ n) (hm : m ≤ 65535) :
    Calls Tryd.prog 24 #[.slice (some ⟨g, 0, none⟩) n c, .int .i64 m, .int .u8 kb] w fun e w' => e = .returned (.tuple #[]) ∧
      RowAt w' g (hdr (1 + m) kb ++ fs.drop 5) ∧ Kept [g] w w' := by
  have hn' : (4 : Int) < (n : Int) := by omega
  go_enter Tryd.func24, Tryd.ntmps24
  go_wp2_with fail
  refine (f35 g n c fs (1 + m) w hr (by omega) (by omega) (by omega) (by omega)).mono ?_
  rintro e w1 ⟨rfl, hr1, hk1⟩
  have hl1 : 4 < ([(1 + (m : Int)) / 16777216, (1 + (m : Int)) / 65536 % 256, (1 + (m : Int)) / 256 % 256, (1 + (m : Int)) % 256] ++ fs.drop 4).length := by simp; omega
  have c4 := hr1.cell hl1
  have z4 := hr1.frozen 4
  have HR := hr1.set 4 kb
  rw [set5 fs _ _ _ _ _ hl] at HR
  have HR' : Hid (RowAt (w1.setCell ⟨g, 4, none⟩ (.int .u8 kb)) g (hdr (1 + m) kb ++ fs.drop 5)) := HR
  clear HR hl1 hr1
  generalize ([(1 + (m : Int)) / 16777216, (1 + (m : Int)) / 65536 % 256, (1 + (m : Int)) / 256 % 256, (1 + (m : Int)) % 256] ++ fs.drop 4).getD 4 0 = z at *
  go_wp2
  go_returns
  exact ⟨rfl, HR'.out, hk1.setCell (p := ⟨g, 4, none⟩) (by simp) _⟩
end Go.Proofs.Qxb6615168aDoor
