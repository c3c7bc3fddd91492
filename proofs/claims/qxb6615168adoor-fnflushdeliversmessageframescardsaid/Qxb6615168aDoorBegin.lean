import Derived.Test.Qxb6615168aDoorEmit
namespace Go.Proofs.Qxb6615168aDoor
open Go.RowKit Go.MuLone
set_option maxHeartbeats 2000000
set_option maxRecDepth 100000

/-- A store into the writer's own block. -/
theorem St.lock {w : World} {N s u ur f b : Nat} {G : List Nat} {mu : Int} {fl : Nat} {fs us : List Int} {m : Nat} {bs : List Int} (h : St w N s u ur f b G mu fl fs us m bs) (mu' : Int) :
    St (w.setCell ⟨s, 0, none⟩ (.int .i32 mu')) N s u ur f b G mu' fl fs us m bs :=
  h.head ((Kept.refl _ _).setCell (p := ⟨s, 0, none⟩) (by simp) _) (h.blk.set 0 (.int .i32 mu'))
theorem St.reslice {w : World} {N s u ur f b : Nat} {G : List Nat} {mu : Int} {fl : Nat} {fs us : List Int} {m : Nat} {bs : List Int} (h : St w N s u ur f b G mu fl fs us m bs) (fl' : Nat) :
    St (w.setCell ⟨s, 3, none⟩ (.slice (some ⟨f, 0, none⟩) fl' 65540)) N s u ur f b G mu fl' fs us m bs :=
  h.head ((Kept.refl _ _).setCell (p := ⟨s, 3, none⟩) (by simp) _) (h.blk.set 3 _)
theorem St.kind {w : World} {N s u ur f b : Nat} {G : List Nat} {mu : Int} {fl : Nat} {fs us : List Int} {m : Nat} {bs : List Int} (h : St w N s u ur f b G mu fl fs us m bs) (k : Int) :
    St (w.setCell ⟨f, 4, none⟩ (.int .u8 k)) N s u ur f b G mu fl (fs.set 4 k) us m bs :=
  h.frame ((Kept.refl _ _).setCell (p := ⟨f, 4, none⟩) (by simp) _) (h.rf.set 4 k) (by rw [List.length_set]; exact h.fsl)

/-- Begin: the frame is empty, its kind k. -/
theorem f7 (N s u ur f b : Nat) (G : List Nat) (fl : Nat) (fs us bs : List Int) (k : Int) (w : World) (h : St w N s u ur f b G 0 fl fs us 0 bs) :
    Calls Tryd.prog 7 #[.pointer (some ⟨s, 0, none⟩), .int .u8 k] w fun e w' => e = .returned (.tuple #[]) ∧ St w' N s u ur f b G 0 5 (fs.set 4 k) us 0 bs ∧ Below N w w' := by
  have h1 := h.lock 1
  have b1 : Below N w (w.setCell ⟨s, 0, none⟩ (.int .i32 1)) := (Below.refl N w).setCell (p := ⟨s, 0, none⟩) h.ns _
  have hsf : s ≠ f := Blk.ne h.blk h.rf (by decide)
  go_enter_defers Tryd.func7, Tryd.ntmps7
  go_wp2_with fail
  refine (lock_free Tryd.muLib ⟨s, 0, none⟩ _ (h.blk.cell 0 rfl) (h.blk.frozen 0)).mono ?_
  rintro e _ ⟨rfl, rfl⟩
  generalize w.setCell ⟨s, 0, none⟩ (.int .i32 1) = W at *
  have c3 := h1.blk.cell 3 rfl
  have z3 := h1.blk.frozen 3
  have q4 := h1.rf.cell (i := 4) (by rw [h1.fsl]; omega)
  have x4 := h1.rf.frozen 4
  have h2 := (h1.reslice 5).kind k
  have b2 := (b1.setCell (p := ⟨s, 3, none⟩) h.ns (.slice (some ⟨f, 0, none⟩) 5 65540)).setCell (p := ⟨f, 4, none⟩) h.nf (.int .u8 k)
  go_wp2_with fail
  refine leaves_cons (f := 16) (args := #[.pointer (some ⟨s, 0, none⟩)]) (by simp) (by simp [go_sem]) ?_
  generalize (W.setCell ⟨s, 3, none⟩ (.slice (some ⟨f, 0, none⟩) 5 65540)).setCell ⟨f, 4, none⟩ (.int .u8 k) = W2 at *
  refine (unlock_deferred Tryd.muLib ⟨s, 0, none⟩ .returning _ (h2.blk.cell 0 rfl) (h2.blk.frozen 0)).mono ?_
  rintro e u' w'' ⟨rfl, rfl, rfl⟩
  exact ⟨_, results_none rfl _ _ _, rfl, h2.lock 0, b2.setCell (p := ⟨s, 0, none⟩) h.ns _⟩
end Go.Proofs.Qxb6615168aDoor
