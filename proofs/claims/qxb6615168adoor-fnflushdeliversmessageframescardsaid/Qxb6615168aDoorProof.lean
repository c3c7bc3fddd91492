import Derived.Test.Qxb6615168aDoorRows
import Derived.Test.Qxb6615168aDoorTie
import Derived.Test.Qxb6615168aDoorCards
import Derived.Test.Qxb6615168aDoorLaw
import Derived.WalkKit
import Derived.ProofKit
import Derived.OpenShut
import Derived.ShutString
import Derived.ChangeOld
import Derived.Below
import Derived.LaidMore
import Derived.Stop.Joined
import Derived.SevenTiedAt
namespace Go.Proofs.Qxb6615168aDoor
open Go.ChangeShapes Go.WideShapes Go.ChangeAt Go.RowKit

theorem own : ownKnob Tryd.prog.godebug = none := by kernel_rfl
theorem laidOut : laidOutB Tryd.prog = true := by kernel_rfl

/-- What the row lists. -/
abbrev laidL : List (String × DataW Unit) := [("io.ErrShortWrite", Rows.laid_io_ErrShortWrite)]

/-- The door's own heap meets the condition. -/
theorem door_met (os : Os) (args : Array Value) : laidMetH Tryd.prog laidL ((World.doorLaid Tryd.prog 47 os).forCall (fun _ _ => 0) ⟨#[], args, []⟩).memory :=
  laidMetH_of_parts3 (fuel := 8) (laidMet_of_run' 8 (by kernel_rfl) (by kernel_rfl)) (by kernel_rfl) (by kernel_rfl)

/-- What the walk is told of a slice of bytes that came in: nil, or a row of 'cap' cells. -/
def IsRow (w : World) (a : Option Addr) (len cap : Nat) (zs : List Int) : Prop :=
  (a = none ∧ len = 0 ∧ cap = 0 ∧ zs = []) ∨
  ∃ x, a = some x ∧ len ≤ cap ∧ cap ≤ maxLen ∧ zs.length = cap ∧ (∀ i, i < zs.length → w.cell? (x.add i) = some (.int .u8 (zs.getD i 0))) ∧ ∀ n ∈ zs, (Lit.int .u8 n).wf = true

set_option maxHeartbeats 1000000 in
set_option maxRecDepth 100000 in
theorem walk (k : Int) (a : Option Addr) (len cap : Nat) (zs : List Int) (w : World) (wk : (Lit.int .u8 k).wf = true) (h : IsRow w a len cap zs) :
    Calls Tryd.prog 3 #[.int .u8 k, .slice a len cap] w fun e w' => e = .returned (.bool true) ∧ Below w.heap.size w w' := by
  have hk := bounds_u8 wk
  have hlm : len ≤ maxLen ∧ len ≤ cap := by
    rcases h with ⟨_, rfl, rfl, _⟩ | ⟨x, _, hl, hm, _⟩
    · exact ⟨by unfold maxLen; omega, Nat.le_refl _⟩
    · exact ⟨by omega, hl⟩
  by_cases hps : len ≤ 1048576
  · obtain ⟨ps, hpl, ha, HC⟩ : ∃ ps : List Int, ps.length = len ∧ Hold w a ps ∧ Cloned w a cap ps := by
      rcases h with ⟨rfl, rfl, rfl, _⟩ | ⟨x, rfl, hl, hm, hz, hcell, _⟩
      · refine ⟨[], rfl, Hold.nil _ _, (f5_nil w).mono ?_⟩
        rintro e w' ⟨rfl, rfl⟩
        exact ⟨⟨none, 0, rfl, Hold.nil _ _, by simp, by simp, by unfold maxLen; omega⟩, Below.refl _ _⟩
      · have hxl : (zs.take len).length = len := by rw [List.length_take]; omega
        have hh : Hold w (some x) (zs.take len) := by
          intro hne
          have hp : 0 < zs.length := by
            rcases zs with _ | ⟨y, ys⟩
            · simp at hne
            · simp
          obtain ⟨b, off, rfl, hc⟩ := ints_at hcell hp
          refine ⟨b, off, rfl, fun i hi => ?_⟩
          rw [List.length_take] at hi
          rw [hc i (by omega)]
          simp [show i < len by omega]
        refine ⟨zs.take len, hxl, hh, ?_⟩
        have := f5 x cap (zs.take len) w hh (by omega)
        refine this.mono ?_
        rintro e w' ⟨rfl, hb, hsz, hr⟩
        refine ⟨⟨_, _, rfl, by have := hold_of_row hr (zs.take len).length; rwa [List.take_length] at this, ?_, Nat.le_refl _, by omega⟩, hb⟩
        rintro y ⟨⟩
        show w.heap.size < w'.heap.size
        omega
    subst hpl
    exact law_main k a cap ps w hk.1 hk.2 ha hlm.2 hps HC
  · have hps' : (1048576 : Int) < (len : Int) := by omega
    clear h
    go_enter Tryd.func3, Tryd.ntmps3
    go_wp2_with (go_at_call 4; refine (f4 _ _ _ _ _ hlm.1).mono ?_; rintro e w' ⟨⟨b, rfl⟩, rfl⟩)
    all_goals (go_ret; exact ⟨rfl, Below.refl _ _⟩)
end Go.Proofs.Qxb6615168aDoor
