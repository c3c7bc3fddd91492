/-
  THE SHELL OF A PROOF OF 'Rows.FnTrimBufferTwiceAsOnceSaid' ('example.com/befristung/befristung/zzlaws_pkg_stream_b1.FnTrimBufferTwiceAsOnce'), WRITTEN BY PROGRAM (proof-skeleton.mjs, third state) off the guide's own print for that function.
  The hole of the shell is filled ('walk', by 'law_keep' and 'law_drop' of Qxb6616051aLaw.lean). All else is the shell's.
-/
import Derived.Test.Qxb6616051aRows
import Derived.Test.Qxb6616051aLaw
import Derived.WalkKit
import Derived.ProofKit
import Derived.OpenShut
import Derived.ShutString
import Derived.ChangeOld
import Derived.Below
namespace Go.Proofs.Qxb6616051a.fnTrimBufferTwiceAsOnce
open Go.ChangeShapes Go.WideShapes Go.ChangeAt Go.RowKit
open Go.ChangeMaps (open_string shut_string)
set_option linter.unusedVariables false

theorem own : ownKnob Try.prog.godebug = none := by kernel_rfl
theorem laidOut : laidOutB Try.prog = true := by kernel_rfl

/-- WHAT THE WALK IS TOLD OF A SLICE OF INTEGERS THAT CAME IN: it is nil; or it leads to a row of 'cap' cells, the numbers 'zs' (the first 'len' are its elements, the rest its spare room), each fitting its kind. -/
def IsRow (k : IntKind) (w : World) (a : Option Addr) (len cap : Nat) (zs : List Int) : Prop :=
  (a = none ∧ len = 0 ∧ cap = 0 ∧ zs = []) ∨
  ∃ x, a = some x ∧ len ≤ cap ∧ cap ≤ maxLen ∧ zs.length = cap ∧ (∀ i, i < zs.length → w.cell? (x.add i) = some (.int k (zs.getD i 0))) ∧ ∀ n ∈ zs, (Lit.int k n).wf = true

set_option maxHeartbeats 1000000 in
set_option maxRecDepth 100000 in
theorem walk (a0 : ByteArray) (a1 : Int) (a2 : Int) (a3 : Option Addr) (len3 cap3 : Nat) (z3 : List Int) (a4 : Int) (w : World) (w0 : a0.size ≤ maxLen) (w1 : (Lit.int .i64 a1).wf = true) (w2 : (Lit.int .i64 a2).wf = true) (w3 : IsRow .u8 w a3 len3 cap3 z3) (w4 : (Lit.int .i64 a4).wf = true) :
    Calls Try.prog 3 #[.string a0, .int .i64 a1, .int .i64 a2, .slice a3 len3 cap3, .int .i64 a4] w fun e w' => e = .returned (.bool true) ∧ Below w.heap.size w w' := by
  have h0 := w0
  unfold maxLen at h0
  have hlm : len3 ≤ 9223372036854775807 := by
    rcases w3 with ⟨_, rfl, _⟩ | ⟨x, _, hl, hm, _⟩
    · omega
    · unfold maxLen at hm; omega
  have hlm' : len3 ≤ maxLen := by unfold maxLen; exact hlm
  by_cases hd : a0.size + len3 ≤ 1048576
  · by_cases hs : 0 ≤ a4 ∧ a4 ≤ 65536
    · obtain ⟨sp, rfl⟩ := Int.eq_ofNat_of_zero_le hs.1
      have hsp : sp ≤ 65536 := by omega
      obtain ⟨xs, hxl, HC⟩ : ∃ xs : List Int, xs.length = len3 ∧ Cloned w a3 cap3 xs := by
        rcases w3 with ⟨rfl, rfl, rfl, _⟩ | ⟨x, rfl, hl, hm, hz, hcell, _⟩
        · refine ⟨[], rfl, (c5_nil w).mono ?_⟩
          rintro e w' ⟨rfl, rfl⟩
          exact ⟨⟨none, 0, rfl, Hold.nil _ _⟩, Below.refl _ _⟩
        · have hxl : (z3.take len3).length = len3 := by rw [List.length_take]; omega
          have hh : Hold w (some x) (z3.take len3) := by
            intro hne
            have hp : 0 < z3.length := by
              rcases z3 with _ | ⟨y, ys⟩
              · simp at hne
              · simp
            obtain ⟨b, off, rfl, hc⟩ := ints_at hcell hp
            refine ⟨b, off, rfl, fun i hi => ?_⟩
            rw [List.length_take] at hi
            rw [hc i (by omega)]
            simp [show i < len3 by omega]
          refine ⟨z3.take len3, hxl, ?_⟩
          have := c5 x cap3 (z3.take len3) w hh (by omega)
          refine this.mono ?_
          rintro e w' ⟨rfl, hb, _, hr⟩
          exact ⟨⟨_, _, rfl, by have := hold_of_row hr (z3.take len3).length; rwa [List.take_length] at this⟩, hb⟩
      subst hxl
      by_cases h : xs.length + sp ≤ 65536
      · exact law_keep a0 a1 a2 a3 cap3 sp xs w w0 hd hsp h HC
      · exact law_drop a0 a1 a2 a3 cap3 sp xs w w0 hd hsp (by omega) HC
    · clear w3
      by_cases h4 : a4 < 0
      · go_enter Try.func3, Try.ntmps3
        go_wp2_with (go_at_call 4; refine (c4 _ _ _ _ _ _ _ _ w0 hlm').mono ?_; rintro e w' ⟨⟨b, rfl⟩, rfl⟩)
        all_goals (go_ret; exact ⟨rfl, Below.refl _ _⟩)
      · have h5 : 65536 < a4 := by omega
        clear hs
        go_enter Try.func3, Try.ntmps3
        go_wp2_with (go_at_call 4; refine (c4 _ _ _ _ _ _ _ _ w0 hlm').mono ?_; rintro e w' ⟨⟨b, rfl⟩, rfl⟩)
        all_goals (go_ret; exact ⟨rfl, Below.refl _ _⟩)
  · clear w3
    have hd' : (1048576 : Int) < (a0.size : Int) + (len3 : Int) := by omega
    clear hd
    by_cases k1 : (1048576 : Int) < (a0.size : Int)
    · go_enter Try.func3, Try.ntmps3
      go_wp2_with (go_at_call 4; refine (c4 _ _ _ _ _ _ _ _ w0 hlm').mono ?_; rintro e w' ⟨⟨b, rfl⟩, rfl⟩)
      all_goals (go_ret; exact ⟨rfl, Below.refl _ _⟩)
    by_cases k2 : (1048576 : Int) < (len3 : Int)
    · go_enter Try.func3, Try.ntmps3
      go_wp2_with (go_at_call 4; refine (c4 _ _ _ _ _ _ _ _ w0 hlm').mono ?_; rintro e w' ⟨⟨b, rfl⟩, rfl⟩)
      all_goals (go_ret; exact ⟨rfl, Below.refl _ _⟩)
    · go_enter Try.func3, Try.ntmps3
      go_wp2_with (go_at_call 4; refine (c4 _ _ _ _ _ _ _ _ w0 hlm').mono ?_; rintro e w' ⟨⟨b, rfl⟩, rfl⟩)
      all_goals (go_ret; exact ⟨rfl, Below.refl _ _⟩)

/-! ### THE ROW's STEP: WRITTEN OUT: LEAVE IT -/
set_option maxRecDepth 100000 in
theorem lifted (os : Os) (started : os.Started) (H : Type) (enc : TypeId × Value → H) :
    ReturnsInHanded {} Try.checked os 3 .any (Rows.fnTrimBufferTwiceAsOnceSpec.pre6 enc Try.prog Try.f3 Rows.fnTrimBufferTwiceAsOnceRow.domain false) (Rows.fnTrimBufferTwiceAsOnceSpec.post enc Try.prog Try.f3 false true false false) := by
  refine returnsInHanded_of_change (C := Try.checked) own started (by kernel_rfl) Try.func3
    (ChangeSpec.witness6 (enc := enc) (C := Try.checked) false ⟨#[], #[.string ByteArray.empty, .int .i64 0, .int .i64 0, .slice none 0 0, .int .i64 0], []⟩ 8 (by kernel_rfl) (by kernel_rfl) (by kernel_rfl) (by kernel_rfl)) ?_
  intro W base args ds gs before hval0 hW hcnd _
  have hval : ∀ (j : Nat) t v, Try.f3.params[j]? = some t → args[j]? = some v → Value.okWide Try.prog W .any base t v := hval0
  have hW' := hW
  obtain ⟨p, q, hA0, hV, rfl, hfz, hnd⟩ := hW
  have hA : DataW.TrodAll enc Try.prog W 0 (fun _ => true) true Try.f3.params.toList args.toList ds p := hA0
  rw [Try.params3] at hA hval
  obtain ⟨v0, vs0, d0, ds0, p0, q0, hargs, rfl, rfl, h0, r0⟩ := trodAll_cons hA
  obtain ⟨v1, vs1, d1, ds1, p1, q1, rfl, rfl, rfl, h1, r1⟩ := trodAll_cons r0
  obtain ⟨v2, vs2, d2, ds2, p2, q2, rfl, rfl, rfl, h2, r2⟩ := trodAll_cons r1
  obtain ⟨v3, vs3, d3, ds3, p3, q3, rfl, rfl, rfl, h3, r3⟩ := trodAll_cons r2
  obtain ⟨v4, vs4, d4, ds4, p4, q4, rfl, rfl, rfl, h4, r4⟩ := trodAll_cons r3
  obtain ⟨rfl, rfl, rfl⟩ := trodAll_nil r4
  obtain rfl : args = #[v0, v1, v2, v3, v4] := by cases args; simp_all
  obtain ⟨rfl, rfl⟩ := trodVars_none hV
  obtain ⟨a0, rfl, rfl, rfl, w0⟩ := open_string Try.underlying9 (hval 0 9 v0 rfl rfl) h0
  obtain ⟨a1, rfl, rfl, rfl, w1⟩ := open_int Try.underlying2 (hval 1 2 v1 rfl rfl) h1
  obtain ⟨a2, rfl, rfl, rfl, w2⟩ := open_int Try.underlying2 (hval 2 2 v2 rfl rfl) h2
  obtain ⟨a3, len3, cap3, rfl⟩ := okWide_slice Try.underlying22 (hval 3 22 v3 rfl rfl)
  have k3 := h3
  have lt3 : ∀ x ∈ p3, x.block < W.heap.size := by obtain ⟨m, hm⟩ := k3; exact DataW.trod_lt m _ _ _ hm
  obtain ⟨z3, w3⟩ : ∃ zs, IsRow .u8 W a3 len3 cap3 zs := by
    obtain ⟨fuel, hf⟩ := h3
    rcases open_ints Try.underlying22 Try.underlying5 (by kernel_rfl) hf with ⟨hcs, _⟩ | ⟨x, l, c, zs, hcs, _, hl, hm, hz, _, hcell, hwz⟩
    · simp [Value.cells] at hcs
      obtain ⟨rfl, rfl, rfl⟩ := hcs
      exact ⟨[], .inl ⟨rfl, rfl, rfl, rfl⟩⟩
    · simp [Value.cells] at hcs
      obtain ⟨rfl, rfl, rfl⟩ := hcs
      exact ⟨zs, .inr ⟨_, rfl, hl, hm, by simpa using hz, hcell, hwz⟩⟩
  obtain ⟨a4, rfl, rfl, rfl, w4⟩ := open_int Try.underlying3 (hval 4 3 v4 rfl rfl) h4
  clear hA0 hval0
  refine (walk a0 a1 a2 a3 len3 cap3 z3 a4 W w0 w1 w2 w3 w4).mono fun e W' ⟨he, bel⟩ => ?_
  subst he
  exact ⟨_, rfl, _, _, _, [], _, [], hW', trodAll_mk1 (shut_bool Try.underlying4 _), (trodAll_cons_mk (shut_string Try.underlying9 w0) (trodAll_cons_mk (shut_int Try.underlying2 w1) (trodAll_cons_mk (shut_int Try.underlying2 w2) (trodAll_cons_mk (Below.trod laidOut (by kernel_rfl) (of_decide_eq_true (by kernel_rfl)) k3 bel lt3) (trodAll_cons_mk (shut_int Try.underlying3 w4) trodAll_mk0))))), rfl, bel.frame _, fun h => by cases h⟩

theorem over : Rows.fnTrimBufferTwiceAsOnceRow.holds Try.pinned (OpenSpec.ofChange Rows.fnTrimBufferTwiceAsOnceSpec) :=
  OpenClaim.holds_of_wide 3 Try.f3 rfl rfl rfl rfl rfl rfl rfl ⟨rfl, rfl, rfl, rfl, rfl⟩ rfl rfl rfl rfl rfl (by kernel_rfl) Try.func3 (by kernel_rfl)
    (of_decide_eq_true (by kernel_rfl)) (by unfold Func.isWrapper; first | (rw [if_pos (by decide +kernel)]; kernel_rfl) | (rw [if_neg (by decide +kernel)]; exact ⟨rfl, rfl⟩))
    (fun os started H enc _ => lifted os started H enc)

/-- ████ THE STATEMENT ████ -/
theorem proved : Rows.FnTrimBufferTwiceAsOnceSaid := over
end Go.Proofs.Qxb6616051a.fnTrimBufferTwiceAsOnce
