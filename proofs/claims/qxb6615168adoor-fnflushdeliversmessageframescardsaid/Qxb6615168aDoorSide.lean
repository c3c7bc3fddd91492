import Derived.Test.Qxb6615168aDoorPlain
namespace Go.Proofs.Qxb6615168aDoor
open Go.RowKit
set_option maxRecDepth 100000

theorem f4 (k : Int) (a : Option Addr) (n c : Nat) (w : World) (h : n ≤ maxLen) :
    Calls Tryd.prog 4 #[.int .u8 k, .slice a n c] w fun e w' => (∃ b : Bool, e = .returned (.bool b)) ∧ w = w' := by
  unfold maxLen at *
  go_enter Tryd.func4, Tryd.ntmps4
  go_wp2
  all_goals (go_ret; exact ⟨⟨_, rfl⟩, rfl⟩)

/-- bytesEq of two slices that hold the same bytes: true; nothing turns. -/
theorem f11 (a b : Option Addr) (ca cb : Nat) (xs : List Int) (w : World) (ha : Hold w a xs) (hb : Hold w b xs) (hl : xs.length ≤ 281474976710656) :
    Calls Tryd.prog 11 #[.slice a xs.length ca, .slice b xs.length cb] w fun e w' => e = .returned (.bool true) ∧ ∃ n, w' = w.drewN n := by
  by_cases hx : xs = []
  · subst hx
    go_enter Tryd.func11, Tryd.ntmps11
    go_wp2
    go_loop [5] (fun i => i = .int .i64 0) (fun _ => 0)
    case atStart => rfl
    case round =>
      subst hrel
      go_wp2
      go_ret
      exact ⟨rfl, 0, rfl⟩
  · obtain ⟨b1, o1, rfl, h1⟩ := ha hx
    obtain ⟨b2, o2, rfl, h2⟩ := hb hx
    generalize hn : xs.length = n at *
    have HN : Hid (xs.length = n) := hn
    clear hn ha hb
    go_enter Tryd.func11, Tryd.ntmps11
    go_wp2
    go_loopw [5] (fun i wr => ∃ k nd : Nat, k ≤ n ∧ i = .int .i64 k ∧ wr = w.drewN nd) (fun i _ => n - (intOf i).toNat)
    case atStart => exact ⟨0, 0, Nat.zero_le _, rfl, rfl⟩
    case round =>
      obtain ⟨k, nd, hk, rfl, rfl⟩ := hrel
      by_cases hlt : k < n
      · have hlt' : (k : Int) < (n : Int) := by omega
        have e1 := h1 k hlt
        have e2 := h2 k hlt
        clear h1 h2
        generalize xs.getD k 0 = z at *
        go_wp2
        go_quiet (fail)
        go_wp2
        go_roundw
        case rel => exact ⟨k + 1, _, by omega, by go_num, rfl⟩
        case measure => simp [intOf]; omega
      · go_wp2
        go_ret
        exact ⟨rfl, _, rfl⟩

theorem f5_nil (w : World) : Calls Tryd.prog 5 #[.slice none 0 0] w fun e w' => e = .returned (.slice none 0 0) ∧ w' = w := by
  have hnil := fun (w : World) (a : Option Addr) (n c : Nat) => Lib.run_eql_slice_nil (P := Tryd.prog) w 22 _ a n c 0 0 Tryd.underlying22
  go_enter Tryd.func5, Tryd.ntmps5
  go_wp2
  go_ret
  exact ⟨rfl, rfl⟩

/-- What the clone's row holds after k rounds: the first k bytes of xs, then zeros. -/
def cl (xs : List Int) (k : Nat) : List Int := xs.take k ++ List.replicate (xs.length - k) 0
theorem length_cl (xs : List Int) (k : Nat) (h : k ≤ xs.length) : (cl xs k).length = xs.length := by simp [cl]; omega
theorem cl_zero (xs : List Int) : cl xs 0 = zeros xs.length := by simp [cl, zeros]
theorem cl_all (xs : List Int) : cl xs xs.length = xs := by simp [cl]
theorem cl_succ (xs : List Int) (k : Nat) (h : k < xs.length) : (cl xs k).set k (xs.getD k 0) = cl xs (k + 1) := by
  apply List.ext_getElem?
  intro j
  simp only [cl, List.getElem?_set, List.getElem?_append, List.length_take, List.getElem?_take, List.getElem?_replicate, List.length_append, List.length_replicate]
  have m1 : min k xs.length = k := by omega
  have m2 : min (k + 1) xs.length = k + 1 := by omega
  rw [m1, m2]
  by_cases e : k = j
  · subst e
    simp [h]
    omega
  · by_cases hj : j < k
    · simp [e, hj, show j < k + 1 by omega]
    · simp [e, hj, show ¬ j < k + 1 by omega]
      by_cases hj2 : j < xs.length
      · simp [show j - k < xs.length - k by omega, show j - (k + 1) < xs.length - (k + 1) by omega]
      · simp [show ¬ j - k < xs.length - k by omega, show ¬ j - (k + 1) < xs.length - (k + 1) by omega]

/-- cloneBytes of a slice that is not nil: a new row with the same bytes. -/
theorem f5 (a : Addr) (cap : Nat) (xs : List Int) (w : World) (ha : Hold w (some a) xs) (hl : xs.length ≤ 281474976710656) :
    Calls Tryd.prog 5 #[.slice (some a) xs.length cap] w fun e w' => e = .returned (.slice (some ⟨w.heap.size, 0, none⟩) xs.length xs.length) ∧
      Below w.heap.size w w' ∧ w'.heap.size = w.heap.size + 1 ∧ RowAt w' w.heap.size xs := by
  have hnil := fun (w : World) (a : Option Addr) (n c : Nat) => Lib.run_eql_slice_nil (P := Tryd.prog) w 22 _ a n c 0 0 Tryd.underlying22
  have hmk := run_mk xs.length xs.length (Nat.le_refl _) hl
  go_enter Tryd.func5, Tryd.ntmps5
  go_wp2
  go_loopw [4] (fun i wr => ∃ k : Nat, k ≤ xs.length ∧ i = .int .i64 k ∧ RowAt wr w.heap.size (cl xs k) ∧ Below w.heap.size w wr ∧ wr.heap.size = w.heap.size + 1) (fun i _ => xs.length - (intOf i).toNat)
  case atStart => exact ⟨0, Nat.zero_le _, rfl, by rw [cl_zero]; exact RowAt.made _ _, (Below.refl _ _).alloc (Nat.le_refl _) _, by simp⟩
  case round =>
    obtain ⟨k, hk, rfl, hr, hb, hs⟩ := hrel
    by_cases hlt : k < xs.length
    · obtain ⟨b1, o1, e, h1⟩ := ha (by intro e; simp [e] at hlt)
      cases e
      have e0 := h1 k hlt
      have e1 : wr.cell? ⟨b1, o1 + k, none⟩ = some (.int .u8 (xs.getD k 0)) := (hb.cell (p := ⟨b1, o1 + k, none⟩) (cell_lt e0)).trans e0
      have e2 : wr.cell? ⟨w.heap.size, k, none⟩ = some (.int .u8 ((cl xs k).getD k 0)) := hr.cell (by rw [length_cl _ _ hk]; exact hlt)
      have e3 := hr.frozen k
      have R : RowAt (wr.setCell ⟨w.heap.size, k, none⟩ (.int .u8 (xs.getD k 0))) w.heap.size (cl xs (k + 1)) := by
        rw [← cl_succ xs k hlt]; exact hr.set _ _
      have R2 := hb.setCell (p := ⟨w.heap.size, k, none⟩) (Nat.le_refl _) (.int .u8 (xs.getD k 0))
      have HR : Hid _ := R
      have HR2 : Hid _ := R2
      clear R R2 ha h1 e0 hr
      generalize xs.getD k 0 = z at *
      generalize (cl xs k).getD k 0 = z' at *
      go_wp2
      go_roundw
      case rel => exact ⟨k + 1, by omega, by go_num, HR.out, HR2.out, by simpa using hs⟩
      case measure => simp [intOf]; omega
    · have hkk : k = xs.length := by omega
      subst hkk
      rw [cl_all] at hr
      go_wp2
      go_ret
      exact ⟨rfl, hb, hs, hr⟩
end Go.Proofs.Qxb6615168aDoor
