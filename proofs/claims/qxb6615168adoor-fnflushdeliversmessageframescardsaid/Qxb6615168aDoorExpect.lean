import Derived.Test.Qxb6615168aDoorSide
import Derived.Deep.AppendSrc
namespace Go.Proofs.Qxb6615168aDoor
open Go.RowKit
set_option maxHeartbeats 2000000
set_option maxRecDepth 100000

/-- How many frames n bytes take. -/
def fc (n : Nat) : Nat := if n = 0 then 1 else (n + 65534) / 65535

theorem f20 (n : Nat) (w : World) (hn : n ≤ 1048576) : Calls Tryd.prog 20 #[.int .i64 n] w fun e w' => e = .returned (.int .i64 (fc n)) ∧ w = w' := by
  by_cases h0 : n = 0
  · subst h0
    go_enter Tryd.func20, Tryd.ntmps20
    go_wp2
    go_ret
    exact ⟨rfl, rfl⟩
  · have h0' : ((n : Int) == 0) = false := beq_eq_false_iff_ne.2 (by omega)
    have e : ((fc n : Nat) : Int) = ((n : Int) + 65535 - 1) / 65535 := by unfold fc; rw [if_neg h0]; omega
    rw [e]
    go_enter Tryd.func20, Tryd.ntmps20
    go_wp2
    go_ret
    exact ⟨rfl, rfl⟩

/-- append where there is room. -/
theorem run_app (w : World) (B l cap : Nat) (zs xs : List Int) (a : Option Addr) (n c : Nat) (ty : TypeId) (hr : RowAt w B zs) (hcap : zs.length = cap) (ha : Hold w a xs) (hn : xs.length = n) (hroom : l + n ≤ cap) :
    (Builtin.append_ #[22, 22] ty #[.slice (some ⟨B, 0, none⟩) l cap, .slice a n c]).run Tryd.prog w = .ok (.slice (some ⟨B, 0, none⟩) (l + n) cap) (putRow w B (over zs l xs)) := by
  obtain ⟨i, hi, hz, hs, hb⟩ := info_parts info5
  have hsrc : Src Tryd.prog i.size 22 (.slice a n c) n (xs.map (Value.int .u8)) w := by
    by_cases hx : xs = []
    · subst hx
      obtain rfl : n = 0 := by simpa using hn.symm
      cases a with
      | none => simpa using Src.ofNil w (size := i.size) Tryd.underlying22 c
      | some ad => exact Src.ofSlice w Tryd.underlying22 ad 0 c [] (by simp) (by simp) (by simp)
    · obtain ⟨b, o, rfl, h⟩ := ha hx
      refine Src.ofSlice w Tryd.underlying22 ⟨b, o, none⟩ n c _ (by rw [hs]; simpa using hn) (fun j v hj => ?_) (fun v hv => by obtain ⟨z, _, rfl⟩ := List.mem_map.1 hv; rfl)
      have hj' : j < xs.length := by
        have := (List.getElem?_eq_some_iff.1 hj).1; simpa using this
      rw [WideShapes.add_plain, h j hj']
      simp [hj'] at hj ⊢
      exact hj
  have hst := run_storeCells_at Tryd.prog B l 5 (xs.map (Value.int .u8)) 0 (zs.map (Value.int .u8)).toArray w hr (by simp; omega) (fun v hv => by obtain ⟨z, _, rfl⟩ := List.mem_map.1 hv; rfl)
  have hcells := hsrc.cells
  rw [hs] at hcells
  rcases hsrc.kind with ⟨e', hk⟩ | hk
  · simp [Builtin.append_, run_underlying Tryd.underlying22, sizeOf, typeInfo, hi, hsrc.len, hroom, hcells, Addr.add_lit, hs, hst]
    simp [putRow, over]
  · rw [Tryd.underlying22] at hk
    cases hk

theorem take_over (zs xs e : List Int) (l : Nat) (h : zs.take l = e) (hl : e.length = l) : (over zs l xs).take (l + xs.length) = e ++ xs := by
  unfold over
  rw [h, List.take_append_of_le_length (by simp; omega), List.take_of_length_le (by simp; omega)]

/-- append with room, for the walk: the row behind it is a variable, of which is known what it begins with. -/
theorem wpList_app {ops : Array Oper} {rest : List Oper} {o : Oper} {a : Act} {Q : Exit → Act → World → Prop} (w : World) (hgd : o.guard = none) (s x : Operand)
    (ho : o.op = .call { callee := .builtin .append, args := #[s, x], argTypes := #[22, 22] }) (B l cap : Nat) (av : Option Addr) (n c : Nat) (hs : a.eval s = .slice (some ⟨B, 0, none⟩) l cap) (hx : a.eval x = .slice av n c)
    (zs xs e : List Int) (hr : RowAt w B zs) (hcap : zs.length = cap) (ha : Hold w av xs) (hn : xs.length = n) (hroom : l + n ≤ cap) (ht : zs.take l = e) (hel : e.length = l) (B0 : Nat) (w0 : World) (hb : Below B0 w0 w) (hB : B0 ≤ B)
    (h : ∀ w' zs', RowAt w' B zs' → zs'.length = cap → zs'.take (l + n) = e ++ xs → Below B0 w0 w' → wpList Tryd.prog ops Q rest (a.put o.dst (.slice (some ⟨B, 0, none⟩) (l + n) cap)) w') :
    wpList Tryd.prog ops Q (o :: rest) a w := by
  refine Lib.wpList_append_run w hgd s x 22 22 ho _ _ hs hx _ _ (run_app w B l cap zs xs av n c o.type hr hcap ha hn hroom) ?_
  exact h _ (over zs l xs) (putRow_row hr _) (by rw [length_over _ _ _ (by omega)]; exact hcap) (by rw [← hn]; exact take_over zs xs e l ht hel) (below_setRow hb hB _)

theorem hold_lit (w : World) (xs : List Int) : Hold (w.alloc (.cells (xs.map (Value.int .u8)).toArray 5)) (some ⟨w.heap.size, 0, none⟩) xs := by
  have := hold_of_row (RowAt.made w xs) xs.length
  rwa [List.take_length] at this

/-- What expectFrames has gathered after i of m rounds. -/
def exp (k : Int) (ps : List Int) (m : Nat) : Nat → List Int
  | 0 => []
  | i + 1 => exp k ps m i ++ [(1 + ((chunk ps i).length : Int)) / 16777216, (1 + ((chunk ps i).length : Int)) / 65536 % 256, (1 + ((chunk ps i).length : Int)) / 256 % 256, (1 + ((chunk ps i).length : Int)) % 256] ++ [if i + 1 < m then bits BinOp.or IntKind.u8 k 128 else k] ++ chunk ps i

theorem fc_lt (n i : Nat) (h : i < fc n) : i * 65535 ≤ n ∧ (i + 1 < fc n → (i + 1) * 65535 ≤ n) ∧ (i + 1 = fc n → n ≤ (i + 1) * 65535) ∧ (n ≠ 0 → i * 65535 < n) := by
  unfold fc at *
  split at h
  · rename_i e; subst e; simp; omega
  · rename_i e; simp only [e, if_false]; omega

theorem length_exp (k : Int) (ps : List Int) (m i : Nat) (h : i < fc ps.length) : (exp k ps m i).length = i * 65540 := by
  induction i with
  | zero => simp [exp]
  | succ i ih =>
    have h1 := ih (by omega)
    have h2 := fc_lt ps.length i (by omega)
    have h3 := chunk_full ps i (h2.2.1 h)
    simp only [exp, List.length_append, h1, h3, List.length_cons, List.length_nil]
    omega

theorem hold_chunk {w w2 : World} {pb po : Nat} {ps : List Int} (hcell : ∀ i, i < ps.length → w.cell? ⟨pb, po + i, none⟩ = some (.int .u8 (ps.getD i 0))) (hb : Below w.heap.size w w2) {i st : Nat} (hst : i * 65535 = st) : Hold w2 (some ⟨pb, po + st, none⟩) (chunk ps i) := by
  subst hst
  refine Hold.take ?_ 65535
  intro hne
  have hpos : 0 < ps.length := by
    apply Nat.pos_of_ne_zero
    intro e
    have := List.eq_nil_of_length_eq_zero e
    rw [this] at hne
    simp at hne
  have hpb := cell_lt (hcell 0 hpos)
  exact hold_drop (fun i hi => (hb.cell (p := ⟨pb, po + i, none⟩) hpb).trans (hcell i hi)) (i * 65535) hne

theorem exp_round {k : Int} {ps : List Int} {m i cl n : Nat} {kb : Int} {zs : List Int} (hcl : (chunk ps i).length = cl) (hB : cl ≤ 65535) (hkb : (if i + 1 < m then bits BinOp.or IntKind.u8 k 128 else k) = kb) (hn : n = cl)
    (ht : zs.take ((exp k ps m i).length + 4 + 1 + n) = exp k ps m i ++ [(1 + (cl : Int)) / 16777216, (1 + (cl : Int)) / 65536, (1 + (cl : Int)) / 256 % 256, (1 + (cl : Int)) % 256] ++ [kb] ++ chunk ps i) :
    (exp k ps m (i + 1)).length = (exp k ps m i).length + 4 + 1 + n ∧ zs.take (exp k ps m (i + 1)).length = exp k ps m (i + 1) := by
  have e : exp k ps m (i + 1) = exp k ps m i ++ [(1 + (cl : Int)) / 16777216, (1 + (cl : Int)) / 65536, (1 + (cl : Int)) / 256 % 256, (1 + (cl : Int)) % 256] ++ [kb] ++ chunk ps i := by
    simp only [exp, hcl, hkb]
    rw [show (1 + (cl : Int)) / 65536 % 256 = (1 + (cl : Int)) / 65536 by omega]
  have l : (exp k ps m (i + 1)).length = (exp k ps m i).length + 4 + 1 + n := by
    rw [e]
    simp only [List.length_append, List.length_cons, List.length_nil, hcl, hn]
  exact ⟨l, by rw [l, ht, e]⟩

theorem fit_nat (c n st cl : Nat) (hs : st ≤ n) (hc : cl = min c (n - st)) : st + cl ≤ n := by omega
theorem mul_split (i : Nat) : i * 65540 = i * 65535 + i * 5 := by rw [← Nat.mul_add]
theorem len_app (e xs : List Int) (l : Nat) (h : e.length = l) : (e ++ xs).length = l + xs.length := by rw [List.length_append, h]
theorem room_gen (n i m cl st : Nat) (h : i < m) (hs : st + cl ≤ n) : st + i * 5 + 5 + cl ≤ n + 5 * m := by omega
theorem room_nat (n i m cl : Nat) (h : i < m) (hs : i * 65535 ≤ n) (hc : cl = min 65535 (n - i * 65535)) : i * 65540 + 5 + cl ≤ n + 5 * m := by
  rw [mul_split]
  exact room_gen n i m cl _ h (fit_nat 65535 n _ cl hs hc)
theorem st_bound (i m : Nat) (h : i < m) (hm : m ≤ 17) : i * 65535 ≤ 1114095 := by omega
theorem st_succ (i : Nat) : (i + 1) * 65535 = i * 65535 + 65535 := by omega
theorem st_cast (i : Nat) : (i : Int) * 65535 = ((i * 65535 : Nat) : Int) := by omega

/-- expectFrames of no bytes: one empty frame. -/
theorem f13_nil (k : Int) (a : Option Addr) (c : Nat) (w : World) :
    Calls Tryd.prog 13 #[.int .u8 k, .slice a 0 c] w fun e w' => (∃ a' c', e = .returned (.slice a' 5 c') ∧ Hold w' a' [0, 0, 0, 1, k]) ∧ Below w.heap.size w w' := by
  have hmk := run_mk 0 5 (by omega) (by omega)
  rw [show ((0 : Nat) : Int) = 0 from rfl, show ((5 : Nat) : Int) = 5 from rfl] at hmk
  have hfc : fc 0 = 1 := rfl
  have hr := RowAt.made w (zeros 5)
  have hb : Below w.heap.size w (w.alloc (row (zeros 5))) := (Below.refl _ _).alloc (Nat.le_refl _) _
  have hz := length_zeros 5
  go_enter Tryd.func13, Tryd.ntmps13
  go_wp2_with (go_at_call 20; refine (f20 0 _ (by omega)).mono ?_; rintro e w' ⟨rfl, rfl⟩)
  generalize w.alloc (row (zeros 5)) = wr at *
  generalize zeros 5 = zs at *
  have hbs := hb.size
  refine wp_loop_rounds 2 ?_
  rw [rounds_succ]
  go_wp2_with (first | (at_builtin; refine wpList_app _ rfl (.tmp 41) (.tmp 53) rfl w.heap.size _ _ _ _ _ rfl rfl zs [0, 0, 0, 1] [] ?_ hz ?_ rfl ?_ rfl rfl w.heap.size w ?_ (Nat.le_refl _) ?_; exact Blk.alloc hr _; exact hold_lit wr [0, 0, 0, 1]; omega; exact hb.alloc hbs _; intro w1 zs1 hr1 hzl1 hzt1 hb1; have hbs1 := hb1.size) | (at_builtin; refine wpList_app _ rfl (.tmp 62) (.tmp 64) rfl w.heap.size _ _ _ _ _ rfl rfl zs1 [k] [0, 0, 0, 1] ?_ hzl1 ?_ rfl ?_ hzt1 rfl w.heap.size w ?_ (Nat.le_refl _) ?_; exact Blk.alloc hr1 _; exact hold_lit w1 [k]; omega; exact hb1.alloc hbs1 _; intro w2 zs2 hr2 hzl2 hzt2 hb2) | (at_builtin; refine wpList_app _ rfl (.tmp 66) (.tmp 70) rfl w.heap.size _ _ _ _ _ rfl rfl zs2 [] [0, 0, 0, 1, k] ?_ hzl2 ?_ rfl ?_ hzt2 rfl w.heap.size w ?_ (Nat.le_refl _) ?_; exact hr2; exact Hold.nil _ _; omega; exact hb2; intro w3 zs3 hr3 hzl3 hzt3 hb3))
  rw [rounds_succ]
  go_wp2_with fail
  go_ret
  refine ⟨⟨_, _, rfl, ?_⟩, hb3⟩
  have q := hold_of_row hr3 5
  rw [show zs3.take 5 = [0, 0, 0, 1, k] from hzt3] at q
  exact q

/-- expectFrames of some bytes. -/
theorem f13_some (k : Int) (a : Option Addr) (c : Nat) (ps : List Int) (w : World) (ha : Hold w a ps) (hps : ps.length ≤ 1048576) (hc : ps.length ≤ c) (hpe : ps ≠ []) :
    Calls Tryd.prog 13 #[.int .u8 k, .slice a ps.length c] w fun e w' => (∃ a' c', e = .returned (.slice a' (exp k ps (fc ps.length) (fc ps.length)).length c') ∧ Hold w' a' (exp k ps (fc ps.length) (fc ps.length))) ∧ Below w.heap.size w w' := by
  have hmk := run_mk 0 (ps.length + 5 * fc ps.length) (by omega) (by unfold fc; split <;> omega)
  have hm : fc ps.length ≤ 17 := by unfold fc; split <;> omega
  rw [show (((ps.length + 5 * fc ps.length : Nat)) : Int) = (ps.length : Int) + 5 * (fc ps.length : Int) by omega, show ((0 : Nat) : Int) = 0 from rfl] at hmk
  go_enter Tryd.func13, Tryd.ntmps13
  go_wp2_with (go_at_call 20; refine (f20 ps.length _ hps).mono ?_; rintro e w' ⟨rfl, rfl⟩)
  generalize hfm : fc ps.length = m at *
  have HM : Hid (fc ps.length = m) := hfm
  clear hfm
  go_loopw [6, 7] (fun v6 v7 wr => ∃ (i : Nat) (zs : List Int), i ≤ m ∧ v7 = .int .i64 i ∧ v6 = .slice (some ⟨w.heap.size, 0, none⟩) (exp k ps m i).length (ps.length + 5 * m) ∧ RowAt wr w.heap.size zs ∧ zs.length = ps.length + 5 * m ∧ zs.take (exp k ps m i).length = exp k ps m i ∧ Below w.heap.size w wr) (fun _ v7 _ => m - (intOf v7).toNat)
  case atStart => exact ⟨0, zeros (ps.length + 5 * m), Nat.zero_le _, rfl, rfl, RowAt.made _ _, length_zeros _, by simp [exp], (Below.refl _ _).alloc (Nat.le_refl _) _⟩
  case round =>
    clear hmk
    obtain ⟨i, zs, hi, rfl, rfl, hr, hzl, hzt, hb⟩ := hrel
    by_cases hlt : i < m
    · have hlt' : (i : Int) < (m : Int) := by omega
      have hS := st_cast i
      have hcl := length_chunk ps i
      have hst := st_bound i m hlt hm
      have hfc := fc_lt ps.length i (by rw [HM.out]; exact hlt)
      rw [HM.out] at hfc
      have hexp := length_exp k ps m i (by rw [HM.out]; exact hlt)
      have hbs := hb.size
      have hx1 := st_succ i
      rw [hx1] at hfc
      have hroom := room_nat ps.length i m (chunk ps i).length hlt hfc.1 hcl
      generalize hst0 : i * 65535 = st at hS hcl hst hfc
      have HST : Hid (i * 65535 = st) := hst0
      obtain ⟨hf1, hf2, hf3, hf4⟩ := hfc
      generalize hc0 : (chunk ps i).length = cl at hcl hroom
      have HCL : Hid ((chunk ps i).length = cl) := hc0
      rw [← hexp] at hroom
      clear hc0 hst0 hx1
      by_cases hl2 : i + 1 < m
      · have hl2' : (i : Int) < (m : Int) - 1 := by omega
        have hend := hf2 hl2
        have hend' : ¬ (ps.length : Int) < (st : Int) + 65535 := by omega
        have hE : 1 + ((st : Int) + 65535) - (st : Int) = 1 + (cl : Int) := by omega
        have hclB : cl ≤ 65535 := by omega
        clear hf1 hf2 hf3 hcl hexp
        obtain ⟨pb, po, rfl, hcell⟩ := ha (by intro e; rw [e] at hend; simp at hend)
        have hstc : (st : Int) < (c : Int) := by omega
        have HC : Hid (∀ i, i < ps.length → w.cell? ⟨pb, po + i, none⟩ = some (.int .u8 (ps.getD i 0))) := hcell
        have HCX : Hid (cl = 65535) := by show _ = _; omega
        clear hcell
        go_wp2_with (first | (at_builtin; refine wpList_app _ rfl (.tmp 41) (.tmp 53) rfl w.heap.size _ _ _ _ _ rfl rfl zs [(1 + (cl : Int)) / 16777216, (1 + (cl : Int)) / 65536, (1 + (cl : Int)) / 256 % 256, (1 + (cl : Int)) % 256] (exp k ps m i) ?_ hzl ?_ rfl ?_ hzt rfl w.heap.size w ?_ (Nat.le_refl _) ?_; exact Blk.alloc hr _; exact hold_lit wr [(1 + (cl : Int)) / 16777216, (1 + (cl : Int)) / 65536, (1 + (cl : Int)) / 256 % 256, (1 + (cl : Int)) % 256]; omega; exact hb.alloc hbs _; intro w1 zs1 hr1 hzl1 hzt1 hb1; have hbs1 := hb1.size; have hel1 := len_app (exp k ps m i) [(1 + (cl : Int)) / 16777216, (1 + (cl : Int)) / 65536, (1 + (cl : Int)) / 256 % 256, (1 + (cl : Int)) % 256] _ rfl) | (at_builtin; refine wpList_app _ rfl (.tmp 62) (.tmp 64) rfl w.heap.size _ _ _ _ _ rfl rfl zs1 [bits BinOp.or IntKind.u8 k 128] _ ?_ hzl1 ?_ rfl ?_ hzt1 hel1 w.heap.size w ?_ (Nat.le_refl _) ?_; exact Blk.alloc hr1 _; exact hold_lit w1 [bits BinOp.or IntKind.u8 k 128]; omega; exact hb1.alloc hbs1 _; intro w2 zs2 hr2 hzl2 hzt2 hb2; have hbs2 := hb2.size; have hel2 := len_app _ [bits BinOp.or IntKind.u8 k 128] _ hel1) | (at_builtin; refine wpList_app _ rfl (.tmp 66) (.tmp 70) rfl w.heap.size _ _ _ _ _ rfl rfl zs2 (chunk ps i) _ ?_ hzl2 ?_ ?_ ?_ hzt2 hel2 w.heap.size w ?_ (Nat.le_refl _) ?_; exact hr2; exact hold_chunk HC.out hb2 HST.out; rw [HCL.out]; have hcx := HCX.out; omega; have hcx := HCX.out; omega; exact hb2; intro w3 zs3 hr3 hzl3 hzt3 hb3))
        obtain ⟨q1, q2⟩ := exp_round (n := st + 65535 - st) HCL.out hclB (if_pos hl2) (by rw [HCX.out]; omega) hzt3
        refine ⟨⟨i + 1, zs3, by omega, by go_num, ?_, hr3, hzl3, q2, hb3⟩, by simp [intOf]; omega⟩
        rw [q1, show st + 65535 - st = 65535 by omega]
      · have hl2' : ¬ (i : Int) < (m : Int) - 1 := by omega
        have hlast := hf3 (by omega)
        by_cases heq : ps.length = st + 65535
        · have hend' : ¬ (ps.length : Int) < (st : Int) + 65535 := by omega
          have hend : st + 65535 ≤ ps.length := by omega
          have hE : 1 + ((st : Int) + 65535) - (st : Int) = 1 + (cl : Int) := by omega
          have hclB : cl ≤ 65535 := by omega
          have HEQ : Hid (ps.length = st + 65535) := heq
          clear hf1 hf2 hf3 hcl hexp heq
          obtain ⟨pb, po, rfl, hcell⟩ := ha (by intro e; rw [e] at hend; simp at hend)
          have hstc : (st : Int) < (c : Int) := by omega
          have HC : Hid (∀ i, i < ps.length → w.cell? ⟨pb, po + i, none⟩ = some (.int .u8 (ps.getD i 0))) := hcell
          have HCX : Hid (cl = 65535) := by show _ = _; omega
          clear hcell
          go_wp2_with (first | (at_builtin; refine wpList_app _ rfl (.tmp 41) (.tmp 53) rfl w.heap.size _ _ _ _ _ rfl rfl zs [(1 + (cl : Int)) / 16777216, (1 + (cl : Int)) / 65536, (1 + (cl : Int)) / 256 % 256, (1 + (cl : Int)) % 256] (exp k ps m i) ?_ hzl ?_ rfl ?_ hzt rfl w.heap.size w ?_ (Nat.le_refl _) ?_; exact Blk.alloc hr _; exact hold_lit wr [(1 + (cl : Int)) / 16777216, (1 + (cl : Int)) / 65536, (1 + (cl : Int)) / 256 % 256, (1 + (cl : Int)) % 256]; omega; exact hb.alloc hbs _; intro w1 zs1 hr1 hzl1 hzt1 hb1; have hbs1 := hb1.size; have hel1 := len_app (exp k ps m i) [(1 + (cl : Int)) / 16777216, (1 + (cl : Int)) / 65536, (1 + (cl : Int)) / 256 % 256, (1 + (cl : Int)) % 256] _ rfl) | (at_builtin; refine wpList_app _ rfl (.tmp 62) (.tmp 64) rfl w.heap.size _ _ _ _ _ rfl rfl zs1 [k] _ ?_ hzl1 ?_ rfl ?_ hzt1 hel1 w.heap.size w ?_ (Nat.le_refl _) ?_; exact Blk.alloc hr1 _; exact hold_lit w1 [k]; omega; exact hb1.alloc hbs1 _; intro w2 zs2 hr2 hzl2 hzt2 hb2; have hbs2 := hb2.size; have hel2 := len_app _ [k] _ hel1) | (at_builtin; refine wpList_app _ rfl (.tmp 66) (.tmp 70) rfl w.heap.size _ _ _ _ _ rfl rfl zs2 (chunk ps i) _ ?_ hzl2 ?_ ?_ ?_ hzt2 hel2 w.heap.size w ?_ (Nat.le_refl _) ?_; exact hr2; exact hold_chunk HC.out hb2 HST.out; rw [HCL.out]; have hcx := HCX.out; omega; have hcx := HCX.out; omega; exact hb2; intro w3 zs3 hr3 hzl3 hzt3 hb3))
          obtain ⟨q1, q2⟩ := exp_round (n := st + 65535 - st) HCL.out hclB (if_neg hl2) (by rw [HCX.out]; omega) hzt3
          refine ⟨⟨i + 1, zs3, by omega, by go_num, ?_, hr3, hzl3, q2, hb3⟩, by simp [intOf]; omega⟩
          rw [q1, show st + 65535 - st = 65535 by omega]
        · have hend' : (ps.length : Int) < (st : Int) + 65535 := by omega
          have hE : 1 + (ps.length : Int) - (st : Int) = 1 + (cl : Int) := by omega
          have hclB : cl ≤ 65535 := by omega
          have hsl : (st : Int) ≤ (ps.length : Int) := by omega
          have hst3 := hf4 (by intro e; exact hpe (List.eq_nil_of_length_eq_zero e))
          have HCQ : Hid (cl = ps.length - st) := by show _ = _; omega
          clear hf1 hf2 hf3 hcl hexp heq
          obtain ⟨pb, po, rfl, hcell⟩ := ha hpe
          have hstc : (st : Int) < (c : Int) := by omega
          have HC : Hid (∀ i, i < ps.length → w.cell? ⟨pb, po + i, none⟩ = some (.int .u8 (ps.getD i 0))) := hcell
          have HCX : Hid (cl = ps.length - st) := HCQ
          clear hcell
          go_wp2_with (first | (at_builtin; refine wpList_app _ rfl (.tmp 41) (.tmp 53) rfl w.heap.size _ _ _ _ _ rfl rfl zs [(1 + (cl : Int)) / 16777216, (1 + (cl : Int)) / 65536, (1 + (cl : Int)) / 256, (1 + (cl : Int)) % 256] (exp k ps m i) ?_ hzl ?_ rfl ?_ hzt rfl w.heap.size w ?_ (Nat.le_refl _) ?_; exact Blk.alloc hr _; exact hold_lit wr [(1 + (cl : Int)) / 16777216, (1 + (cl : Int)) / 65536, (1 + (cl : Int)) / 256, (1 + (cl : Int)) % 256]; omega; exact hb.alloc hbs _; intro w1 zs1 hr1 hzl1 hzt1 hb1; have hbs1 := hb1.size; have hel1 := len_app (exp k ps m i) [(1 + (cl : Int)) / 16777216, (1 + (cl : Int)) / 65536, (1 + (cl : Int)) / 256, (1 + (cl : Int)) % 256] _ rfl) | (at_builtin; refine wpList_app _ rfl (.tmp 62) (.tmp 64) rfl w.heap.size _ _ _ _ _ rfl rfl zs1 [k] _ ?_ hzl1 ?_ rfl ?_ hzt1 hel1 w.heap.size w ?_ (Nat.le_refl _) ?_; exact Blk.alloc hr1 _; exact hold_lit w1 [k]; omega; exact hb1.alloc hbs1 _; intro w2 zs2 hr2 hzl2 hzt2 hb2; have hbs2 := hb2.size; have hel2 := len_app _ [k] _ hel1) | (at_builtin; refine wpList_app _ rfl (.tmp 66) (.tmp 70) rfl w.heap.size _ _ _ _ _ rfl rfl zs2 (chunk ps i) _ ?_ hzl2 ?_ ?_ ?_ hzt2 hel2 w.heap.size w ?_ (Nat.le_refl _) ?_; exact hr2; exact hold_chunk HC.out hb2 HST.out; rw [HCL.out]; have hcx := HCX.out; omega; have hcx := HCX.out; omega; exact hb2; intro w3 zs3 hr3 hzl3 hzt3 hb3))
          rw [show (1 + (cl : Int)) / 256 = (1 + (cl : Int)) / 256 % 256 by omega] at hzt3
          obtain ⟨q1, q2⟩ := exp_round (n := ps.length - st) HCL.out hclB (if_neg hl2) (by rw [HCX.out]) hzt3
          refine ⟨⟨i + 1, zs3, by omega, by go_num, ?_, hr3, hzl3, q2, hb3⟩, by simp [intOf]; omega⟩
          rw [q1]
    · have him : i = m := by omega
      subst him
      have hlt' : ¬ (i : Int) < (i : Int) := by omega
      have HH : Hid (Hold wr (some ⟨w.heap.size, 0, none⟩) (exp k ps i i)) := by
        have q := hold_of_row hr (exp k ps i i).length
        rw [hzt] at q
        exact q
      clear hzt
      go_wp2_with fail
      go_ret
      rw [HM.out]
      first | exact ⟨⟨_, _, rfl, HH.out⟩, hb⟩ | exact ⟨⟨_, ⟨_, rfl⟩, HH.out⟩, hb⟩
end Go.Proofs.Qxb6615168aDoor
