/-
  THE SHELL OF A PROOF OF 'Rows.FnSubThenAddRestoresSaid' ('example.com/ebbtide/ebbtide/zzlaws_internal_plan_b1.FnSubThenAddRestores'), WRITTEN BY PROGRAM (proof-skeleton.mjs, third state) off the guide's own print for that function.
  The walk is filled in; all else is the shell's own frame.
-/
import Derived.Test.Qxb6601740aModsRows
import Derived.WalkKit
import Derived.ProofKit
import Derived.OpenShut
import Derived.ShutString
import Derived.ChangeOld
import Derived.Below
import Derived.Test.Qxb6601740aModsBase
namespace Go.Proofs.Qxb6601740aMods.fnSubThenAddRestores
open Go.ChangeShapes Go.WideShapes Go.ChangeAt Go.RowKit
open Go.ChangeMaps (open_string shut_string)
set_option linter.unusedVariables false

theorem own : ownKnob Trym.prog.godebug = none := by kernel_rfl
theorem laidOut : laidOutB Trym.prog = true := by kernel_rfl

/-- WHAT THE WALK IS TOLD OF A SLICE OF INTEGERS THAT CAME IN: it is nil; or it leads to a row of 'cap' cells, the numbers 'zs' (the first 'len' are its elements, the rest its spare room), each fitting its kind. -/
def IsRow (k : IntKind) (w : World) (a : Option Addr) (len cap : Nat) (zs : List Int) : Prop :=
  (a = none ∧ len = 0 ∧ cap = 0 ∧ zs = []) ∨
  ∃ x, a = some x ∧ len ≤ cap ∧ cap ≤ maxLen ∧ zs.length = cap ∧ (∀ i, i < zs.length → w.cell? (x.add i) = some (.int k (zs.getD i 0))) ∧ ∀ n ∈ zs, (Lit.int k n).wf = true

/-! ### THE PLAIN LAW -/
theorem restored (a b : Int) (h : -9223372036854775808 ≤ a ∧ a ≤ 9223372036854775807) : addF (subF a b) b = a := by
  unfold addF subF wrap64
  omega

/-! ### sameInts: two slices of one length that hold the same numbers -/
set_option maxHeartbeats 800000 in
theorem same_pos (g n c b off c2 : Nat) (X : Nat → Int) (w : World) (hn : n ≤ 1048576) (hrow : w.rowIs g 2 n (fun i => .int .i64 (X i))) (hc : ∀ i, i < n → w.cell? ⟨b, off + i, none⟩ = some (.int .i64 (X i))) :
    Calls Trym.prog 13 #[.slice (some ⟨g, 0, none⟩) n c, .slice (some ⟨b, off, none⟩) n c2] w fun e w' => e = .returned (.bool true) ∧ Below w.heap.size w w' := by
  have H0 : Hid (w.rowIs g 2 n (fun i => .int .i64 (X i))) := hrow
  have H1 : Hid (∀ i, i < n → w.cell? ⟨b, off + i, none⟩ = some (.int .i64 (X i))) := hc
  clear hrow hc
  have hne : ((n : Int) != (n : Int)) = false := by simp
  go_enter Trym.func13, Trym.ntmps13
  go_wp2
  go_loopw [5] (fun i wr => ∃ k : Nat, k ≤ n ∧ i = .int .i64 k ∧ Hid (wr.Alike w) ∧ Hid (Below w.heap.size w wr)) (fun i _ => n - (intOf i).toNat)
  case atStart => exact ⟨0, Nat.zero_le _, rfl, World.Alike.refl _, Below.refl _ _⟩
  case round =>
    obtain ⟨k, hk, rfl, ha, hB⟩ := hrel
    by_cases hlt : k < n
    · have h1 : wr.cell? ⟨b, off + k, none⟩ = some (.int .i64 (X k)) := (ha.out.cell _).trans (H1.out k hlt)
      have h2 : wr.cell? ⟨g, k, none⟩ = some (.int .i64 (X k)) := (ha.out.cell _).trans (H0.out.cell hlt)
      have hi : (k : Int) < (n : Int) := by omega
      have ht : (X k != X k) = false := by simp
      go_wp2
      go_region
      all_goals
        go_wp2
        go_roundw
        case rel => exact ⟨k + 1, by omega, by go_num, ha.out.drew, hB.out.drew⟩
        case measure => simp [intOf]; omega
    · go_wp2
      go_ret
      exact ⟨rfl, hB⟩

theorem same_zero (a : Option Addr) (c : Nat) (b : Option Addr) (d : Nat) (w : World) :
    Calls Trym.prog 13 #[.slice a 0 c, .slice b 0 d] w fun e w' => e = .returned (.bool true) ∧ w' = w := by
  go_enter Trym.func13, Trym.ntmps13
  go_wp2
  refine wp_loop_rounds 1 ?_
  rw [rounds_succ]
  go_wp2
  go_ret
  exact ⟨rfl, rfl⟩

/-! ### STEP 1: THE WALK -/
set_option maxHeartbeats 1600000 in
theorem walk_pos (b0 o0 c0 b1 o1 c1 n m : Nat) (X Y : Nat → Int) (w : World) (hpos : 0 < n) (hn : n ≤ 65536) (hm : m ≤ 65536) (hnm : n ≤ m) (hb0 : b0 < w.heap.size) (hb1 : b1 < w.heap.size)
    (hX : ∀ i, i < n → -9223372036854775808 ≤ X i ∧ X i ≤ 9223372036854775807)
    (hx : ∀ i, i < n → w.cell? ⟨b0, o0 + i, none⟩ = some (.int .i64 (X i))) (hy : ∀ i, i < m → w.cell? ⟨b1, o1 + i, none⟩ = some (.int .i64 (Y i))) :
    Calls Trym.prog 5 #[.slice (some ⟨b0, o0, none⟩) n c0, .slice (some ⟨b1, o1, none⟩) m c1] w fun e w' => e = .returned (.bool true) ∧ Below w.heap.size w w' := by
  have hmk := run_make_row' (P := Trym.prog) 22 2 (.int .i64 0) 8 Trym.underlying22 Trym.info2 rfl .i64 .i64 m (by omega) (by omega)
  have hnil1 := fun wx => run_neq_slice_nil_any (P := Trym.prog) wx 22 2 (some ⟨b1, o1, none⟩) m c1 0 0 Trym.underlying22
  have HX : Hid (∀ i, i < n → w.cell? ⟨b0, o0 + i, none⟩ = some (.int .i64 (X i))) := hx
  have HY : Hid (∀ i, i < m → w.cell? ⟨b1, o1 + i, none⟩ = some (.int .i64 (Y i))) := hy
  have HR : Hid (∀ i, i < n → -9223372036854775808 ≤ X i ∧ X i ≤ 9223372036854775807) := hX
  clear hx hy hX
  go_enter Trym.func5, Trym.ntmps5
  go_wp2_with fail
  refine (zz15_any _ _ _ _ _ _ _ (by unfold maxLen; omega) (by unfold maxLen; omega)).mono ?_
  rintro e w' ⟨⟨bb, rfl⟩, hw⟩
  subst w'
  cases bb
  · go_wp2
    go_ret
    exact ⟨rfl, Below.refl _ _⟩
  go_wp2_with (with_reducible refine at_copy 27 28 ?_; refine wp_copy_row rfl (.tmp 27) (.tmp 28) rfl w.heap.size b1 o1 m c1 _ Y rfl rfl (World.rowIs_made w _ m 2) (cells_later _ HY.out hb1 (Below.refl _ _)) ?_; intro w1 hr1 ho1)
  have B1 := made_copied ho1.out
  have hl1 : w.heap.size < w1.heap.size := hr1.out.lt
  have hB1 : Hid (Below w.heap.size w w1) := B1
  have hx1 : Hid (∀ i, i < n → w1.cell? ⟨b0, o0 + i, none⟩ = some (.int .i64 (X i))) := fun i hi => (B1.cell (p := ⟨b0, o0 + i, none⟩) hb0).trans (HX.out i hi)
  clear ho1 B1
  refine (clone_pos b0 o0 n c0 X w1 (by omega) (by omega) hx1.out).mono ?_
  rintro e w3 ⟨rfl, r3, B3⟩
  have hr3 : Hid (w3.rowIs w1.heap.size 2 n (fun i => .int .i64 (X i))) := r3
  have hl3 : w1.heap.size < w3.heap.size := r3.lt
  have hr13 : Hid (w3.rowIs w.heap.size 2 m (fun i => .int .i64 (Y i))) := row_below hr1.out B3 (by omega)
  have hB3 : Hid (Below w.heap.size w w3) := hB1.out.trans (B3.mono (by omega))
  clear r3 B3 hr1 hB1 hx1
  go_wp2_with fail
  refine (zzsub_pos w1.heap.size n n w.heap.size 0 m m X Y w3 (by omega) (by omega) (by omega) (by omega) hr3.out (row_cells hr13.out)).mono ?_
  rintro e w4 ⟨rfl, r4, O4⟩
  have hr4 : Hid (w4.rowIs w1.heap.size 2 n (fun i => .int .i64 (subF (X i) (Y i)))) := r4
  have hl4 : w1.heap.size < w4.heap.size := r4.lt
  have hr14 : Hid (w4.rowIs w.heap.size 2 m (fun i => .int .i64 (Y i))) := O4.row (by omega) hr13.out
  have hB4 : Hid (Below w.heap.size w w4) := hB3.out.trans (O4.below (by omega) (by omega))
  clear r4 O4 hr13 hB3 hr3 hl3
  go_wp2_with fail
  refine (zzadd_pos w1.heap.size n n w.heap.size 0 m m (fun i => subF (X i) (Y i)) Y w4 (by omega) (by omega) (by omega) (by omega) hr4.out (row_cells hr14.out)).mono ?_
  rintro e w5 ⟨rfl, r5, O5⟩
  have hr5 : Hid (w5.rowIs w1.heap.size 2 n (fun i => .int .i64 (X i))) := r5.congr (fun i hi => by rw [restored _ _ (HR.out i hi)])
  have hB5 : Hid (Below w.heap.size w w5) := hB4.out.trans (O5.below (by omega) (by omega))
  have hx5 : Hid (∀ i, i < n → w5.cell? ⟨b0, o0 + i, none⟩ = some (.int .i64 (X i))) := fun i hi => (hB5.out.cell (p := ⟨b0, o0 + i, none⟩) hb0).trans (HX.out i hi)
  clear r5 O5 hr14 hr4 hB4
  go_wp2_with fail
  refine (same_pos w1.heap.size n n b0 o0 c0 X w5 (by omega) hr5.out hx5.out).mono ?_
  rintro e w6 ⟨rfl, B6⟩
  have hB6 : Hid (Below w.heap.size w w6) := hB5.out.trans (B6.mono hB5.out.size)
  clear B6 hB5 hr5 hx5
  go_wp2
  go_ret
  exact ⟨rfl, hB6⟩

/-- Too long, or b shorter than a: the law says true at once. -/
theorem walk_out (a0 : Option Addr) (n c0 : Nat) (a1 : Option Addr) (m c1 : Nat) (w : World) (hn : n ≤ maxLen) (hm : m ≤ maxLen) (h : 65536 < n ∨ 65536 < m ∨ m < n) :
    Calls Trym.prog 5 #[.slice a0 n c0, .slice a1 m c1] w fun e w' => e = .returned (.bool true) ∧ Below w.heap.size w w' := by
  have Z := zz15_any a0 a1 n c0 m c1 w hn hm
  unfold maxLen at hn hm
  have key : (65536 : Int) < (n : Int) ∨ (65536 : Int) < (m : Int) ∧ ¬ (65536 : Int) < (n : Int) ∨ (¬ (65536 : Int) < (n : Int) ∧ ¬ (65536 : Int) < (m : Int) ∧ (m : Int) < (n : Int)) := by omega
  clear h
  rcases key with h0 | ⟨h1, h0⟩ | ⟨h0, h1, h2⟩
  all_goals
    go_enter Trym.func5, Trym.ntmps5
    go_wp2_with fail
    refine Z.mono ?_
    rintro e w' ⟨⟨bb, rfl⟩, hw⟩
    subst w'
    clear Z
    cases bb
    all_goals
      go_wp2
      go_ret
      exact ⟨rfl, Below.refl _ _⟩

/-- a of no element; b has elements. -/
theorem walk_zero_pos (a0 : Option Addr) (c0 : Nat) (b1 o1 m c1 : Nat) (Y : Nat → Int) (w : World) (hpos : 0 < m) (hm : m ≤ 65536) (hb1 : b1 < w.heap.size) (hy : ∀ i, i < m → w.cell? ⟨b1, o1 + i, none⟩ = some (.int .i64 (Y i))) :
    Calls Trym.prog 5 #[.slice a0 0 c0, .slice (some ⟨b1, o1, none⟩) m c1] w fun e w' => e = .returned (.bool true) ∧ Below w.heap.size w w' := by
  have Z := zz15_any a0 (some ⟨b1, o1, none⟩) 0 c0 m c1 w (by unfold maxLen; omega) (by unfold maxLen; omega)
  have hmk := run_make_row' (P := Trym.prog) 22 2 (.int .i64 0) 8 Trym.underlying22 Trym.info2 rfl .i64 .i64 m (by omega) (by omega)
  have hnil1 := fun wx => run_neq_slice_nil_any (P := Trym.prog) wx 22 2 (some ⟨b1, o1, none⟩) m c1 0 0 Trym.underlying22
  have HY : Hid (∀ i, i < m → w.cell? ⟨b1, o1 + i, none⟩ = some (.int .i64 (Y i))) := hy
  clear hy
  go_enter Trym.func5, Trym.ntmps5
  go_wp2_with fail
  refine Z.mono ?_
  rintro e w' ⟨⟨bb, rfl⟩, hw⟩
  subst w'
  clear Z
  cases bb
  · go_wp2
    go_ret
    exact ⟨rfl, Below.refl _ _⟩
  go_wp2_with (with_reducible refine at_copy 27 28 ?_; refine wp_copy_row rfl (.tmp 27) (.tmp 28) rfl w.heap.size b1 o1 m c1 _ Y rfl rfl (World.rowIs_made w _ m 2) (cells_later _ HY.out hb1 (Below.refl _ _)) ?_; intro w1 hr1 ho1)
  have hB1 : Hid (Below w.heap.size w w1) := made_copied ho1.out
  clear hr1 ho1
  refine (clone_zero _ _ _).mono ?_
  rintro e w3 ⟨⟨ao3, c3, rfl⟩, B3⟩
  have HB3 : Hid (Below w.heap.size w w3) := hB1.out.trans (B3.mono hB1.out.size)
  clear B3 hB1
  go_wp2_with fail
  refine (zzsub_zero _ _ _ _).mono ?_
  rintro e w4 ⟨rfl, hw4⟩
  subst w4
  go_wp2_with fail
  refine (zzadd_zero _ _ _ _).mono ?_
  rintro e w5 ⟨rfl, hw5⟩
  subst w5
  go_wp2_with fail
  refine (same_zero _ _ _ _ _).mono ?_
  rintro e w6 ⟨rfl, hw6⟩
  subst w6
  go_wp2
  go_ret
  exact ⟨rfl, HB3⟩

theorem trans_up {w wx w3 : World} (hB : Below w.heap.size w wx) (B : Below wx.heap.size wx w3) : Below w.heap.size w w3 := hB.trans (B.mono hB.size)

/-- Two slices of no element, each nil or not. -/
theorem walk_zero (a0 : Option Addr) (c0 : Nat) (a1 : Option Addr) (c1 : Nat) (w : World) :
    Calls Trym.prog 5 #[.slice a0 0 c0, .slice a1 0 c1] w fun e w' => e = .returned (.bool true) ∧ Below w.heap.size w w' := by
  have Z := zz15_any a0 a1 0 c0 0 c1 w (by unfold maxLen; omega) (by unfold maxLen; omega)
  have hmk : ∀ wx, (Instr.makeSlice 22 (.int .i64 0) (.int .i64 0)).run Trym.prog wx = .ok (.slice (some ⟨wx.heap.size, 0, none⟩) 0 0) (wx.alloc (.cells (madeCells #[.int .i64 0] 0) 2)) :=
    run_make_row' (P := Trym.prog) 22 2 (.int .i64 0) 8 Trym.underlying22 Trym.info2 rfl .i64 .i64 0 (by omega) (by omega)
  have hnil1 := fun wx => run_neq_slice_nil_any (P := Trym.prog) wx 22 2 a1 0 c1 0 0 Trym.underlying22
  cases a1
  all_goals
    go_enter Trym.func5, Trym.ntmps5
    go_wp2_with fail
    refine Z.mono ?_
    rintro e w' ⟨⟨bb, rfl⟩, hw⟩
    subst w'
    clear Z
    cases bb
    · go_wp2
      go_ret
      exact ⟨rfl, Below.refl _ _⟩
    go_wp2_with (with_reducible refine at_copy 27 28 ?_; refine wpList_copy_nothing rfl (.tmp 27) (.tmp 28) 22 22 rfl 2 Trym.underlying22 Trym.one2 _ _ 0 _ 0 _ rfl rfl rfl ?_)
    refine (clone_zero _ _ _).mono ?_
    rintro e w3 ⟨⟨ao3, c3, rfl⟩, B3⟩
    have HB3 : Hid (Below w.heap.size w w3) := by
      first
        | exact B3
        | exact trans_up ((Below.refl _ w).alloc (Nat.le_refl _) (.cells (madeCells #[.int .i64 0] 0) 2)) B3
    clear B3
    go_wp2_with fail
    refine (zzsub_zero _ _ _ _).mono ?_
    rintro e w4 ⟨rfl, hw4⟩
    subst w4
    go_wp2_with fail
    refine (zzadd_zero _ _ _ _).mono ?_
    rintro e w5 ⟨rfl, hw5⟩
    subst w5
    go_wp2_with fail
    refine (same_zero _ _ _ _ _).mono ?_
    rintro e w6 ⟨rfl, hw6⟩
    subst w6
    go_wp2
    go_ret
    exact ⟨rfl, HB3⟩

theorem cells_of_row {w : World} {x : Addr} {zs : List Int} (hp : 0 < zs.length) (h : ∀ i, i < zs.length → w.cell? (x.add i) = some (.int .i64 (zs.getD i 0))) :
    ∃ b off, x = ⟨b, off, none⟩ ∧ b < w.heap.size ∧ ∀ i, i < zs.length → w.cell? ⟨b, off + i, none⟩ = some (.int .i64 (zs.getD i 0)) := by
  obtain ⟨b, off, spot⟩ := x
  have h0 := h 0 hp
  have hspot : spot = none := by simpa [Addr.add] using World.cell?_spot h0
  subst hspot
  have hc : ∀ i, i < zs.length → w.cell? ⟨b, off + i, none⟩ = some (.int .i64 (zs.getD i 0)) := fun i hi => by rw [← add_plain]; exact h i hi
  exact ⟨b, off, rfl, World.block_lt_of_cell? w ⟨b, off + 0, none⟩ (hc 0 hp), hc⟩

theorem len_le {k : IntKind} {w : World} {a : Option Addr} {len cap : Nat} {zs : List Int} (h : IsRow k w a len cap zs) : len ≤ maxLen := by
  rcases h with ⟨_, h, _⟩ | ⟨x, _, h1, h2, _⟩
  · rw [h]; exact Nat.zero_le _
  · exact Nat.le_trans h1 h2

theorem walk (a0 : Option Addr) (len0 cap0 : Nat) (z0 : List Int) (a1 : Option Addr) (len1 cap1 : Nat) (z1 : List Int) (w : World) (w0 : IsRow .i64 w a0 len0 cap0 z0) (w1 : IsRow .i64 w a1 len1 cap1 z1) :
    Calls Trym.prog 5 #[.slice a0 len0 cap0, .slice a1 len1 cap1] w fun e w' => e = .returned (.bool true) ∧ Below w.heap.size w w' := by
  by_cases hout : 65536 < len0 ∨ 65536 < len1 ∨ len1 < len0
  · exact walk_out a0 len0 cap0 a1 len1 cap1 w (len_le w0) (len_le w1) hout
  by_cases hm : len1 = 0
  · obtain rfl : len0 = 0 := by omega
    subst hm
    exact walk_zero a0 cap0 a1 cap1 w
  rcases w1 with ⟨_, h, _⟩ | ⟨x1, rfl, hl1, _, hz1, hc1, _⟩
  · exact absurd h hm
  obtain ⟨b1, o1, rfl, hb1, hy⟩ := cells_of_row (by omega) hc1
  by_cases hz : len0 = 0
  · subst hz
    exact walk_zero_pos a0 cap0 b1 o1 len1 cap1 (fun i => z1.getD i 0) w (by omega) (by omega) hb1 (fun i hi => hy i (by omega))
  rcases w0 with ⟨_, h, _⟩ | ⟨x0, rfl, hl0, _, hz0, hc0, hw0⟩
  · exact absurd h hz
  obtain ⟨b0, o0, rfl, hb0, hx⟩ := cells_of_row (by omega) hc0
  refine walk_pos b0 o0 cap0 b1 o1 cap1 len0 len1 (fun i => z0.getD i 0) (fun i => z1.getD i 0) w (by omega) (by omega) (by omega) (by omega) hb0 hb1 (fun i hi => ?_) (fun i hi => hx i (by omega)) (fun i hi => hy i (by omega))
  have hi' : i < z0.length := by omega
  refine bounds_i64 (hw0 _ ?_)
  show z0.getD i 0 ∈ z0
  rw [List.getD_eq_getElem?_getD, List.getElem?_eq_getElem hi']
  exact List.getElem_mem hi'

/-! ### THE ROW's STEP: WRITTEN OUT: LEAVE IT -/
set_option maxRecDepth 100000 in
theorem lifted (os : Os) (started : os.Started) (H : Type) (enc : TypeId × Value → H) :
    ReturnsInHanded {} Trym.checked os 5 .any (Rows.fnSubThenAddRestoresSpec.pre6 enc Trym.prog Trym.f5 Rows.fnSubThenAddRestoresRow.domain false) (Rows.fnSubThenAddRestoresSpec.post enc Trym.prog Trym.f5 false true false false) := by
  refine returnsInHanded_of_change (C := Trym.checked) own started (by kernel_rfl) Trym.func5
    (ChangeSpec.witness6 (enc := enc) (C := Trym.checked) false ⟨#[], #[.slice none 0 0, .slice none 0 0], []⟩ 8 (by kernel_rfl) (by kernel_rfl) (by kernel_rfl) (by kernel_rfl)) ?_
  intro W base args ds gs before hval0 hW hcnd _
  have hval : ∀ (j : Nat) t v, Trym.f5.params[j]? = some t → args[j]? = some v → Value.okWide Trym.prog W .any base t v := hval0
  have hW' := hW
  obtain ⟨p, q, hA0, hV, rfl, hfz, hnd⟩ := hW
  have hA : DataW.TrodAll enc Trym.prog W 0 (fun _ => true) true Trym.f5.params.toList args.toList ds p := hA0
  rw [Trym.params5] at hA hval
  obtain ⟨v0, vs0, d0, ds0, p0, q0, hargs, rfl, rfl, h0, r0⟩ := trodAll_cons hA
  obtain ⟨v1, vs1, d1, ds1, p1, q1, rfl, rfl, rfl, h1, r1⟩ := trodAll_cons r0
  obtain ⟨rfl, rfl, rfl⟩ := trodAll_nil r1
  obtain rfl : args = #[v0, v1] := by cases args; simp_all
  obtain ⟨rfl, rfl⟩ := trodVars_none hV
  obtain ⟨a0, len0, cap0, rfl⟩ := okWide_slice Trym.underlying22 (hval 0 22 v0 rfl rfl)
  have k0 := h0
  have lt0 : ∀ x ∈ p0, x.block < W.heap.size := by obtain ⟨m, hm⟩ := k0; exact DataW.trod_lt m _ _ _ hm
  obtain ⟨z0, w0⟩ : ∃ zs, IsRow .i64 W a0 len0 cap0 zs := by
    obtain ⟨fuel, hf⟩ := h0
    rcases open_ints Trym.underlying22 Trym.underlying2 (by kernel_rfl) hf with ⟨hcs, _⟩ | ⟨x, l, c, zs, hcs, _, hl, hm, hz, _, hcell, hwz⟩
    · simp [Value.cells] at hcs
      obtain ⟨rfl, rfl, rfl⟩ := hcs
      exact ⟨[], .inl ⟨rfl, rfl, rfl, rfl⟩⟩
    · simp [Value.cells] at hcs
      obtain ⟨rfl, rfl, rfl⟩ := hcs
      exact ⟨zs, .inr ⟨_, rfl, hl, hm, by simpa using hz, hcell, hwz⟩⟩
  obtain ⟨a1, len1, cap1, rfl⟩ := okWide_slice Trym.underlying22 (hval 1 22 v1 rfl rfl)
  have k1 := h1
  have lt1 : ∀ x ∈ p1, x.block < W.heap.size := by obtain ⟨m, hm⟩ := k1; exact DataW.trod_lt m _ _ _ hm
  obtain ⟨z1, w1⟩ : ∃ zs, IsRow .i64 W a1 len1 cap1 zs := by
    obtain ⟨fuel, hf⟩ := h1
    rcases open_ints Trym.underlying22 Trym.underlying2 (by kernel_rfl) hf with ⟨hcs, _⟩ | ⟨x, l, c, zs, hcs, _, hl, hm, hz, _, hcell, hwz⟩
    · simp [Value.cells] at hcs
      obtain ⟨rfl, rfl, rfl⟩ := hcs
      exact ⟨[], .inl ⟨rfl, rfl, rfl, rfl⟩⟩
    · simp [Value.cells] at hcs
      obtain ⟨rfl, rfl, rfl⟩ := hcs
      exact ⟨zs, .inr ⟨_, rfl, hl, hm, by simpa using hz, hcell, hwz⟩⟩
  clear hA0 hval0
  refine (walk a0 len0 cap0 z0 a1 len1 cap1 z1 W w0 w1).mono fun e W' ⟨he, bel⟩ => ?_
  subst he
  exact ⟨_, rfl, _, _, _, [], _, [], hW', trodAll_mk1 (shut_bool Trym.underlying4 _), (trodAll_cons_mk (Below.trod laidOut (by kernel_rfl) (of_decide_eq_true (by kernel_rfl)) k0 bel lt0) (trodAll_cons_mk (Below.trod laidOut (by kernel_rfl) (of_decide_eq_true (by kernel_rfl)) k1 bel lt1) trodAll_mk0)), rfl, bel.frame _, fun h => by cases h⟩

theorem over : Rows.fnSubThenAddRestoresRow.holds Trym.pinned (OpenSpec.ofChange Rows.fnSubThenAddRestoresSpec) :=
  OpenClaim.holds_of_wide 5 Trym.f5 rfl rfl rfl rfl rfl rfl rfl ⟨rfl, rfl, rfl, rfl, rfl⟩ rfl rfl rfl rfl rfl (by kernel_rfl) Trym.func5 (by kernel_rfl)
    (of_decide_eq_true (by kernel_rfl)) (by unfold Func.isWrapper; first | (rw [if_pos (by decide +kernel)]; kernel_rfl) | (rw [if_neg (by decide +kernel)]; exact ⟨rfl, rfl⟩))
    (fun os started H enc _ => lifted os started H enc)

/-- ████ THE STATEMENT ████ -/
theorem proved : Rows.FnSubThenAddRestoresSaid := over
#print axioms proved
end Go.Proofs.Qxb6601740aMods.fnSubThenAddRestores
