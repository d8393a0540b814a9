/-
  THE WALKS of the functions that both laws of this seat call: cloneInts (10), amounts.sub (22), amounts.add (21), ZZSub (12), ZZAdd (11). Each as a contract over a slice whose cells are told by a function of the index.
-/
import Derived.Test.Qxb6601740aModsRows
import Derived.WalkKit
import Derived.ProofKit
import Derived.OpenShut
import Derived.Below
import Derived.Deep.OwnRows
import Derived.Laws.CopyOwn
import Derived.WalkSpells
import Derived.Deep.QuietTactic
import Derived.BigQuiet
namespace Go.Proofs.Qxb6601740aMods
open Go.RowKit
set_option linter.unusedVariables false

theorem Trym.info2 : (Trym.prog.info? 2).map (fun i => (i.zero, i.size, i.bytes)) = some (some (.int .i64 0), 1, 8) := by kernel_rfl
theorem Trym.one2 : (Trym.prog.info? 2).map (fun i => i.size) = some 1 := by kernel_rfl

/-! ### cloneInts -/

/-- One store of the copying loop. -/
theorem clone_step {wr : World} {g n k : Nat} {X : Nat → Int} (h : wr.rowIs g 2 n (fun j => .int .i64 (if j < k then X j else 0))) :
    (wr.setCell ⟨g, k, none⟩ (.int .i64 (X k))).rowIs g 2 n (fun j => .int .i64 (if j < k + 1 then X j else 0)) := by
  refine (h.set k _).congr fun j _ => ?_
  by_cases e : j = k
  · subst e; simp
  · rw [if_neg e]
    by_cases hlt : j < k
    · rw [if_pos hlt, if_pos (by omega)]
    · rw [if_neg hlt, if_neg (by omega)]

set_option maxHeartbeats 400000 in
theorem clone_pos (b off n c : Nat) (X : Nat → Int) (w : World) (hn : n ≤ 1048576) (hb : b < w.heap.size)
    (hc : ∀ i, i < n → w.cell? ⟨b, off + i, none⟩ = some (.int .i64 (X i))) :
    Calls Trym.prog 10 #[.slice (some ⟨b, off, none⟩) n c] w fun e w' =>
      e = .returned (.slice (some ⟨w.heap.size, 0, none⟩) n n) ∧ w'.rowIs w.heap.size 2 n (fun i => .int .i64 (X i)) ∧ Below w.heap.size w w' := by
  have hmk := run_make_row' (P := Trym.prog) 22 2 (.int .i64 0) 8 Trym.underlying22 Trym.info2 rfl .i64 .i64 n (by omega) (by omega)
  have hnil := fun wx => Lib.run_eql_slice_nil (P := Trym.prog) wx 22 2 (some ⟨b, off, none⟩) n c 0 0 Trym.underlying22
  go_enter Trym.func10, Trym.ntmps10
  go_wp2
  go_loopw [4] (fun i wr => ∃ k : Nat, k ≤ n ∧ i = .int .i64 k ∧ Hid (wr.rowIs w.heap.size 2 n (fun j => .int .i64 (if j < k then X j else 0))) ∧ Below w.heap.size w wr) (fun i _ => n - (intOf i).toNat)
  case atStart =>
    exact ⟨0, Nat.zero_le _, rfl, (World.rowIs_made w _ n 2).congr (fun j _ => by simp), (Below.refl _ _).alloc (Nat.le_refl _) _⟩
  case round =>
    obtain ⟨k, hk, rfl, hrow, hbel⟩ := hrel
    by_cases hlt : k < n
    · have h1 : wr.cell? ⟨b, off + k, none⟩ = some (.int .i64 (X k)) := (hbel.cell (p := ⟨b, off + k, none⟩) hb).trans (hc k hlt)
      have h2 : wr.cell? ⟨w.heap.size, k, none⟩ = some (.int .i64 0) := by have := hrow.out.cell hlt; simpa using this
      have h3 : wr.frozen? ⟨w.heap.size, k, none⟩ = false := hrow.out.frozen k
      go_wp2
      go_roundw
      case rel => exact ⟨k + 1, by omega, by go_num, clone_step hrow.out, hbel.setCell (Nat.le_refl _) _⟩
      case measure => simp [intOf]; omega
    · go_wp2
      go_ret
      exact ⟨rfl, hrow.out.congr (fun j hj => by rw [if_pos (by omega)]), hbel⟩

/-- A slice of no element, nil or not: the copy has none either. -/
theorem clone_zero (a : Option Addr) (c : Nat) (w : World) :
    Calls Trym.prog 10 #[.slice a 0 c] w fun e w' => (∃ ao c', e = .returned (.slice ao 0 c')) ∧ Below w.heap.size w w' := by
  have hmk : ∀ wx, (Instr.makeSlice 22 (.int .i64 0) (.int .i64 0)).run Trym.prog wx = .ok (.slice (some ⟨wx.heap.size, 0, none⟩) 0 0) (wx.alloc (.cells (madeCells #[.int .i64 0] 0) 2)) :=
    run_make_row' (P := Trym.prog) 22 2 (.int .i64 0) 8 Trym.underlying22 Trym.info2 rfl .i64 .i64 0 (by omega) (by omega)
  have hnil := fun wx => Lib.run_eql_slice_nil (P := Trym.prog) wx 22 2 a 0 c 0 0 Trym.underlying22
  cases a with
  | none =>
    go_enter Trym.func10, Trym.ntmps10
    go_wp2
    go_ret
    exact ⟨⟨_, _, rfl⟩, Below.refl _ _⟩
  | some x =>
    go_enter Trym.func10, Trym.ntmps10
    go_wp2
    refine wp_loop_rounds 1 ?_
    rw [rounds_succ]
    go_wp2
    go_ret
    exact ⟨⟨_, _, rfl⟩, (Below.refl _ _).alloc (Nat.le_refl _) _⟩

/-! ### amounts.sub, amounts.add: a row of the call's own is written cell by cell -/

/-- Of a row's n numbers the first k are turned. -/
def mix (f : Int → Int → Int) (X Y : Nat → Int) (k : Nat) : Nat → Value := fun j => .int .i64 (if j < k then f (X j) (Y j) else X j)

theorem mix_step {wr : World} {g n k : Nat} {f : Int → Int → Int} {X Y : Nat → Int} (h : wr.rowIs g 2 n (mix f X Y k)) :
    (wr.setCell ⟨g, k, none⟩ (.int .i64 (f (X k) (Y k)))).rowIs g 2 n (mix f X Y (k + 1)) := by
  refine (h.set k _).congr fun j _ => ?_
  unfold mix
  by_cases e : j = k
  · subst e; simp
  · rw [if_neg e]
    by_cases hlt : j < k
    · rw [if_pos hlt, if_pos (by omega)]
    · rw [if_neg hlt, if_neg (by omega)]

/-- All but block g is as it was. -/
def Only (g : Nat) (w w' : World) : Prop := w.grownBy w' (some g)
theorem Only.refl (g : Nat) (w : World) : Only g w w := ⟨rfl, rfl, rfl, Nat.le_refl _, fun _ _ _ => rfl⟩
theorem Only.store {g : Nat} {w w' : World} (h : Only g w w') (k : Nat) (v : Value) : Only g w (w'.setCell ⟨g, k, none⟩ v).drew :=
  ⟨h.os, h.tape, h.output, by have := h.size; simpa [World.setCell] using this, fun i hi hne =>
    (Below.heap_setCell w' ⟨g, k, none⟩ v i (fun e => hne (by rw [e]))).trans (h.block i hi hne)⟩
theorem Only.cell {g : Nat} {w w' : World} (h : Only g w w') {p : Addr} {v : Value} (hv : w.cell? p = some v) (hne : p.block ≠ g) : w'.cell? p = some v :=
  World.grownBy.cell h hv (fun e => hne (Option.some.inj e))
theorem Only.row {g b : Nat} {w w' : World} {n : Nat} {f : Nat → Value} (h : Only g w w') (hne : b ≠ g) (hr : w.rowIs b 2 n f) : w'.rowIs b 2 n f :=
  hr.of_block (h.block b hr.lt (fun e => hne (Option.some.inj e)))
theorem Only.below {g B : Nat} {w w' : World} (h : Only g w w') (hB : B ≤ g) (hs : B ≤ w.heap.size) : Below B w w' :=
  (Below.refl B w).grown h hs (fun k hk => by cases hk; exact hB)

def subF (a b : Int) : Int := wrap64 (a - b)
def addF (a b : Int) : Int := wrap64 (a + b)

set_option maxHeartbeats 800000 in
theorem sub_pos (g n c b off m c2 : Nat) (X Y : Nat → Int) (w : World) (hn : n ≤ 1048576) (hm : m ≤ 1048576) (hnm : n ≤ m) (hbg : b ≠ g)
    (hrow : w.rowIs g 2 n (fun i => .int .i64 (X i))) (hc : ∀ i, i < m → w.cell? ⟨b, off + i, none⟩ = some (.int .i64 (Y i))) :
    Calls Trym.prog 22 #[.slice (some ⟨g, 0, none⟩) n c, .slice (some ⟨b, off, none⟩) m c2] w fun e w' =>
      e = .returned (.tuple #[]) ∧ w'.rowIs g 2 n (fun i => .int .i64 (subF (X i) (Y i))) ∧ Only g w w' := by
  have H0 : Hid (w.rowIs g 2 n (fun i => .int .i64 (X i))) := hrow
  clear hrow
  go_enter Trym.func22, Trym.ntmps22
  go_wp2
  go_loopw [7] (fun i wr => ∃ k : Nat, k ≤ n ∧ i = .int .i64 k ∧ Hid (wr.rowIs g 2 n (mix subF X Y k)) ∧ Hid (Only g w wr)) (fun i _ => n - (intOf i).toNat)
  case atStart =>
    exact ⟨0, Nat.zero_le _, rfl, H0.out.congr (fun j _ => by simp [mix]), Only.refl _ _⟩
  case round =>
    obtain ⟨k, hk, rfl, hr, ho⟩ := hrel
    by_cases hlt : k < n
    · have h1 : wr.cell? ⟨b, off + k, none⟩ = some (.int .i64 (Y k)) := ho.out.cell (hc k (by omega)) hbg
      have h2 : wr.cell? ⟨g, k, none⟩ = some (.int .i64 (X k)) := by have := hr.out.cell hlt; simpa [mix] using this
      have h3 : wr.frozen? ⟨g, k, none⟩ = false := hr.out.frozen k
      have hi : (k : Int) < (n : Int) := by omega
      have hi2 : (k : Int) < (m : Int) := by omega
      have R := mix_step (f := subF) hr.out
      have O := ho.out.store k (.int .i64 (subF (X k) (Y k)))
      have HR : Hid ((wr.setCell ⟨g, k, none⟩ (.int .i64 (subF (X k) (Y k)))).rowIs g 2 n (mix subF X Y (k + 1))) := R
      have HO : Hid (Only g w (wr.setCell ⟨g, k, none⟩ (.int .i64 (subF (X k) (Y k)))).drew) := O
      clear R O hc
      go_wp2
      go_region
      all_goals
        go_wp2
        go_roundw
        case rel => exact ⟨k + 1, by omega, by go_num, HR.out.drew, HO⟩
        case measure => simp [intOf]; omega
    · go_wp2
      go_end0
      exact ⟨rfl, hr.out.congr (fun j hj => by unfold mix; rw [if_pos (by omega)]), ho⟩

/-- A slice of no element: nothing happens. -/
theorem sub_zero (a : Option Addr) (c : Nat) (v : Value) (w : World) :
    Calls Trym.prog 22 #[.slice a 0 c, v] w fun e w' => e = .returned (.tuple #[]) ∧ w' = w := by
  go_enter Trym.func22, Trym.ntmps22
  go_wp2
  refine wp_loop_rounds 1 ?_
  rw [rounds_succ]
  go_wp2
  go_end0
  exact ⟨rfl, rfl⟩

set_option maxHeartbeats 800000 in
theorem add_pos (g n c b off m c2 : Nat) (X Y : Nat → Int) (w : World) (hn : n ≤ 1048576) (hm : m ≤ 1048576) (hnm : n ≤ m) (hbg : b ≠ g)
    (hrow : w.rowIs g 2 n (fun i => .int .i64 (X i))) (hc : ∀ i, i < m → w.cell? ⟨b, off + i, none⟩ = some (.int .i64 (Y i))) :
    Calls Trym.prog 21 #[.slice (some ⟨g, 0, none⟩) n c, .slice (some ⟨b, off, none⟩) m c2] w fun e w' =>
      e = .returned (.tuple #[]) ∧ w'.rowIs g 2 n (fun i => .int .i64 (addF (X i) (Y i))) ∧ Only g w w' := by
  have H0 : Hid (w.rowIs g 2 n (fun i => .int .i64 (X i))) := hrow
  clear hrow
  go_enter Trym.func21, Trym.ntmps21
  go_wp2
  go_loopw [7] (fun i wr => ∃ k : Nat, k ≤ n ∧ i = .int .i64 k ∧ Hid (wr.rowIs g 2 n (mix addF X Y k)) ∧ Hid (Only g w wr)) (fun i _ => n - (intOf i).toNat)
  case atStart =>
    exact ⟨0, Nat.zero_le _, rfl, H0.out.congr (fun j _ => by simp [mix]), Only.refl _ _⟩
  case round =>
    obtain ⟨k, hk, rfl, hr, ho⟩ := hrel
    by_cases hlt : k < n
    · have h1 : wr.cell? ⟨b, off + k, none⟩ = some (.int .i64 (Y k)) := ho.out.cell (hc k (by omega)) hbg
      have h2 : wr.cell? ⟨g, k, none⟩ = some (.int .i64 (X k)) := by have := hr.out.cell hlt; simpa [mix] using this
      have h3 : wr.frozen? ⟨g, k, none⟩ = false := hr.out.frozen k
      have hi : (k : Int) < (n : Int) := by omega
      have hi2 : (k : Int) < (m : Int) := by omega
      have R := mix_step (f := addF) hr.out
      have O := ho.out.store k (.int .i64 (addF (X k) (Y k)))
      have HR : Hid ((wr.setCell ⟨g, k, none⟩ (.int .i64 (addF (X k) (Y k)))).rowIs g 2 n (mix addF X Y (k + 1))) := R
      have HO : Hid (Only g w (wr.setCell ⟨g, k, none⟩ (.int .i64 (addF (X k) (Y k)))).drew) := O
      clear R O hc
      go_wp2
      go_region
      all_goals
        go_wp2
        go_roundw
        case rel => exact ⟨k + 1, by omega, by go_num, HR.out.drew, HO⟩
        case measure => simp [intOf]; omega
    · go_wp2
      go_end0
      exact ⟨rfl, hr.out.congr (fun j hj => by unfold mix; rw [if_pos (by omega)]), ho⟩

theorem add_zero (a : Option Addr) (c : Nat) (v : Value) (w : World) :
    Calls Trym.prog 21 #[.slice a 0 c, v] w fun e w' => e = .returned (.tuple #[]) ∧ w' = w := by
  go_enter Trym.func21, Trym.ntmps21
  go_wp2
  refine wp_loop_rounds 1 ?_
  rw [rounds_succ]
  go_wp2
  go_end0
  exact ⟨rfl, rfl⟩

/-! ### ZZSub, ZZAdd: they hand on -/
theorem zzsub_pos (g n c b off m c2 : Nat) (X Y : Nat → Int) (w : World) (hn : n ≤ 1048576) (hm : m ≤ 1048576) (hnm : n ≤ m) (hbg : b ≠ g)
    (hrow : w.rowIs g 2 n (fun i => .int .i64 (X i))) (hc : ∀ i, i < m → w.cell? ⟨b, off + i, none⟩ = some (.int .i64 (Y i))) :
    Calls Trym.prog 12 #[.slice (some ⟨g, 0, none⟩) n c, .slice (some ⟨b, off, none⟩) m c2] w fun e w' =>
      e = .returned (.tuple #[]) ∧ w'.rowIs g 2 n (fun i => .int .i64 (subF (X i) (Y i))) ∧ Only g w w' := by
  have H := sub_pos g n c b off m c2 X Y w hn hm hnm hbg hrow hc
  clear hrow hc
  go_enter Trym.func12, Trym.ntmps12
  go_wp2_with (go_at_call 22; refine H.mono ?_; rintro e w' ⟨rfl, h1, h2⟩)
  go_end0
  exact ⟨rfl, by assumption, by assumption⟩

theorem zzsub_zero (a : Option Addr) (c : Nat) (v : Value) (w : World) :
    Calls Trym.prog 12 #[.slice a 0 c, v] w fun e w' => e = .returned (.tuple #[]) ∧ w' = w := by
  go_enter Trym.func12, Trym.ntmps12
  go_wp2_with (go_at_call 22; refine (sub_zero a c v w).mono ?_; rintro e w' ⟨rfl, rfl⟩)
  go_end0
  exact ⟨rfl, rfl⟩

theorem zzadd_pos (g n c b off m c2 : Nat) (X Y : Nat → Int) (w : World) (hn : n ≤ 1048576) (hm : m ≤ 1048576) (hnm : n ≤ m) (hbg : b ≠ g)
    (hrow : w.rowIs g 2 n (fun i => .int .i64 (X i))) (hc : ∀ i, i < m → w.cell? ⟨b, off + i, none⟩ = some (.int .i64 (Y i))) :
    Calls Trym.prog 11 #[.slice (some ⟨g, 0, none⟩) n c, .slice (some ⟨b, off, none⟩) m c2] w fun e w' =>
      e = .returned (.tuple #[]) ∧ w'.rowIs g 2 n (fun i => .int .i64 (addF (X i) (Y i))) ∧ Only g w w' := by
  have H := add_pos g n c b off m c2 X Y w hn hm hnm hbg hrow hc
  clear hrow hc
  go_enter Trym.func11, Trym.ntmps11
  go_wp2_with (go_at_call 21; refine H.mono ?_; rintro e w' ⟨rfl, h1, h2⟩)
  go_end0
  exact ⟨rfl, by assumption, by assumption⟩

theorem zzadd_zero (a : Option Addr) (c : Nat) (v : Value) (w : World) :
    Calls Trym.prog 11 #[.slice a 0 c, v] w fun e w' => e = .returned (.tuple #[]) ∧ w' = w := by
  go_enter Trym.func11, Trym.ntmps11
  go_wp2_with (go_at_call 21; refine (add_zero a c v w).mono ?_; rintro e w' ⟨rfl, rfl⟩)
  go_end0
  exact ⟨rfl, rfl⟩

/-! ### The bound on total length: it answers some bool and turns nothing -/
theorem zz16_any (a b : Option Addr) (n c m d : Nat) (w : World) (hn : n ≤ maxLen) (hm : m ≤ maxLen) :
    Calls Trym.prog 16 #[.slice a n c, .slice b m d] w fun e w' => (∃ bb : Bool, e = .returned (.bool bb)) ∧ w' = w := by
  unfold maxLen at hn hm
  go_enter Trym.func16, Trym.ntmps16
  go_wp2
  all_goals
    go_ret
    exact ⟨⟨_, rfl⟩, rfl⟩

theorem zz15_any (a b : Option Addr) (n c m d : Nat) (w : World) (hn : n ≤ maxLen) (hm : m ≤ maxLen) :
    Calls Trym.prog 15 #[.slice a n c, .slice b m d] w fun e w' => (∃ bb : Bool, e = .returned (.bool bb)) ∧ w' = w := by
  unfold maxLen at hn hm
  go_enter Trym.func15, Trym.ntmps15
  go_wp2
  all_goals
    go_ret
    exact ⟨⟨_, rfl⟩, rfl⟩

/-! ### copy(zzc, a) into a row that has just been made -/
/-- A guard for the walk: offered by 'with_reducible', it fits a goal whose next operation is a copy of slot i's value, and fails at once elsewhere. -/
theorem at_copy {P : Program} {ops : Array Oper} {Q : Exit → Act → World → Prop} {dst : Option Tmp} {ty : TypeId} {pos : String} {after : Array Edge} {rest : List Oper} {a : Act} {w : World} (i j : Nat)
    (h : wpList P ops Q ({ dst := dst, op := .call { callee := .builtin .copy, args := #[.tmp i, .tmp j], argTypes := #[22, 22] }, type := ty, pos := pos, after := after, guard := none } :: rest) a w) :
    wpList P ops Q ({ dst := dst, op := .call { callee := .builtin .copy, args := #[.tmp i, .tmp j], argTypes := #[22, 22] }, type := ty, pos := pos, after := after, guard := none } :: rest) a w := h

theorem wp_copy_row {w : World} {ops : Array Oper} {rest : List Oper} {o : Oper} {a : Act} {Q : Exit → Act → World → Prop} (hgd : o.guard = none) (d s : Operand)
    (ho : o.op = .call { callee := .builtin .copy, args := #[d, s], argTypes := #[22, 22] }) (g b off n sc : Nat) (f : Nat → Value) (X : Nat → Int)
    (hd : a.eval d = .slice (some ⟨g, 0, none⟩) n n) (hs : a.eval s = .slice (some ⟨b, off, none⟩) n sc) (hrow : w.rowIs g 2 n f)
    (hc : ∀ i, i < n → w.cell? ⟨b, off + i, none⟩ = some (.int .i64 (X i)))
    (h : ∀ w', Hid (w'.rowIs g 2 n (fun i => .int .i64 (X i))) → Hid (Only g w w') → wpList Trym.prog ops Q rest (a.put o.dst (goInt n)) w') : wpList Trym.prog ops Q (o :: rest) a w := by
  obtain ⟨cur, hg, hsz, _⟩ := hrow
  have hlen : ((List.range n).map (fun i => Value.int .i64 (X i))).length = n := by simp
  refine wpList_copy_own hgd d s 22 22 ho 2 Trym.underlying22 Trym.one2 g 0 n n ⟨b, off, none⟩ n sc hd hs cur 2 hg ((List.range n).map (fun i => Value.int .i64 (X i))) (by simp) ?_ (by simp [hsz]) ?_ ?_
  · intro j v hj
    rw [List.getElem?_map] at hj
    by_cases hjn : j < n
    · rw [List.getElem?_range hjn] at hj
      simp at hj
      subst hj
      rw [WideShapes.add_plain]; exact hc j hjn
    · rw [List.getElem?_eq_none (by simp; omega)] at hj
      simp at hj
  · intro v hv
    obtain ⟨i, _, rfl⟩ := List.mem_map.1 hv
    rfl
  · rw [hlen]
    refine h _ ⟨_, setRow_heap w g cur _ 2 (0, 0) hg, by simp [hsz], fun i hi => ?_⟩ ⟨rfl, rfl, rfl, by simp [World.setRow], fun k _ hne => setRow_other w g k _ (fun e => hne (by rw [e]))⟩
    simp [hsz, hi]

/-! ### Small steps of the laws' walks -/
theorem row_cells {w : World} {g n : Nat} {X : Nat → Int} (h : w.rowIs g 2 n (fun i => .int .i64 (X i))) : ∀ i, i < n → w.cell? ⟨g, 0 + i, none⟩ = some (.int .i64 (X i)) :=
  fun i hi => by rw [Nat.zero_add]; exact h.cell hi
theorem row_below {w w' : World} {g n B : Nat} {f : Nat → Value} (h : w.rowIs g 2 n f) (hb : Below B w w') (hg : g < B) : w'.rowIs g 2 n f := h.of_block (hb.block g hg)
theorem made_copied {w w1 : World} {O : Obj} (ho : Only w.heap.size (w.alloc O) w1) : Below w.heap.size w w1 :=
  ((Below.refl _ _).alloc (Nat.le_refl _) _).trans (ho.below (Nat.le_refl _) (by simp))
theorem cells_later {w w1 : World} {b off n : Nat} {X : Nat → Int} (O : Obj) (h : ∀ i, i < n → w.cell? ⟨b, off + i, none⟩ = some (.int .i64 (X i))) (hb : b < w.heap.size) (hw : Below w.heap.size w w1) :
    ∀ i, i < n → (w1.alloc O).cell? ⟨b, off + i, none⟩ = some (.int .i64 (X i)) :=
  fun i hi => ((hw.alloc hw.size O).cell (p := ⟨b, off + i, none⟩) hb).trans (h i hi)

end Go.Proofs.Qxb6601740aMods
