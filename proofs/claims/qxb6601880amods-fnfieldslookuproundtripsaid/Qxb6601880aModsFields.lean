/-
  THE WALKS of strconv.FormatBool (13, 14) and of JSONMessage.fields (11).
-/
import Derived.Test.Qxb6601880aModsRows
import Derived.WalkKit
import Derived.ProofKit
import Derived.Below
import Derived.WalkSpells
import Derived.WalkLawsBesides
import Derived.Maps.AppendAt
namespace Go.Proofs.Qxb6601880aMods
open Go.RowKit
set_option linter.unusedVariables false

theorem Trym.info41 : (Trym.prog.info? 41).map (fun i => (i.zero, i.size, i.bytes)) = some (some (.agg #[.string ByteArray.empty, .string ByteArray.empty]), 2, 32) := by kernel_rfl
theorem Trym.info9 : (Trym.prog.info? 9).map (fun i => (i.zero, i.size, i.bytes)) = some (some (.string ByteArray.empty), 1, 16) := by kernel_rfl

/-! ### strconv.FormatBool -/
def boolText (b : Bool) : ByteArray := if b then ⟨#[116, 114, 117, 101]⟩ else ⟨#[102, 97, 108, 115, 101]⟩
theorem fmtb (b : Bool) (w : World) : Calls Trym.prog 13 #[.bool b] w fun e w' => e = .returned (.string (boolText b)) ∧ w = w' := by
  cases b
  all_goals
    go_enter Trym.func13, Trym.ntmps13
    go_wp2
    go_ret
    exact ⟨rfl, rfl⟩

/-! ### fields -/
/-- The seven fields that are always there, cell by cell. -/
def seven (s0 s1 s2 s3 s4 s5 s6 : ByteArray) : List Value :=
  [.string ⟨#[115, 101, 110, 100, 101, 114]⟩, .string s0, .string ⟨#[115, 101, 110, 100, 101, 114, 116, 121, 112, 101]⟩, .string s1, .string ⟨#[100, 101, 115, 116, 105, 110, 97, 116, 105, 111, 110]⟩, .string s2, .string ⟨#[116, 101, 120, 116]⟩, .string s3,
   .string ⟨#[115, 101, 110, 100, 116, 105, 109, 101]⟩, .string s4, .string ⟨#[115, 116, 97, 116, 117, 115]⟩, .string s5, .string ⟨#[115, 116, 97, 116, 117, 115, 116, 105, 109, 101]⟩, .string s6]
def udhCells (s7 : ByteArray) : List Value := [.string ⟨#[117, 100, 104]⟩, .string s7]
def flashCells (b : Bool) : List Value := [.string ⟨#[102, 108, 97, 115, 104]⟩, .string (boolText b)]

theorem own_seven (s0 s1 s2 s3 s4 s5 s6 : ByteArray) (w : World) (O : Obj) :
    ((w.alloc O).alloc (.cells (seven s0 s1 s2 s3 s4 s5 s6).toArray 41)).ownsRow w.heap.size 41 2 (.slice (some ⟨w.heap.size + 1, 0, none⟩) 7 7) 7 (seven s0 s1 s2 s3 s4 s5 s6) := by
  refine ⟨rfl, .inr ⟨w.heap.size + 1, 7, (seven s0 s1 s2 s3 s4 s5 s6).toArray, rfl, by omega, ?_, by omega, by unfold maxLen; omega, rfl, rfl⟩⟩
  have h := heap_alloc_new (w.alloc O) (.cells (seven s0 s1 s2 s3 s4 s5 s6).toArray 41)
  simpa using h

theorem below_two (w : World) (O1 O2 : Obj) : Below w.heap.size w ((w.alloc O1).alloc O2) := ((Below.refl _ _).alloc (Nat.le_refl _) _).alloc (by simp) _

set_option maxHeartbeats 1000000 in
theorem fields_00 (s0 s1 s2 s3 s4 s5 s6 s7 : ByteArray) (w : World) (h7 : (s7.toList.isEmpty) = true) :
    Calls Trym.prog 11 #[.agg #[.string s0, .string s1, .string s2, .string s3, .string s4, .string s5, .string s6, .string s7, .pointer none]] w fun e w' =>
      ∃ v, e = .returned v ∧ w'.ownsRow w.heap.size 41 2 v 7 (seven s0 s1 s2 s3 s4 s5 s6) ∧ Below w.heap.size w w' := by
  go_enter Trym.func11, Trym.ntmps11
  go_wp2
  go_ret
  exact ⟨_, rfl, own_seven s0 s1 s2 s3 s4 s5 s6 w _, below_two w _ _⟩

theorem two_new (w : World) (x y : Value) (t : TypeId) (n : Nat) (hn : n = w.heap.size) : ∀ j u, [x, y][j]? = some u → (w.alloc (.cells #[x, y] t)).cell? ((⟨n, 0, none⟩ : Addr).add j) = some u := by
  intro j u hj
  subst hn
  rw [WideShapes.add_plain, Nat.zero_add]
  match j, hj with
  | 0, hj => simp at hj; subst hj; simp
  | 1, hj => simp at hj; subst hj; simp

/-- 'f = append(f, field{p, q})' on a slice of the call's own. -/
theorem wp_append_field {w0 w : World} {ops : Array Oper} {rest : List Oper} {o : Oper} {a : Act} {Q : Exit → Act → World → Prop} (hgd : o.guard = none) (s x : Operand)
    (ho : o.op = .call { callee := .builtin .append, args := #[s, x], argTypes := #[38, 38] }) (v : Value) (n : Nat) (xs : List Value) (p q : ByteArray) (hs : a.eval s = v) (hown : w.ownsRow w0.heap.size 41 2 v n xs) (hb : Below w0.heap.size w0 w)
    (g : Nat) (hg : g = w.heap.size) (hx : a.eval x = .slice (some ⟨g, 0, none⟩) 1 1) (hn : n ≤ 100)
    (h : ∀ v' w', Hid (w'.ownsRow w0.heap.size 41 2 v' (n + 1) (xs ++ [.string p, .string q])) → Hid ((w.alloc (.cells #[.string p, .string q] 41)).grownBy w' v.ownBlock) → Hid (Below w0.heap.size w0 w') → wpList Trym.prog ops Q rest (a.put o.dst v') w') :
    wpList Trym.prog ops Q (o :: rest) a (w.alloc (.cells #[.string p, .string q] 41)) := by
  obtain ⟨i0, hi, hz0, hz1, hz2⟩ := info_parts Trym.info41
  refine wpList_append_own_at _ hgd s x 38 ho w0.heap.size 41 i0 (.agg #[.string ByteArray.empty, .string ByteArray.empty]) 2 32 Trym.underlying38 hi hz0 hz1 hz2 rfl (by decide) v n xs hs (hown.alloc _) ⟨g, 0, none⟩ 1 1 [.string p, .string q] hx rfl
    (two_new _ _ _ _ _ hg) (by intro u hu; simp at hu; rcases hu with rfl | rfl <;> rfl) (by unfold maxLen; omega) (by omega) (by have := hb.size; simp; omega) ?_
  intro v' w' h1 h2 _ _
  exact h v' w' h1 h2 ((hb.alloc hb.size _).grown h2 (by have := hb.size; simp; omega) (fun k hk => (hown.lt k hk).1))

/-- A cell of a block that the append does not write. -/
theorem kept_cell {w w' : World} {O : Obj} {v : Value} {row : Option Nat} {p : Addr} (hg : (w.alloc O).grownBy w' row) (h : w.cell? p = some v) (hne : some p.block ≠ row) : w'.cell? p = some v :=
  hg.cell ((World.cell?_of_block (Below.heap_alloc w O p.block (World.block_lt_of_cell? w p h))).trans h) hne

set_option maxHeartbeats 1000000 in
theorem fields_10 (s0 s1 s2 s3 s4 s5 s6 s7 : ByteArray) (w : World) (h7 : (s7.toList.isEmpty) = false) :
    Calls Trym.prog 11 #[.agg #[.string s0, .string s1, .string s2, .string s3, .string s4, .string s5, .string s6, .string s7, .pointer none]] w fun e w' =>
      ∃ v, e = .returned v ∧ w'.ownsRow w.heap.size 41 2 v 8 (seven s0 s1 s2 s3 s4 s5 s6 ++ udhCells s7) ∧ Below w.heap.size w w' := by
  go_enter Trym.func11, Trym.ntmps11
  go_wp2_with (at_builtin; refine wp_append_field (w0 := w) rfl (.tmp 29) (.tmp 33) rfl (.slice (some ⟨w.heap.size + 1, 0, none⟩) 7 7) 7 _ ⟨#[117, 100, 104]⟩ s7 rfl (own_seven s0 s1 s2 s3 s4 s5 s6 w _) (below_two w _ _) (w.heap.size + 1 + 1) (by simp) rfl (by omega) ?_; intro v' w1 hown hgrow hbel; have hbox : w1.cell? ⟨w.heap.size, 8, none⟩ = some (.pointer none) := kept_cell hgrow.out (by go_simp) (by simp [Value.ownBlock]); clear hgrow)
  go_ret
  exact ⟨_, rfl, hown, hbel⟩

set_option maxHeartbeats 1000000 in
theorem fields_01 (s0 s1 s2 s3 s4 s5 s6 s7 : ByteArray) (b off : Nat) (fb : Bool) (w : World) (h7 : (s7.toList.isEmpty) = true) (hb : b < w.heap.size) (hc : w.cell? ⟨b, off, none⟩ = some (.bool fb)) :
    Calls Trym.prog 11 #[.agg #[.string s0, .string s1, .string s2, .string s3, .string s4, .string s5, .string s6, .string s7, .pointer (some ⟨b, off, none⟩)]] w fun e w' =>
      ∃ v, e = .returned v ∧ w'.ownsRow w.heap.size 41 2 v 8 (seven s0 s1 s2 s3 s4 s5 s6 ++ flashCells fb) ∧ Below w.heap.size w w' := by
  go_enter Trym.func11, Trym.ntmps11
  go_wp2_with (first
    | (go_at_call 13; refine (fmtb _ _).mono ?_; rintro e w' ⟨rfl, rfl⟩)
    | (at_builtin; refine wp_append_field (w0 := w) rfl (.tmp 38) (.tmp 45) rfl (.slice (some ⟨w.heap.size + 1, 0, none⟩) 7 7) 7 _ ⟨#[102, 108, 97, 115, 104]⟩ (boolText fb) rfl (own_seven s0 s1 s2 s3 s4 s5 s6 w _) (below_two w _ _) (w.heap.size + 1 + 1) (by simp) rfl (by omega) ?_; intro v' w1 hown hgrow hbel; clear hgrow))
  go_ret
  exact ⟨_, rfl, hown, hbel⟩

set_option maxHeartbeats 1000000 in
theorem fields_11 (s0 s1 s2 s3 s4 s5 s6 s7 : ByteArray) (b off : Nat) (fb : Bool) (w : World) (h7 : (s7.toList.isEmpty) = false) (hb : b < w.heap.size) (hc : w.cell? ⟨b, off, none⟩ = some (.bool fb)) :
    Calls Trym.prog 11 #[.agg #[.string s0, .string s1, .string s2, .string s3, .string s4, .string s5, .string s6, .string s7, .pointer (some ⟨b, off, none⟩)]] w fun e w' =>
      ∃ v, e = .returned v ∧ w'.ownsRow w.heap.size 41 2 v 9 ((seven s0 s1 s2 s3 s4 s5 s6 ++ udhCells s7) ++ flashCells fb) ∧ Below w.heap.size w w' := by
  go_enter Trym.func11, Trym.ntmps11
  go_wp2_with (first
    | (go_at_call 13; refine (fmtb _ _).mono ?_; rintro e w' ⟨rfl, rfl⟩)
    | (at_builtin; refine wp_append_field (w0 := w) rfl (.tmp 29) (.tmp 33) rfl (.slice (some ⟨w.heap.size + 1, 0, none⟩) 7 7) 7 _ ⟨#[117, 100, 104]⟩ s7 rfl (own_seven s0 s1 s2 s3 s4 s5 s6 w _) (below_two w _ _) (w.heap.size + 1 + 1) (by simp) rfl (by omega) ?_; intro v' w1 hown hgrow hbel; have hbox : w1.cell? ⟨w.heap.size, 8, none⟩ = some (.pointer (some ⟨b, off, none⟩)) := kept_cell hgrow.out (by go_simp) (by simp [Value.ownBlock]); have hfl : w1.cell? ⟨b, off, none⟩ = some (.bool fb) := (hbel.out.cell (p := ⟨b, off, none⟩) hb).trans hc; clear hgrow)
    | (at_builtin; refine wp_append_field (w0 := w) rfl (.tmp 38) (.tmp 45) rfl v' (7 + 1) _ ⟨#[102, 108, 97, 115, 104]⟩ (boolText fb) rfl hown.out hbel.out w1.heap.size rfl rfl (by omega) ?_; intro v2 w2 hown2 hgrow2 hbel2; clear hgrow2))
  go_ret
  exact ⟨_, rfl, hown2, hbel2⟩

end Go.Proofs.Qxb6601880aMods
