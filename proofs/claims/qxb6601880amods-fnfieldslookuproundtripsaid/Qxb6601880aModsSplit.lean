/-
  JSONMessage.fields (11) as ONE contract over all four makes of a message; THE WALK of ZZFields (6).
-/
import Derived.Test.Qxb6601880aModsFields
import Derived.Test.Qxb6601880aModsLookup
namespace Go.Proofs.Qxb6601880aMods
open Go.RowKit
set_option linter.unusedVariables false

/-- The nine values; the last is the flag's text. -/
def vOf (s0 s1 s2 s3 s4 s5 s6 s7 : ByteArray) (fb : Bool) : Nat → ByteArray
  | 0 => s0 | 1 => s1 | 2 => s2 | 3 => s3 | 4 => s4 | 5 => s5 | 6 => s6 | 7 => s7 | _ => boolText fb
/-- The flag's pointer: nil, or to a bool that lies in old memory. -/
def Fl (w : World) (pv : Value) (has fb : Bool) : Prop :=
  (pv = .pointer none ∧ has = false) ∨ ∃ b off, pv = .pointer (some ⟨b, off, none⟩) ∧ has = true ∧ b < w.heap.size ∧ w.cell? ⟨b, off, none⟩ = some (.bool fb)

/-- A slice of fields at block g: its i-th name and value. -/
def Pairs (w : World) (g n : Nat) (P Q : Nat → ByteArray) : Prop := ∀ i, i < n → w.cell? ⟨g, i * 2, none⟩ = some (.string (P i)) ∧ w.cell? ⟨g, i * 2 + 1, none⟩ = some (.string (Q i))

theorem own_shape {w : World} {base n : Nat} {e : TypeId} {size : Nat} {v : Value} {xs : List Value} (h : w.ownsRow base e size v n xs) (hn : 0 < n) :
    ∃ g c, v = .slice (some ⟨g, 0, none⟩) n c ∧ g < w.heap.size ∧ base ≤ g := by
  rcases h.2 with ⟨_, h0⟩ | ⟨g, cap, cur, rfl, hb, hg, _⟩
  · omega
  · exact ⟨g, cap, rfl, lt_of_block hg, hb⟩

theorem pairs_of {w : World} {base n g c : Nat} {xs : List Value} {P Q : Nat → ByteArray} (h : w.ownsRow base 41 2 (.slice (some ⟨g, 0, none⟩) n c) n xs)
    (hx : ∀ i, i < n → xs[i * 2]? = some (.string (P i)) ∧ xs[i * 2 + 1]? = some (.string (Q i))) : Pairs w g n P Q :=
  fun i hi => ⟨(h.cellAt (i * 2) (by omega)).trans (hx i hi).1, (h.cellAt (i * 2 + 1) (by omega)).trans (hx i hi).2⟩

set_option maxHeartbeats 400000 in
theorem fields_any (s0 s1 s2 s3 s4 s5 s6 s7 : ByteArray) (pv : Value) (e has fb : Bool) (w : World) (he : s7.toList.isEmpty = e) (hp : Fl w pv has fb) :
    Calls Trym.prog 11 #[.agg #[.string s0, .string s1, .string s2, .string s3, .string s4, .string s5, .string s6, .string s7, pv]] w fun en w' =>
      ∃ g c, en = .returned (.slice (some ⟨g, 0, none⟩) (cnt e has) c) ∧ g < w'.heap.size ∧ Pairs w' g (cnt e has) (fun i => nmOf (ix e i)) (fun i => vOf s0 s1 s2 s3 s4 s5 s6 s7 fb (ix e i)) ∧ Below w.heap.size w w' := by
  rcases hp with ⟨rfl, rfl⟩ | ⟨b, off, rfl, rfl, hb, hc⟩
  · cases e
    · refine (fields_10 s0 s1 s2 s3 s4 s5 s6 s7 w he).mono ?_
      rintro en w' ⟨v, rfl, hown, hbel⟩
      obtain ⟨g, c, rfl, hg, _⟩ := own_shape hown (by omega)
      refine ⟨g, c, rfl, hg, pairs_of hown fun i hi => ?_, hbel⟩
      match i, hi with
      | 0, _ | 1, _ | 2, _ | 3, _ | 4, _ | 5, _ | 6, _ | 7, _ => exact ⟨rfl, rfl⟩
    · refine (fields_00 s0 s1 s2 s3 s4 s5 s6 s7 w he).mono ?_
      rintro en w' ⟨v, rfl, hown, hbel⟩
      obtain ⟨g, c, rfl, hg, _⟩ := own_shape hown (by omega)
      refine ⟨g, c, rfl, hg, pairs_of hown fun i hi => ?_, hbel⟩
      match i, hi with
      | 0, _ | 1, _ | 2, _ | 3, _ | 4, _ | 5, _ | 6, _ => exact ⟨rfl, rfl⟩
  · cases e
    · refine (fields_11 s0 s1 s2 s3 s4 s5 s6 s7 b off fb w he hb hc).mono ?_
      rintro en w' ⟨v, rfl, hown, hbel⟩
      obtain ⟨g, c, rfl, hg, _⟩ := own_shape hown (by omega)
      refine ⟨g, c, rfl, hg, pairs_of hown fun i hi => ?_, hbel⟩
      match i, hi with
      | 0, _ | 1, _ | 2, _ | 3, _ | 4, _ | 5, _ | 6, _ | 7, _ | 8, _ => exact ⟨rfl, rfl⟩
    · refine (fields_01 s0 s1 s2 s3 s4 s5 s6 s7 b off fb w he hb hc).mono ?_
      rintro en w' ⟨v, rfl, hown, hbel⟩
      obtain ⟨g, c, rfl, hg, _⟩ := own_shape hown (by omega)
      refine ⟨g, c, rfl, hg, pairs_of hown fun i hi => ?_, hbel⟩
      match i, hi with
      | 0, _ | 1, _ | 2, _ | 3, _ | 4, _ | 5, _ | 6, _ | 7, _ => exact ⟨rfl, rfl⟩

/-! ### Two slices of strings that the call builds side by side -/
structure Two (w0 wr : World) (nv vv : Value) (k m : Nat) (N V : List Value) : Prop where
  on : wr.ownsRow w0.heap.size 9 1 nv k N
  ov : wr.ownsRow w0.heap.size 9 1 vv m V
  ne : ∀ j, nv.ownBlock = some j → vv.ownBlock ≠ some j
  bel : Below w0.heap.size w0 wr

theorem wp_name {w0 w : World} {ops : Array Oper} {rest : List Oper} {o : Oper} {a : Act} {Q : Exit → Act → World → Prop} (hgd : o.guard = none) (s x : Operand)
    (ho : o.op = .call { callee := .builtin .append, args := #[s, x], argTypes := #[26, 26] }) (nv vv : Value) (k m : Nat) (N V : List Value) (p : ByteArray) (hs : a.eval s = nv) (T : Two w0 w nv vv k m N V)
    (g : Nat) (hg : g = w.heap.size) (hx : a.eval x = .slice (some ⟨g, 0, none⟩) 1 1) (hn : k ≤ 100)
    (h : ∀ v' w', Hid (Two w0 w' v' vv (k + 1) m (N ++ [.string p]) V) → wpList Trym.prog ops Q rest (a.put o.dst v') w') :
    wpList Trym.prog ops Q (o :: rest) a (w.alloc (.cells #[.string p] 9)) := by
  obtain ⟨i0, hi, hz0, hz1, hz2⟩ := info_parts Trym.info9
  subst hg
  refine wpList_append_own_at _ hgd s x 26 ho w0.heap.size 9 i0 (.string ByteArray.empty) 1 16 Trym.underlying26 hi hz0 hz1 hz2 rfl (by decide) nv k N hs (T.on.alloc _) ⟨w.heap.size, 0, none⟩ 1 1 [.string p] hx rfl
    (cell_one_new _ _ _) (by intro u hu; simp at hu; rcases hu with rfl; rfl) (by unfold maxLen; omega) (by omega) (by have := T.bel.size; simp; omega) ?_
  intro v' w' h1 h2 _ h4
  refine h v' w' ⟨h1, (T.ov.alloc _).kept h2 ?_, ?_, (T.bel.alloc T.bel.size _).grown h2 (by have := T.bel.size; simp; omega) (fun k hk => (T.on.lt k hk).1)⟩
  · cases hv : vv.ownBlock with
    | none => exact .inl rfl
    | some j => exact .inr fun e => T.ne j e.symm hv
  · intro j hj hv
    rcases h4 with h4 | h4
    · exact T.ne j (h4.symm.trans hj) hv
    · have := (T.ov.lt j hv).2
      rw [h4] at hj
      simp at hj
      omega

theorem wp_val {w0 w : World} {ops : Array Oper} {rest : List Oper} {o : Oper} {a : Act} {Q : Exit → Act → World → Prop} (hgd : o.guard = none) (s x : Operand)
    (ho : o.op = .call { callee := .builtin .append, args := #[s, x], argTypes := #[26, 26] }) (nv vv : Value) (k m : Nat) (N V : List Value) (p : ByteArray) (hs : a.eval s = vv) (T : Two w0 w nv vv k m N V)
    (g : Nat) (hg : g = w.heap.size) (hx : a.eval x = .slice (some ⟨g, 0, none⟩) 1 1) (hn : m ≤ 100)
    (h : ∀ v' w', Hid (Two w0 w' nv v' k (m + 1) N (V ++ [.string p])) → wpList Trym.prog ops Q rest (a.put o.dst v') w') :
    wpList Trym.prog ops Q (o :: rest) a (w.alloc (.cells #[.string p] 9)) := by
  obtain ⟨i0, hi, hz0, hz1, hz2⟩ := info_parts Trym.info9
  subst hg
  refine wpList_append_own_at _ hgd s x 26 ho w0.heap.size 9 i0 (.string ByteArray.empty) 1 16 Trym.underlying26 hi hz0 hz1 hz2 rfl (by decide) vv m V hs (T.ov.alloc _) ⟨w.heap.size, 0, none⟩ 1 1 [.string p] hx rfl
    (cell_one_new _ _ _) (by intro u hu; simp at hu; rcases hu with rfl; rfl) (by unfold maxLen; omega) (by omega) (by have := T.bel.size; simp; omega) ?_
  intro v' w' h1 h2 _ h4
  refine h v' w' ⟨(T.on.alloc _).kept h2 ?_, h1, ?_, (T.bel.alloc T.bel.size _).grown h2 (by have := T.bel.size; simp; omega) (fun k hk => (T.ov.lt k hk).1)⟩
  · cases hv : nv.ownBlock with
    | none => exact .inl rfl
    | some j => exact .inr fun e => T.ne j hv e.symm
  · intro j hj hv
    rcases h4 with h4 | h4
    · exact T.ne j hj (h4.symm.trans hv)
    · have := (T.on.lt j hj).2
      rw [h4] at hv
      simp at hv
      omega

/-- The first k of a family of strings. -/
def firsts (P : Nat → ByteArray) (k : Nat) : List Value := (List.range k).map fun i => .string (P i)
theorem firsts_succ (P : Nat → ByteArray) (k : Nat) : firsts P (k + 1) = firsts P k ++ [.string (P k)] := by simp [firsts, List.range_succ]
theorem firsts_at (P : Nat → ByteArray) (k i : Nat) (h : i < k) : (firsts P k)[i]? = some (.string (P i)) := by simp [firsts, h]

theorem two_start (w : World) : Two w w (.slice none 0 0) (.slice none 0 0) 0 0 [] [] := ⟨World.ownsRow_nil _ _ _ _, World.ownsRow_nil _ _ _ _, fun _ h => by simp [Value.ownBlock] at h, Below.refl _ _⟩

theorem two_end {w1 wr : World} {nv vv : Value} {P Q : Nat → ByteArray} {k n : Nat} (hk : k = n) (T : Two w1 wr nv vv k k (firsts P k) (firsts Q k)) (hn : 0 < n) :
    ∃ gn cn gv cv, nv = .slice (some ⟨gn, 0, none⟩) n cn ∧ vv = .slice (some ⟨gv, 0, none⟩) n cv ∧ (∀ i, i < n → wr.cell? ⟨gn, i, none⟩ = some (.string (P i))) ∧ (∀ i, i < n → wr.cell? ⟨gv, i, none⟩ = some (.string (Q i))) ∧ Below w1.heap.size w1 wr := by
  subst hk
  obtain ⟨gn, cn, rfl, _, _⟩ := own_shape T.on hn
  obtain ⟨gv, cv, rfl, _, _⟩ := own_shape T.ov hn
  exact ⟨gn, cn, gv, cv, rfl, rfl, fun i hi => (T.on.cellAt i (by omega)).trans (firsts_at _ _ i hi), fun i hi => (T.ov.cellAt i (by omega)).trans (firsts_at _ _ i hi), T.bel⟩

theorem Fl.later {w w1 : World} {pv : Value} {has fb : Bool} (h : Fl w pv has fb) (hb : Below w.heap.size w w1) : Fl w1 pv has fb := by
  rcases h with h | ⟨b, off, h1, h2, h3, h4⟩
  · exact .inl h
  · exact .inr ⟨b, off, h1, h2, Nat.lt_of_lt_of_le h3 hb.size, (hb.cell (p := ⟨b, off, none⟩) h3).trans h4⟩

set_option maxHeartbeats 1000000 in
theorem split_any (s0 s1 s2 s3 s4 s5 s6 s7 : ByteArray) (pv : Value) (e has fb : Bool) (w : World) (he : s7.toList.isEmpty = e) (hp : Fl w pv has fb) :
    Calls Trym.prog 6 #[.agg #[.string s0, .string s1, .string s2, .string s3, .string s4, .string s5, .string s6, .string s7, pv]] w fun en w' =>
      ∃ gn cn gv cv, en = .returned (.tuple #[.slice (some ⟨gn, 0, none⟩) (cnt e has) cn, .slice (some ⟨gv, 0, none⟩) (cnt e has) cv]) ∧
        (∀ i, i < cnt e has → w'.cell? ⟨gn, i, none⟩ = some (.string (nmOf (ix e i)))) ∧ (∀ i, i < cnt e has → w'.cell? ⟨gv, i, none⟩ = some (.string (vOf s0 s1 s2 s3 s4 s5 s6 s7 fb (ix e i)))) ∧ Below w.heap.size w w' := by
  have hn : 7 ≤ cnt e has ∧ cnt e has ≤ 9 := by cases e <;> cases has <;> decide
  have HE : Hid (s7.toList.isEmpty = e) := he
  have HP : Hid (Fl w pv has fb) := hp
  clear he hp
  go_enter Trym.func6, Trym.ntmps6
  go_wp2_with fail
  refine (fields_any s0 s1 s2 s3 s4 s5 s6 s7 pv e has fb _ HE.out (HP.out.later ((Below.refl _ _).alloc (Nat.le_refl _) _))).mono ?_
  rintro en w1 ⟨g, c, rfl, hg, hpr, hbel⟩
  have HB : Hid (Below w.heap.size w w1) := ((Below.refl _ _).alloc (Nat.le_refl _) _).trans (hbel.mono (by simp))
  have HPr : Hid (Pairs w1 g (cnt e has) (fun i => nmOf (ix e i)) (fun i => vOf s0 s1 s2 s3 s4 s5 s6 s7 fb (ix e i))) := hpr
  clear hbel hpr HE HP
  go_wp2_with fail
  go_loopw [2, 3, 5] (fun nv vv i wr => ∃ k : Nat, k ≤ cnt e has ∧ i = .int .i64 k ∧ Hid (Two w1 wr nv vv k k (firsts (fun i => nmOf (ix e i)) k) (firsts (fun i => vOf s0 s1 s2 s3 s4 s5 s6 s7 fb (ix e i)) k))) (fun _ _ i _ => cnt e has - (intOf i).toNat)
  case atStart => exact ⟨0, Nat.zero_le _, rfl, two_start w1⟩
  case round =>
    obtain ⟨k, hk, rfl, T⟩ := hrel
    by_cases hlt : k < cnt e has
    · have h1 : wr.cell? ⟨g, k * 2, none⟩ = some (.string (nmOf (ix e k))) := (T.out.bel.cell (p := ⟨g, k * 2, none⟩) hg).trans (HPr.out k hlt).1
      have hi : (k : Int) < (cnt e has : Int) := by omega
      go_wp2_with (first
        | (at_builtin; refine wp_name (w0 := w1) rfl (.tmp 14) (.tmp 20) rfl _ _ k k _ _ (nmOf (ix e k)) rfl T.out wr.heap.size rfl rfl (by omega) ?_; intro nv2 w2 T2; have h2 : w2.cell? ⟨g, k * 2 + 1, none⟩ = some (.string (vOf s0 s1 s2 s3 s4 s5 s6 s7 fb (ix e k))) := (T2.out.bel.cell (p := ⟨g, k * 2 + 1, none⟩) hg).trans (HPr.out k hlt).2)
        | (at_builtin; refine wp_val (w0 := w1) rfl (.tmp 22) (.tmp 28) rfl _ _ (k + 1) k _ _ (vOf s0 s1 s2 s3 s4 s5 s6 s7 fb (ix e k)) rfl T2.out w2.heap.size rfl rfl (by omega) ?_; intro vv3 w3 T3))
      go_roundw
      case rel => exact ⟨k + 1, by omega, by go_num, by rw [firsts_succ, firsts_succ]; exact T3⟩
      case measure => simp [intOf]; omega
    · go_wp2
      go_ret2
      obtain ⟨gn, cn, gv, cv, en, ev, c1, c2, hB⟩ := two_end (n := cnt e has) (by omega) T.out (by omega)
      exact ⟨gn, cn, gv, cv, by rw [en, ev]; rfl, c1, c2, HB.out.trans (hB.mono HB.out.size)⟩

end Go.Proofs.Qxb6601880aMods
