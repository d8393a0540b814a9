/-
  THE WALK of FnFieldsLookupRoundTrip (3).
-/
import Derived.Test.Qxb6601880aModsSplit
namespace Go.Proofs.Qxb6601880aMods
open Go.RowKit
set_option linter.unusedVariables false

set_option maxRecDepth 100000 in
set_option maxHeartbeats 3200000 in
theorem law_nil (s0 s1 s2 s3 s4 s5 s6 s7 : ByteArray) (e : Bool) (w : World) (h0 : s0.size ≤ maxLen) (h1 : s1.size ≤ maxLen) (h2 : s2.size ≤ maxLen) (h3 : s3.size ≤ maxLen) (h4 : s4.size ≤ maxLen) (h5 : s5.size ≤ maxLen) (h6 : s6.size ≤ maxLen) (h7 : s7.size ≤ maxLen)
    (he : s7.toList.isEmpty = e) :
    Calls Trym.prog 3 #[.string s0, .string s1, .string s2, .string s3, .string s4, .string s5, .string s6, .string s7, .pointer none] w fun en w' => en = .returned (.bool true) ∧ Below w.heap.size w w' := by
  have Z := zz5_any s0 s1 s2 s3 s4 s5 s6 s7 (.pointer none) w h0 h1 h2 h3 h4 h5 h6 h7
  clear h0 h1 h2 h3 h4 h5 h6 h7
  have S := fun wx => split_any s0 s1 s2 s3 s4 s5 s6 s7 (.pointer none) e false false wx he (.inl ⟨rfl, rfl⟩)
  go_enter Trym.func3, Trym.ntmps3
  go_wp2_with fail
  refine Z.mono ?_
  rintro en w' ⟨⟨bb, rfl, hbb⟩, hw⟩
  subst hw
  clear Z
  cases bb
  · clear S hbb
    go_wp2
    go_ret
    exact ⟨rfl, Below.refl _ _⟩
  have hsum := hbb rfl
  clear hbb
  have g0 : (s0.size : Int) ≤ 1048576 := by omega
  have g1 : (s1.size : Int) ≤ 1048576 := by omega
  have g2 : (s2.size : Int) ≤ 1048576 := by omega
  have g3 : (s3.size : Int) ≤ 1048576 := by omega
  have g4 : (s4.size : Int) ≤ 1048576 := by omega
  have g5 : (s5.size : Int) ≤ 1048576 := by omega
  have g6 : (s6.size : Int) ≤ 1048576 := by omega
  have g7 : (s7.size : Int) ≤ 1048576 := by omega
  have d0 : decide ((1048576 : Int) < (s0.size : Int)) = false := by simp; omega
  have d1 : decide ((1048576 : Int) < (s1.size : Int)) = false := by simp; omega
  have d2 : decide ((1048576 : Int) < (s2.size : Int)) = false := by simp; omega
  have d3 : decide ((1048576 : Int) < (s3.size : Int)) = false := by simp; omega
  have d4 : decide ((1048576 : Int) < (s4.size : Int)) = false := by simp; omega
  have d5 : decide ((1048576 : Int) < (s5.size : Int)) = false := by simp; omega
  have d6 : decide ((1048576 : Int) < (s6.size : Int)) = false := by simp; omega
  have d7 : decide ((1048576 : Int) < (s7.size : Int)) = false := by simp; omega
  have ds : decide ((1048576 : Int) < (s0.size : Int) + (s1.size : Int) + (s2.size : Int) + (s3.size : Int) + (s4.size : Int) + (s5.size : Int) + (s6.size : Int) + (s7.size : Int)) = false := by simp; omega
  have HS : Hid (∀ wx : World, _) := S
  clear S
  have hne : ((cnt e false : Int) != (cnt e false : Int)) = false := by simp
  have hcb := cnt_bounds e false
  go_wp2_with fail
  refine (HS.out _).mono ?_
  rintro en w1 ⟨gn, cn, gv, cv, rfl, hN, hV, hB⟩
  have L : Lists w1 gn gv e false (vOf s0 s1 s2 s3 s4 s5 s6 s7 false) := ⟨hN, hV⟩
  have HB : Hid (Below w.heap.size w w1) := ((Below.refl _ _).alloc (Nat.le_refl _) _).trans (hB.mono (by simp))
  clear HS hN hV hB
  go_wp2_with fail
  go_loop [23, 24] (fun pv i => ∃ k : Nat, k ≤ cnt e false ∧ i = .int .i64 k ∧ pv = .int .i64 (pr e k)) (fun _ i => cnt e false - (intOf i).toNat)
  case atStart => exact ⟨0, Nat.zero_le _, rfl, rfl⟩
  case round =>
    obtain ⟨k, hk, rfl, rfl⟩ := hrel
    by_cases hlt : k < cnt e false
    · have hc := L.names k hlt
      have hp : ¬ ((ix e k : Int) ≤ pr e k) := by have := pr_lt e false k hlt; omega
      have hi : (k : Int) < (cnt e false : Int) := by omega
      have hx := ix_lt e false k hlt
      have hps := pr_succ e k
      have HPS : Hid (pr e (k + 1) = (ix e k : Int)) := hps
      clear hps
      go_wp2_with (go_at_call 7; refine (member (ix e k) hx _).mono ?_; rintro en w' ⟨rfl, rfl⟩)
      go_round
      case rel => exact ⟨k + 1, by omega, by go_num, by rw [HPS.out]⟩
      case measure => simp [intOf]; omega
    · go_wp2_with fail
      refine (is_low L cn cv 0 (by omega)).mono ?_
      rintro en w' ⟨rfl, rfl⟩
      go_wp2_with fail
      refine (is_low L cn cv 1 (by omega)).mono ?_
      rintro en w' ⟨rfl, rfl⟩
      go_wp2_with fail
      refine (is_low L cn cv 2 (by omega)).mono ?_
      rintro en w' ⟨rfl, rfl⟩
      go_wp2_with fail
      refine (is_low L cn cv 3 (by omega)).mono ?_
      rintro en w' ⟨rfl, rfl⟩
      go_wp2_with fail
      refine (is_low L cn cv 4 (by omega)).mono ?_
      rintro en w' ⟨rfl, rfl⟩
      go_wp2_with fail
      refine (is_low L cn cv 5 (by omega)).mono ?_
      rintro en w' ⟨rfl, rfl⟩
      go_wp2_with fail
      refine (is_low L cn cv 6 (by omega)).mono ?_
      rintro en w' ⟨rfl, rfl⟩
      go_wp2_with fail
      refine (is_udh L cn cv).mono ?_
      rintro en w' ⟨rfl, rfl⟩
      go_wp2_with fail
      refine (flash_miss L cn cv).mono ?_
      rintro en w' ⟨rfl, rfl⟩
      go_wp2
      go_ret
      exact ⟨rfl, HB⟩

end Go.Proofs.Qxb6601880aMods
