/-
  THE WALK of FnFieldsLookupRoundTrip (3): the flag is there.
-/
import Derived.Test.Qxb6601880aModsSplit
namespace Go.Proofs.Qxb6601880aMods
open Go.RowKit
set_option linter.unusedVariables false

theorem ret_bool {a : Bool} (h : a = true) : Ending.returned (.bool a) = .returned (.bool true) := by rw [h]
theorem text_true (s0 s1 s2 s3 s4 s5 s6 s7 : ByteArray) : ((vOf s0 s1 s2 s3 s4 s5 s6 s7 true 8).toList == [116, 114, 117, 101]) = true := by
  show ((boolText true).toList == [116, 114, 117, 101]) = true
  decide +kernel
theorem text_false (s0 s1 s2 s3 s4 s5 s6 s7 : ByteArray) : ((vOf s0 s1 s2 s3 s4 s5 s6 s7 false 8).toList == [102, 97, 108, 115, 101]) = true := by
  show ((boolText false).toList == [102, 97, 108, 115, 101]) = true
  decide +kernel

set_option maxRecDepth 100000 in
set_option maxHeartbeats 3200000 in
theorem law_some (s0 s1 s2 s3 s4 s5 s6 s7 : ByteArray) (e : Bool) (b off : Nat) (fb : Bool) (w : World) (h0 : s0.size ≤ maxLen) (h1 : s1.size ≤ maxLen) (h2 : s2.size ≤ maxLen) (h3 : s3.size ≤ maxLen) (h4 : s4.size ≤ maxLen) (h5 : s5.size ≤ maxLen) (h6 : s6.size ≤ maxLen) (h7 : s7.size ≤ maxLen)
    (he : s7.toList.isEmpty = e) (hb : b < w.heap.size) (hc : w.cell? ⟨b, off, none⟩ = some (.bool fb)) :
    Calls Trym.prog 3 #[.string s0, .string s1, .string s2, .string s3, .string s4, .string s5, .string s6, .string s7, .pointer (some ⟨b, off, none⟩)] w fun en w' => en = .returned (.bool true) ∧ Below w.heap.size w w' := by
  have Z := zz5_any s0 s1 s2 s3 s4 s5 s6 s7 (.pointer (some ⟨b, off, none⟩)) w h0 h1 h2 h3 h4 h5 h6 h7
  clear h0 h1 h2 h3 h4 h5 h6 h7
  have S := fun wx hx => split_any s0 s1 s2 s3 s4 s5 s6 s7 (.pointer (some ⟨w.heap.size, 0, none⟩)) e true fb wx he hx
  go_enter Trym.func3, Trym.ntmps3
  go_wp2_with fail
  refine Z.mono ?_
  rintro en w' ⟨⟨bb, rfl, hbb⟩, hw⟩
  subst hw
  clear Z
  cases bb
  · clear S hbb
    go_wp2
    go_ret
    exact ⟨rfl, Below.refl _ _⟩
  have hsum := hbb rfl
  clear hbb
  have g0 : (s0.size : Int) ≤ 1048576 := by omega
  have g1 : (s1.size : Int) ≤ 1048576 := by omega
  have g2 : (s2.size : Int) ≤ 1048576 := by omega
  have g3 : (s3.size : Int) ≤ 1048576 := by omega
  have g4 : (s4.size : Int) ≤ 1048576 := by omega
  have g5 : (s5.size : Int) ≤ 1048576 := by omega
  have g6 : (s6.size : Int) ≤ 1048576 := by omega
  have g7 : (s7.size : Int) ≤ 1048576 := by omega
  have d0 : decide ((1048576 : Int) < (s0.size : Int)) = false := by simp; omega
  have d1 : decide ((1048576 : Int) < (s1.size : Int)) = false := by simp; omega
  have d2 : decide ((1048576 : Int) < (s2.size : Int)) = false := by simp; omega
  have d3 : decide ((1048576 : Int) < (s3.size : Int)) = false := by simp; omega
  have d4 : decide ((1048576 : Int) < (s4.size : Int)) = false := by simp; omega
  have d5 : decide ((1048576 : Int) < (s5.size : Int)) = false := by simp; omega
  have d6 : decide ((1048576 : Int) < (s6.size : Int)) = false := by simp; omega
  have d7 : decide ((1048576 : Int) < (s7.size : Int)) = false := by simp; omega
  have ds : decide ((1048576 : Int) < (s0.size : Int) + (s1.size : Int) + (s2.size : Int) + (s3.size : Int) + (s4.size : Int) + (s5.size : Int) + (s6.size : Int) + (s7.size : Int)) = false := by simp; omega
  have HS : Hid (∀ wx : World, Fl wx (.pointer (some ⟨w.heap.size, 0, none⟩)) true fb → _) := S
  clear S
  have hne : ((cnt e true : Int) != (cnt e true : Int)) = false := by simp
  have hcb := cnt_bounds e true
  go_wp2_with fail
  refine (HS.out _ (.inr ⟨w.heap.size, 0, rfl, rfl, by simp; omega, by go_simp⟩)).mono ?_
  rintro en w1 ⟨gn, cn, gv, cv, rfl, hN, hV, hB⟩
  have L : Lists w1 gn gv e true (vOf s0 s1 s2 s3 s4 s5 s6 s7 fb) := ⟨hN, hV⟩
  have HB : Hid (Below w.heap.size w w1) := (below_two w _ _).trans (hB.mono (by simp; omega))
  have hfl : w1.cell? ⟨w.heap.size, 0, none⟩ = some (.bool fb) := (hB.cell (p := ⟨w.heap.size, 0, none⟩) (by simp; omega)).trans (by go_simp)
  clear HS hN hV hB
  go_wp2_with fail
  go_loop [23, 24] (fun pv i => ∃ k : Nat, k ≤ cnt e true ∧ i = .int .i64 k ∧ pv = .int .i64 (pr e k)) (fun _ i => cnt e true - (intOf i).toNat)
  case atStart => exact ⟨0, Nat.zero_le _, rfl, rfl⟩
  case round =>
    obtain ⟨k, hk, rfl, rfl⟩ := hrel
    by_cases hlt : k < cnt e true
    · have hc := L.names k hlt
      have hp : ¬ ((ix e k : Int) ≤ pr e k) := by have := pr_lt e true k hlt; omega
      have hi : (k : Int) < (cnt e true : Int) := by omega
      have hx := ix_lt e true k hlt
      have hps := pr_succ e k
      have HPS : Hid (pr e (k + 1) = (ix e k : Int)) := hps
      clear hps
      go_wp2_with (go_at_call 7; refine (member (ix e k) hx _).mono ?_; rintro en w' ⟨rfl, rfl⟩)
      go_round
      case rel => exact ⟨k + 1, by omega, by go_num, by rw [HPS.out]⟩
      case measure => simp [intOf]; omega
    · go_wp2_with fail
      refine (is_low L cn cv 0 (by omega)).mono ?_
      rintro en w' ⟨rfl, rfl⟩
      go_wp2_with fail
      refine (is_low L cn cv 1 (by omega)).mono ?_
      rintro en w' ⟨rfl, rfl⟩
      go_wp2_with fail
      refine (is_low L cn cv 2 (by omega)).mono ?_
      rintro en w' ⟨rfl, rfl⟩
      go_wp2_with fail
      refine (is_low L cn cv 3 (by omega)).mono ?_
      rintro en w' ⟨rfl, rfl⟩
      go_wp2_with fail
      refine (is_low L cn cv 4 (by omega)).mono ?_
      rintro en w' ⟨rfl, rfl⟩
      go_wp2_with fail
      refine (is_low L cn cv 5 (by omega)).mono ?_
      rintro en w' ⟨rfl, rfl⟩
      go_wp2_with fail
      refine (is_low L cn cv 6 (by omega)).mono ?_
      rintro en w' ⟨rfl, rfl⟩
      go_wp2_with fail
      refine (is_udh L cn cv).mono ?_
      rintro en w' ⟨rfl, rfl⟩
      go_wp2_with fail
      refine (flash_hit L cn cv).mono ?_
      rintro en w' ⟨rfl, rfl⟩
      go_wp2
      · go_ret
        exact ⟨ret_bool (text_true s0 s1 s2 s3 s4 s5 s6 s7), HB⟩
      · go_ret
        exact ⟨ret_bool (text_false s0 s1 s2 s3 s4 s5 s6 s7), HB⟩

end Go.Proofs.Qxb6601880aMods
