/-
  THE SHELL OF A PROOF OF 'Rows.FnIsPHCNameMatchesAlphabetModelSaid' ('example.com/saltwright/saltwright/zzlaws_root_b1.FnIsPHCNameMatchesAlphabetModel'), WRITTEN BY PROGRAM (proof-skeleton.mjs) off the guide's own print for that function.
  The walk is filled in; the world's word is 'Below' in the place of 'Grown' (the row that a []byte conversion lays bears a mark behind its last cell), so the row's last step is the slices' shell's.
-/
import Derived.Test.Qxb6602129aModsRows
import Derived.WalkKit
import Derived.ProofKit
import Derived.OpenShut
import Derived.ShutString
import Derived.ChangeOld
import Derived.Below
import Derived.Test.Qxb6602129aModsBase
namespace Go.Proofs.Qxb6602129aMods.fnIsPHCNameMatchesAlphabetModel
open Go.ChangeShapes Go.WideShapes Go.ChangeAt Go.RowKit
open Go.ChangeMaps (open_string shut_string)
set_option linter.unusedVariables false      -- a walk need not use every 'w<i>' (that an integer argument fits its kind)

theorem own : ownKnob Trym.prog.godebug = none := by kernel_rfl
theorem laidOut : laidOutB Trym.prog = true := by kernel_rfl

/-! ### STEP 1: THE WALK -/
set_option maxHeartbeats 1000000 in
theorem walk_mid (s : ByteArray) (w : World) (h1 : 1 ≤ s.size) (h2 : s.size ≤ 32) :
    Calls Trym.prog 3 #[.string s] w fun e w' => e = .returned (.bool true) ∧ Below w.heap.size w w' := by
  have Z := zz6_any s w (by unfold maxLen; omega)
  have S := fun wx => zzisphc s wx (by omega)
  have HS : Hid (∀ wx : World, _) := S
  have HN : Hid (nameB s = allTo s s.size) := nameB_mid s h1 h2
  clear S
  have d0 : decide ((1048576 : Int) < (s.size : Int)) = false := by simp; omega
  have d1 : decide ((1 : Int) ≤ (s.size : Int)) = true := by simp; omega
  have d2 : decide ((s.size : Int) ≤ 32) = true := by simp; omega
  go_enter Trym.func3, Trym.ntmps3
  go_wp2_with fail
  refine Z.mono ?_
  rintro en w' ⟨⟨bb, rfl, _⟩, hw⟩
  subst hw
  clear Z
  cases bb
  · go_wp2
    go_ret
    exact ⟨rfl, Below.refl _ _⟩
  go_wp2_with fail
  go_loop [3, 4] (fun v i => ∃ k : Nat, k ≤ s.size ∧ i = .int .i64 k ∧ v = .bool (allTo s k)) (fun _ i => s.size - (intOf i).toNat)
  case atStart => exact ⟨0, Nat.zero_le _, rfl, by rw [allTo_zero]⟩
  case round =>
    obtain ⟨k, hk, rfl, rfl⟩ := hrel
    cases ha : allTo s k with
    | false =>
      have HA : Hid (nameB s = false) := by show nameB s = false; rw [HN.out]; exact allTo_false s k hk ha
      clear ha
      go_wp2_with fail
      refine (HS.out _).mono ?_
      rintro en w1 ⟨rfl, hB⟩
      have HB : Hid (Below w.heap.size w w1) := hB
      clear hB HS
      go_wp2
      go_ret
      exact ⟨ret_b (by rw [HA.out]; rfl), HB⟩
    | true =>
      have HT : Hid (allTo s k = true) := ha
      clear ha
      by_cases hlt : k < s.size
      · have hi : (k : Int) < (s.size : Int) := by omega
        have hc : (((s[k]'hlt).toNat : Nat) : Int) ≤ 255 := by have := UInt8.toNat_lt (s[k]'hlt); omega
        have HK : Hid (allTo s (k + 1) = okB ((s[k]'hlt).toNat : Int)) := by show _ = _; rw [allTo_succ s k hlt, HT.out]; rfl
        cases ho : okB ((s[k]'hlt).toNat : Int) with
        | true =>
          go_wp2_with (go_at_call 7; refine (allowed _ _ (by omega) hc).mono ?_; rintro en w' ⟨rfl, rfl⟩)
          go_round
          case rel => exact ⟨k + 1, by omega, by go_num, by rw [HK.out, ho]⟩
          case measure => simp [intOf]; omega
        | false =>
          go_wp2_with (go_at_call 7; refine (allowed _ _ (by omega) hc).mono ?_; rintro en w' ⟨rfl, rfl⟩)
          go_round
          case rel => exact ⟨k + 1, by omega, by go_num, by rw [HK.out, ho]⟩
          case measure => simp [intOf]; omega
      · have hi : decide ((k : Int) < (s.size : Int)) = false := by simp; omega
        have HA : Hid (nameB s = true) := by
          show nameB s = true
          have hke : k = s.size := by omega
          rw [HN.out, ← hke, HT.out]
        go_wp2_with fail
        refine (HS.out _).mono ?_
        rintro en w1 ⟨rfl, hB⟩
        have HB : Hid (Below w.heap.size w w1) := hB
        clear hB HS
        go_wp2
        go_ret
        exact ⟨ret_b (by rw [HA.out]), HB⟩

set_option maxHeartbeats 1000000 in
theorem walk_out (s : ByteArray) (w : World) (hm : s.size ≤ maxLen) (h : s.size = 0 ∨ 32 < s.size) :
    Calls Trym.prog 3 #[.string s] w fun e w' => e = .returned (.bool true) ∧ Below w.heap.size w w' := by
  have Z := zz6_any s w hm
  have S := fun (hs : s.size ≤ 1048576) wx => zzisphc s wx hs
  have HN : Hid (nameB s = false) := by
    rcases h with h | h
    · exact nameB_short s h
    · exact nameB_long s h
  have key : (decide ((1 : Int) ≤ (s.size : Int)) = false) ∨ (decide ((1 : Int) ≤ (s.size : Int)) = true ∧ decide ((s.size : Int) ≤ 32) = false) := by
    rcases h with h | h
    · exact .inl (by simp; omega)
    · exact .inr ⟨by simp; omega, by simp; omega⟩
  have HS : Hid (s.size ≤ 1048576 → ∀ wx : World, _) := S
  clear S h
  unfold maxLen at hm
  rcases key with d1 | ⟨d1, d2⟩
  all_goals
    go_enter Trym.func3, Trym.ntmps3
    go_wp2_with fail
    refine Z.mono ?_
    rintro en w' ⟨⟨bb, rfl, hbb⟩, hw⟩
    subst hw
    clear Z
    cases bb
    · go_wp2
      go_ret
      exact ⟨rfl, Below.refl _ _⟩
    have hs := hbb rfl
    clear hbb
    have d0 : decide ((1048576 : Int) < (s.size : Int)) = false := by simp; omega
    go_wp2_with fail
    refine wp_loop_rounds 1 ?_
    rw [rounds_succ]
    go_wp2_with fail
    refine (HS.out hs _).mono ?_
    rintro en w1 ⟨rfl, hB⟩
    have HB : Hid (Below w.heap.size w w1) := hB
    clear hB HS
    go_wp2
    go_ret
    exact ⟨ret_b (by rw [HN.out]; rfl), HB⟩

theorem walk (a0 : ByteArray) (w0 : a0.size ≤ maxLen) (w : World) :
    Calls Trym.prog 3 #[.string a0] w fun e w' => e = .returned (.bool true) ∧ Below w.heap.size w w' := by
  by_cases h : 1 ≤ a0.size ∧ a0.size ≤ 32
  · exact walk_mid a0 w h.1 h.2
  · exact walk_out a0 w w0 (by omega)

/-! ### THE ROW's STEP -/
set_option maxRecDepth 100000 in
theorem lifted (os : Os) (started : os.Started) (H : Type) (enc : TypeId × Value → H) :
    ReturnsInHanded {} Trym.checked os 3 .any (Rows.fnIsPHCNameMatchesAlphabetModelSpec.pre6 enc Trym.prog Trym.f3 Rows.fnIsPHCNameMatchesAlphabetModelRow.domain false) (Rows.fnIsPHCNameMatchesAlphabetModelSpec.post enc Trym.prog Trym.f3 false true false false) := by
  refine returnsInHanded_of_change (C := Trym.checked) own started (by kernel_rfl) Trym.func3
    (ChangeSpec.witness6 (enc := enc) (C := Trym.checked) false ⟨#[], #[.string ByteArray.empty], []⟩ 8 (by kernel_rfl) (by kernel_rfl) (by kernel_rfl) (by kernel_rfl)) ?_
  intro W base args ds gs before hval0 hW hcnd _
  have hval : ∀ (j : Nat) t v, Trym.f3.params[j]? = some t → args[j]? = some v → Value.okWide Trym.prog W .any base t v := hval0
  have hW' := hW
  obtain ⟨p, q, hA0, hV, rfl, hfz, hnd⟩ := hW
  have hA : DataW.TrodAll enc Trym.prog W 0 (fun _ => true) true Trym.f3.params.toList args.toList ds p := hA0
  rw [Trym.params3] at hA hval
  obtain ⟨v0, vs0, d0, ds0, p0, q0, hargs, rfl, rfl, h0, r0⟩ := trodAll_cons hA
  obtain ⟨rfl, rfl, rfl⟩ := trodAll_nil r0
  obtain rfl : args = #[v0] := by cases args; simp_all
  obtain ⟨rfl, rfl⟩ := trodVars_none hV
  have k0 := h0
  have lt0 : ∀ x ∈ p0, x.block < W.heap.size := by obtain ⟨m, hm⟩ := k0; exact DataW.trod_lt m _ _ _ hm
  obtain ⟨a0, rfl, rfl, rfl, w0⟩ := open_string Trym.underlying9 (hval 0 9 v0 rfl rfl) h0
  clear hA0 hval0
  refine (walk a0 w0 W).mono fun e W' ⟨he, bel⟩ => ?_
  subst he
  exact ⟨_, rfl, _, _, _, [], _, [], hW', trodAll_mk1 (shut_bool Trym.underlying4 _), (trodAll_cons_mk (Below.trod laidOut (by kernel_rfl) (of_decide_eq_true (by kernel_rfl)) k0 bel lt0) trodAll_mk0), rfl, bel.frame _, fun h => by cases h⟩

theorem over : Rows.fnIsPHCNameMatchesAlphabetModelRow.holds Trym.pinned (OpenSpec.ofChange Rows.fnIsPHCNameMatchesAlphabetModelSpec) :=
  OpenClaim.holds_of_wide 3 Trym.f3 rfl rfl rfl rfl rfl rfl rfl ⟨rfl, rfl, rfl, rfl, rfl⟩ rfl rfl rfl rfl rfl (by kernel_rfl) Trym.func3 (by kernel_rfl)
    (of_decide_eq_true (by kernel_rfl)) (by unfold Func.isWrapper; first | (rw [if_pos (by decide +kernel)]; kernel_rfl) | (rw [if_neg (by decide +kernel)]; exact ⟨rfl, rfl⟩))
    (fun os started H enc _ => lifted os started H enc)

/-- ████ THE STATEMENT ████ -/
theorem proved : Rows.FnIsPHCNameMatchesAlphabetModelSaid :=
  over
#print axioms proved
end Go.Proofs.Qxb6602129aMods.fnIsPHCNameMatchesAlphabetModel
