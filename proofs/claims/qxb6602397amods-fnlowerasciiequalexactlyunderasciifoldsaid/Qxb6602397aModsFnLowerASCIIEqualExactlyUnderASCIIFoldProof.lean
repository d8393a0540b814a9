/-
  THE SHELL OF A PROOF OF 'Rows.FnLowerASCIIEqualExactlyUnderASCIIFoldSaid' ('example.com/wardkey/wardkey/zzlaws_root_b1.FnLowerASCIIEqualExactlyUnderASCIIFold'), WRITTEN BY PROGRAM (proof-skeleton.mjs) off the guide's own print for that function.
  The walk is filled in; the world's word is 'Below' in the place of 'Grown' (the row that a []byte conversion lays bears a mark behind its last cell), so the row's last step is the slices' shell's.
-/
import Derived.Test.Qxb6602397aModsRows
import Derived.WalkKit
import Derived.ProofKit
import Derived.OpenShut
import Derived.ShutString
import Derived.ChangeOld
import Derived.Below
import Derived.Test.Qxb6602397aModsFold
namespace Go.Proofs.Qxb6602397aMods.fnLowerASCIIEqualExactlyUnderASCIIFold
open Go.ChangeShapes Go.WideShapes Go.ChangeAt Go.RowKit
open Go.ChangeMaps (open_string shut_string)
set_option linter.unusedVariables false      -- a walk need not use every 'w<i>' (that an integer argument fits its kind)

theorem own : ownKnob Trym.prog.godebug = none := by kernel_rfl
theorem laidOut : laidOutB Trym.prog = true := by kernel_rfl

/-! ### STEP 1: THE WALK -/
set_option maxHeartbeats 1000000 in
theorem walk (a0 : ByteArray) (a1 : ByteArray) (w0 : a0.size ≤ maxLen) (w1 : a1.size ≤ maxLen) (w : World) :
    Calls Trym.prog 4 #[.string a0, .string a1] w fun e w' => e = .returned (.bool true) ∧ Below w.heap.size w w' := by
  have Z := zz9_any a0 a1 w w0 w1
  unfold maxLen at w0 w1
  have HL : Hid ((((lowS a0).toList == (lowS a1).toList) == foldB a0 a1) = true) := law a0 a1
  go_enter Trym.func4, Trym.ntmps4
  go_wp2_with fail
  refine Z.mono ?_
  rintro en w' ⟨⟨bb, rfl, hbb⟩, hw⟩
  subst hw
  clear Z
  cases bb
  · go_wp2
    go_ret
    exact ⟨rfl, Below.refl _ _⟩
  have hs := hbb rfl
  clear hbb
  have g0 : (a0.size : Int) ≤ 1048576 := by omega
  have g1 : (a1.size : Int) ≤ 1048576 := by omega
  have d0 : decide ((1048576 : Int) < (a0.size : Int)) = false := by simp; omega
  have d1 : decide ((1048576 : Int) < (a1.size : Int)) = false := by simp; omega
  have d2 : decide ((1048576 : Int) < (a0.size : Int) + (a1.size : Int)) = false := by simp; omega
  go_wp2_with fail
  refine (zzlower a0 _ (by omega)).mono ?_
  rintro en w2 ⟨rfl, B2⟩
  have HB2 : Hid (Below w.heap.size w w2) := B2
  clear B2
  go_wp2_with fail
  refine (zzlower a1 _ (by omega)).mono ?_
  rintro en w3 ⟨rfl, B3⟩
  have HB3 : Hid (Below w.heap.size w w3) := HB2.out.trans (B3.mono HB2.out.size)
  clear B3 HB2
  go_wp2_with fail
  refine (fold a0 a1 _ (by omega) (by omega)).mono ?_
  rintro en w4 ⟨rfl, hw4⟩
  subst w4
  go_wp2
  go_ret
  exact ⟨ret_b HL.out, HB3⟩

/-! ### THE ROW's STEP -/
set_option maxRecDepth 100000 in
theorem lifted (os : Os) (started : os.Started) (H : Type) (enc : TypeId × Value → H) :
    ReturnsInHanded {} Trym.checked os 4 .any (Rows.fnLowerASCIIEqualExactlyUnderASCIIFoldSpec.pre6 enc Trym.prog Trym.f4 Rows.fnLowerASCIIEqualExactlyUnderASCIIFoldRow.domain false) (Rows.fnLowerASCIIEqualExactlyUnderASCIIFoldSpec.post enc Trym.prog Trym.f4 false true false false) := by
  refine returnsInHanded_of_change (C := Trym.checked) own started (by kernel_rfl) Trym.func4
    (ChangeSpec.witness6 (enc := enc) (C := Trym.checked) false ⟨#[], #[.string ByteArray.empty, .string ByteArray.empty], []⟩ 8 (by kernel_rfl) (by kernel_rfl) (by kernel_rfl) (by kernel_rfl)) ?_
  intro W base args ds gs before hval0 hW hcnd _
  have hval : ∀ (j : Nat) t v, Trym.f4.params[j]? = some t → args[j]? = some v → Value.okWide Trym.prog W .any base t v := hval0
  have hW' := hW
  obtain ⟨p, q, hA0, hV, rfl, hfz, hnd⟩ := hW
  have hA : DataW.TrodAll enc Trym.prog W 0 (fun _ => true) true Trym.f4.params.toList args.toList ds p := hA0
  rw [Trym.params4] at hA hval
  obtain ⟨v0, vs0, d0, ds0, p0, q0, hargs, rfl, rfl, h0, r0⟩ := trodAll_cons hA
  obtain ⟨v1, vs1, d1, ds1, p1, q1, rfl, rfl, rfl, h1, r1⟩ := trodAll_cons r0
  obtain ⟨rfl, rfl, rfl⟩ := trodAll_nil r1
  obtain rfl : args = #[v0, v1] := by cases args; simp_all
  obtain ⟨rfl, rfl⟩ := trodVars_none hV
  have k0 := h0
  have lt0 : ∀ x ∈ p0, x.block < W.heap.size := by obtain ⟨m, hm⟩ := k0; exact DataW.trod_lt m _ _ _ hm
  obtain ⟨a0, rfl, rfl, rfl, w0⟩ := open_string Trym.underlying9 (hval 0 9 v0 rfl rfl) h0
  have k1 := h1
  have lt1 : ∀ x ∈ p1, x.block < W.heap.size := by obtain ⟨m, hm⟩ := k1; exact DataW.trod_lt m _ _ _ hm
  obtain ⟨a1, rfl, rfl, rfl, w1⟩ := open_string Trym.underlying9 (hval 1 9 v1 rfl rfl) h1
  clear hA0 hval0
  refine (walk a0 a1 w0 w1 W).mono fun e W' ⟨he, bel⟩ => ?_
  subst he
  exact ⟨_, rfl, _, _, _, [], _, [], hW', trodAll_mk1 (shut_bool Trym.underlying4 _), (trodAll_cons_mk (Below.trod laidOut (by kernel_rfl) (of_decide_eq_true (by kernel_rfl)) k0 bel lt0) (trodAll_cons_mk (Below.trod laidOut (by kernel_rfl) (of_decide_eq_true (by kernel_rfl)) k1 bel lt1) trodAll_mk0)), rfl, bel.frame _, fun h => by cases h⟩

theorem over : Rows.fnLowerASCIIEqualExactlyUnderASCIIFoldRow.holds Trym.pinned (OpenSpec.ofChange Rows.fnLowerASCIIEqualExactlyUnderASCIIFoldSpec) :=
  OpenClaim.holds_of_wide 4 Trym.f4 rfl rfl rfl rfl rfl rfl rfl ⟨rfl, rfl, rfl, rfl, rfl⟩ rfl rfl rfl rfl rfl (by kernel_rfl) Trym.func4 (by kernel_rfl)
    (of_decide_eq_true (by kernel_rfl)) (by unfold Func.isWrapper; first | (rw [if_pos (by decide +kernel)]; kernel_rfl) | (rw [if_neg (by decide +kernel)]; exact ⟨rfl, rfl⟩))
    (fun os started H enc _ => lifted os started H enc)

/-- ████ THE STATEMENT ████ -/
theorem proved : Rows.FnLowerASCIIEqualExactlyUnderASCIIFoldSaid :=
  over
#print axioms proved
end Go.Proofs.Qxb6602397aMods.fnLowerASCIIEqualExactlyUnderASCIIFold
