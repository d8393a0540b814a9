/-
  THE SHELL OF A PROOF OF 'Rows.FnLowerASCIIMatchesLetterTableSaid' ('example.com/wardkey/wardkey/zzlaws_root_b1.FnLowerASCIIMatchesLetterTable'), WRITTEN BY PROGRAM (proof-skeleton.mjs) off the guide's own print for that function.
  The walk is filled in; the world's word is 'Below' in the place of 'Grown' (the row that a []byte conversion lays bears a mark behind its last cell), so the row's last step is the slices' shell's.
-/
import Derived.Test.Qxb6602397aModsRows
import Derived.WalkKit
import Derived.ProofKit
import Derived.OpenShut
import Derived.ShutString
import Derived.ChangeOld
import Derived.Below
import Derived.Deep.QuietTactic
import Derived.BigQuiet
import Derived.Test.Qxb6602397aModsBase
namespace Go.Proofs.Qxb6602397aMods.fnLowerASCIIMatchesLetterTable
open Go.ChangeShapes Go.WideShapes Go.ChangeAt Go.RowKit
open Go.ChangeMaps (open_string shut_string)
set_option linter.unusedVariables false      -- a walk need not use every 'w<i>' (that an integer argument fits its kind)

theorem own : ownKnob Trym.prog.godebug = none := by kernel_rfl
theorem laidOut : laidOutB Trym.prog = true := by kernel_rfl

/-! ### STEP 1: THE WALK -/
theorem same_byte (s : ByteArray) (k : Nat) (h : k < s.size) (h' : k < (lowS s).size) : (((((lowS s)[k]'h').toNat : Nat) : Int) != lowI (((s[k]'h).toNat : Nat) : Int)) = false := by
  rw [← sb_eq, ← sb_eq, sb_lowS s k h, low_toNat]
  simp

set_option maxHeartbeats 1000000 in
theorem walk (a0 : ByteArray) (w0 : a0.size ≤ maxLen) (w : World) :
    Calls Trym.prog 3 #[.string a0] w fun e w' => e = .returned (.bool true) ∧ Below w.heap.size w w' := by
  have Z := zz6_any a0 w w0
  have S := fun (hs : a0.size ≤ 1048576) wx => zzlower a0 wx hs
  have HS : Hid (a0.size ≤ 1048576 → ∀ wx : World, _) := S
  clear S
  unfold maxLen at w0
  obtain ⟨t, ht⟩ : ∃ t, t = lowS a0 := ⟨_, rfl⟩
  have hsz : ((t.size : Int) != (a0.size : Int)) = false := by rw [ht, size_lowS]; simp
  have hsz2 : (t.size : Int) ≤ (a0.size : Int) ∧ (a0.size : Int) ≤ (t.size : Int) := by rw [ht, size_lowS]; omega
  obtain ⟨hz1, hz2⟩ := hsz2
  have HE : Hid (∀ k (h : k < a0.size) (h' : k < t.size), ((((t[k]'h').toNat : Nat) : Int) != lowI (((a0[k]'h).toNat : Nat) : Int)) = false) := by
    subst ht
    exact fun k h h' => same_byte a0 k h h'
  rw [← ht] at HS
  clear ht
  go_enter Trym.func3, Trym.ntmps3
  go_wp2_with fail
  refine Z.mono ?_
  rintro en w' ⟨⟨bb, rfl, hbb⟩, hw⟩
  subst hw
  clear Z
  cases bb
  · go_wp2
    go_ret
    exact ⟨rfl, Below.refl _ _⟩
  have hs := hbb rfl
  clear hbb
  have d0 : decide ((1048576 : Int) < (a0.size : Int)) = false := by simp; omega
  go_wp2_with fail
  refine (HS.out hs _).mono ?_
  rintro en w1 ⟨rfl, hB⟩
  have HB : Hid (Below w.heap.size w w1) := hB
  clear hB HS
  go_wp2_with fail
  go_loopw [4] (fun i wr => ∃ k : Nat, k ≤ a0.size ∧ i = .int .i64 k ∧ Hid (Below w.heap.size w wr)) (fun i _ => a0.size - (intOf i).toNat)
  case atStart => exact ⟨0, Nat.zero_le _, rfl, HB⟩
  case round =>
    obtain ⟨k, hk, rfl, qB⟩ := hrel
    by_cases hlt : k < a0.size
    · have hlt2 : k < t.size := by omega
      have hi : (k : Int) < (a0.size : Int) := by omega
      have hi2 : (k : Int) < (t.size : Int) := by omega
      have hc : (((a0[k]'hlt).toNat : Nat) : Int) ≤ 255 := by have := UInt8.toNat_lt (a0[k]'hlt); omega
      have he := HE.out k hlt hlt2
      go_wp2
      go_quiet ((go_at_call 8; exact Calls.quiet_of_same (lowerOf _ _ (by omega) hc)))
      go_wp2
      go_roundw
      case rel => exact ⟨k + 1, by omega, by go_num, below_drewN qB.out _⟩
      case measure => simp [intOf]; omega
    · go_wp2
      go_ret
      exact ⟨rfl, qB⟩

/-! ### THE ROW's STEP -/
set_option maxRecDepth 100000 in
theorem lifted (os : Os) (started : os.Started) (H : Type) (enc : TypeId × Value → H) :
    ReturnsInHanded {} Trym.checked os 3 .any (Rows.fnLowerASCIIMatchesLetterTableSpec.pre6 enc Trym.prog Trym.f3 Rows.fnLowerASCIIMatchesLetterTableRow.domain false) (Rows.fnLowerASCIIMatchesLetterTableSpec.post enc Trym.prog Trym.f3 false true false false) := by
  refine returnsInHanded_of_change (C := Trym.checked) own started (by kernel_rfl) Trym.func3
    (ChangeSpec.witness6 (enc := enc) (C := Trym.checked) false ⟨#[], #[.string ByteArray.empty], []⟩ 8 (by kernel_rfl) (by kernel_rfl) (by kernel_rfl) (by kernel_rfl)) ?_
  intro W base args ds gs before hval0 hW hcnd _
  have hval : ∀ (j : Nat) t v, Trym.f3.params[j]? = some t → args[j]? = some v → Value.okWide Trym.prog W .any base t v := hval0
  have hW' := hW
  obtain ⟨p, q, hA0, hV, rfl, hfz, hnd⟩ := hW
  have hA : DataW.TrodAll enc Trym.prog W 0 (fun _ => true) true Trym.f3.params.toList args.toList ds p := hA0
  rw [Trym.params3] at hA hval
  obtain ⟨v0, vs0, d0, ds0, p0, q0, hargs, rfl, rfl, h0, r0⟩ := trodAll_cons hA
  obtain ⟨rfl, rfl, rfl⟩ := trodAll_nil r0
  obtain rfl : args = #[v0] := by cases args; simp_all
  obtain ⟨rfl, rfl⟩ := trodVars_none hV
  have k0 := h0
  have lt0 : ∀ x ∈ p0, x.block < W.heap.size := by obtain ⟨m, hm⟩ := k0; exact DataW.trod_lt m _ _ _ hm
  obtain ⟨a0, rfl, rfl, rfl, w0⟩ := open_string Trym.underlying9 (hval 0 9 v0 rfl rfl) h0
  clear hA0 hval0
  refine (walk a0 w0 W).mono fun e W' ⟨he, bel⟩ => ?_
  subst he
  exact ⟨_, rfl, _, _, _, [], _, [], hW', trodAll_mk1 (shut_bool Trym.underlying4 _), (trodAll_cons_mk (Below.trod laidOut (by kernel_rfl) (of_decide_eq_true (by kernel_rfl)) k0 bel lt0) trodAll_mk0), rfl, bel.frame _, fun h => by cases h⟩

theorem over : Rows.fnLowerASCIIMatchesLetterTableRow.holds Trym.pinned (OpenSpec.ofChange Rows.fnLowerASCIIMatchesLetterTableSpec) :=
  OpenClaim.holds_of_wide 3 Trym.f3 rfl rfl rfl rfl rfl rfl rfl ⟨rfl, rfl, rfl, rfl, rfl⟩ rfl rfl rfl rfl rfl (by kernel_rfl) Trym.func3 (by kernel_rfl)
    (of_decide_eq_true (by kernel_rfl)) (by unfold Func.isWrapper; first | (rw [if_pos (by decide +kernel)]; kernel_rfl) | (rw [if_neg (by decide +kernel)]; exact ⟨rfl, rfl⟩))
    (fun os started H enc _ => lifted os started H enc)

/-- ████ THE STATEMENT ████ -/
theorem proved : Rows.FnLowerASCIIMatchesLetterTableSaid :=
  over
#print axioms proved
end Go.Proofs.Qxb6602397aMods.fnLowerASCIIMatchesLetterTable
