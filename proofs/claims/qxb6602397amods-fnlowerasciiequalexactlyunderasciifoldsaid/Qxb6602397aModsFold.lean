/-
  THE PLAIN LAW of the ASCII fold on two bytes; THE WALK of asciiFoldEqual (10).
-/
import Derived.Test.Qxb6602397aModsBase
namespace Go.Proofs.Qxb6602397aMods
open Go.RowKit
set_option linter.unusedVariables false

/-! ### The plain law, byte by byte -/
def lowN (c : Nat) : Nat := if 65 ≤ c ∧ c ≤ 90 then c + 32 else c
/-- Two bytes are equal, or differ in bit 32 alone and are a letter. -/
def foldN (a b : Nat) : Bool := a == b || (a ^^^ b == 32 && (decide (97 ≤ (a ||| 32)) && decide ((a ||| 32) ≤ 122)))
theorem up32 : ∀ a : Fin 256, 65 ≤ a.1 → a.1 ≤ 90 → (a.1 ^^^ 32 = a.1 + 32 ∧ a.1 ||| 32 = a.1 + 32) := by decide +kernel
theorem lo32 : ∀ a : Fin 256, 97 ≤ a.1 → a.1 ≤ 122 → (a.1 ^^^ 32 = a.1 - 32 ∧ a.1 ||| 32 = a.1) := by decide +kernel
theorem or32 : ∀ a : Fin 256, 97 ≤ (a.1 ||| 32) → (a.1 ||| 32) ≤ 122 → (65 ≤ a.1 ∧ a.1 ≤ 90) ∨ (97 ≤ a.1 ∧ a.1 ≤ 122) := by decide +kernel
theorem xor_swap {a b c : Nat} (h : a ^^^ b = c) : b = a ^^^ c := by
  rw [← h, ← Nat.xor_assoc, Nat.xor_self, Nat.zero_xor]
theorem xor_back {a b c : Nat} (h : b = a ^^^ c) : a ^^^ b = c := by
  rw [h, ← Nat.xor_assoc, Nat.xor_self, Nat.zero_xor]
theorem fold_iff (a b : Nat) (ha : a < 256) (hb : b < 256) : foldN a b = true ↔ lowN a = lowN b := by
  unfold foldN
  simp only [Bool.or_eq_true, Bool.and_eq_true, beq_iff_eq, decide_eq_true_eq]
  constructor
  · rintro (h | ⟨h1, h2, h3⟩)
    · rw [h]
    · have hb' := xor_swap h1
      rcases or32 ⟨a, ha⟩ h2 h3 with ⟨q1, q2⟩ | ⟨q1, q2⟩
      · have := (up32 ⟨a, ha⟩ q1 q2).1
        simp only at this q1 q2
        unfold lowN
        rw [if_pos ⟨q1, q2⟩, if_neg (by omega)]
        omega
      · have := (lo32 ⟨a, ha⟩ q1 q2).1
        simp only at this q1 q2
        unfold lowN
        rw [if_neg (by omega), if_pos (by omega)]
        omega
  · intro h
    unfold lowN at h
    by_cases e : a = b
    · exact .inl e
    · right
      by_cases qa : 65 ≤ a ∧ a ≤ 90
      · rw [if_pos qa] at h
        by_cases qb : 65 ≤ b ∧ b ≤ 90
        · rw [if_pos qb] at h; omega
        · rw [if_neg qb] at h
          have u := up32 ⟨a, ha⟩ qa.1 qa.2
          simp only at u
          exact ⟨xor_back (by omega), by omega, by omega⟩
      · rw [if_neg qa] at h
        by_cases qb : 65 ≤ b ∧ b ≤ 90
        · rw [if_pos qb] at h
          have u := lo32 ⟨a, ha⟩ (show 97 ≤ a by omega) (show a ≤ 122 by omega)
          simp only at u
          exact ⟨xor_back (by omega), by omega, by omega⟩
        · rw [if_neg qb] at h; omega

theorem low_lowN (c : UInt8) : (low c).toNat = lowN c.toNat := by
  have h := low_toNat c
  unfold lowI at h
  unfold lowN
  split at h <;> rename_i q
  · rw [if_pos (by omega)]; omega
  · rw [if_neg (by omega)]; omega

/-! ### The plain law, string by string -/
def foldTo (s t : ByteArray) (k : Nat) : Bool := (List.range k).all fun i => foldN (sb s i).toNat (sb t i).toNat
def foldB (s t : ByteArray) : Bool := decide (s.size = t.size) && foldTo s t s.size
theorem foldTo_zero (s t : ByteArray) : foldTo s t 0 = true := by simp [foldTo]
theorem foldTo_succ (s t : ByteArray) (k : Nat) : foldTo s t (k + 1) = (foldTo s t k && foldN (sb s k).toNat (sb t k).toNat) := by
  simp [foldTo, List.range_succ]
theorem foldTo_false (s t : ByteArray) (k n : Nat) (h : k ≤ n) (hf : foldTo s t k = false) : foldTo s t n = false := by
  cases e : foldTo s t n with
  | false => rfl
  | true =>
    exfalso
    unfold foldTo at e hf
    rw [List.all_eq_true] at e
    have : (List.range k).all (fun i => foldN (sb s i).toNat (sb t i).toNat) = true := List.all_eq_true.2 fun x hx => e x (by simp at hx ⊢; omega)
    rw [this] at hf
    cases hf
theorem foldTo_iff (s t : ByteArray) (k : Nat) : foldTo s t k = true ↔ ∀ i, i < k → low (sb s i) = low (sb t i) := by
  unfold foldTo
  rw [List.all_eq_true]
  constructor
  · intro h i hi
    have := (fold_iff _ _ (UInt8.toNat_lt (sb s i)) (UInt8.toNat_lt (sb t i))).1 (h i (by simpa using hi))
    rw [← low_lowN, ← low_lowN] at this
    exact UInt8.toNat_inj.1 this
  · intro h i hi
    refine (fold_iff _ _ (UInt8.toNat_lt (sb s i)) (UInt8.toNat_lt (sb t i))).2 ?_
    rw [← low_lowN, ← low_lowN, h i (by simpa using hi)]
theorem lows_iff (s t : ByteArray) : (s.data.toList.map low = t.data.toList.map low) ↔ foldB s t = true := by
  unfold foldB
  rw [Bool.and_eq_true, decide_eq_true_eq, foldTo_iff]
  have hs : s.data.toList.length = s.size := by simp
  have ht : t.data.toList.length = t.size := by simp
  constructor
  · intro h
    have hl := congrArg List.length h
    simp only [List.length_map] at hl
    refine ⟨by omega, fun i hi => ?_⟩
    have := congrArg (fun l => l[i]?) h
    simp only [List.getElem?_map] at this
    rw [List.getElem?_eq_getElem (by omega), List.getElem?_eq_getElem (by omega)] at this
    simp only [Option.map_some, Option.some.injEq] at this
    unfold sb
    rw [List.getD_eq_getElem?_getD, List.getD_eq_getElem?_getD, List.getElem?_eq_getElem (by omega), List.getElem?_eq_getElem (by omega)]
    exact this
  · rintro ⟨h1, h2⟩
    apply List.ext_getElem
    · simp only [List.length_map]; omega
    · intro i hi hi'
      simp only [List.length_map] at hi hi'
      have := h2 i (by omega)
      unfold sb at this
      rw [List.getD_eq_getElem?_getD, List.getD_eq_getElem?_getD, List.getElem?_eq_getElem hi, List.getElem?_eq_getElem hi'] at this
      simpa using this
theorem law (s t : ByteArray) : (((lowS s).toList == (lowS t).toList) == foldB s t) = true := by
  have e : ((lowS s).toList == (lowS t).toList) = foldB s t := by
    rw [ByteArray.toList_eq, ByteArray.toList_eq]
    rw [Bool.eq_iff_iff, beq_iff_eq, ← lows_iff]
    simp [lowS]
  rw [e]
  simp

/-! ### Bits of a byte -/
theorem bits_xor_u8_nat (a b : Nat) (ha : a < 256) (hb : b < 256) : bits .xor .u8 (a : Int) (b : Int) = ((a ^^^ b : Nat) : Int) := by
  have hx : a ^^^ b < 2 ^ 8 := Nat.xor_lt_two_pow (by omega) (by omega)
  have h1 : (BitVec.ofInt 8 (a : Int)).toNat = a := by
    rw [BitVec.ofInt_natCast, BitVec.toNat_ofNat]; exact Nat.mod_eq_of_lt (by omega)
  have h2 : (BitVec.ofInt 8 (b : Int)).toNat = b := by
    rw [BitVec.ofInt_natCast, BitVec.toNat_ofNat]; exact Nat.mod_eq_of_lt (by omega)
  show IntKind.u8.wrap ((BitVec.ofInt 8 (a : Int) ^^^ BitVec.ofInt 8 (b : Int)).toNat : Int) = _
  have hw : ∀ n : Int, IntKind.u8.wrap n = n % 256 := fun n => by simp [IntKind.wrap, IntKind.bits, IntKind.signed]
  rw [BitVec.toNat_xor, h1, h2, hw]
  omega
theorem bits_or_u8_nat (a b : Nat) (ha : a < 256) (hb : b < 256) : bits .or .u8 (a : Int) (b : Int) = ((a ||| b : Nat) : Int) := by
  have hx : a ||| b < 2 ^ 8 := Nat.or_lt_two_pow (by omega) (by omega)
  have h1 : (BitVec.ofInt 8 (a : Int)).toNat = a := by
    rw [BitVec.ofInt_natCast, BitVec.toNat_ofNat]; exact Nat.mod_eq_of_lt (by omega)
  have h2 : (BitVec.ofInt 8 (b : Int)).toNat = b := by
    rw [BitVec.ofInt_natCast, BitVec.toNat_ofNat]; exact Nat.mod_eq_of_lt (by omega)
  show IntKind.u8.wrap ((BitVec.ofInt 8 (a : Int) ||| BitVec.ofInt 8 (b : Int)).toNat : Int) = _
  have hw : ∀ n : Int, IntKind.u8.wrap n = n % 256 := fun n => by simp [IntKind.wrap, IntKind.bits, IntKind.signed]
  rw [BitVec.toNat_or, h1, h2, hw]
  omega

/-! ### The tests of the round, as the walk prints them -/
theorem p_eq (a b : Nat) (h : (((a : Nat) : Int) == ((b : Nat) : Int)) = true) : foldN a b = true := by
  rw [beq_iff_eq] at h
  have : a = b := by omega
  simp [foldN, this]
theorem p_xor (a b : Nat) (ha : a < 256) (hb : b < 256) (h : (((a : Nat) : Int) == ((b : Nat) : Int)) = false) (hx : (bits .xor .u8 ((a : Nat) : Int) ((b : Nat) : Int) != 32) = true) : foldN a b = false := by
  rw [bits_xor_u8_nat a b ha hb, bne_iff_ne] at hx
  rw [beq_eq_false_iff_ne] at h
  have h1 : (a == b) = false := by rw [beq_eq_false_iff_ne]; omega
  have h2 : (a ^^^ b == 32) = false := by rw [beq_eq_false_iff_ne]; omega
  simp [foldN, h1, h2]
theorem p_out (a b : Nat) (ha : a < 256) (hb : b < 256) (h : (((a : Nat) : Int) == ((b : Nat) : Int)) = false) (ho : bits .or .u8 ((a : Nat) : Int) 32 < 97 ∨ 122 < bits .or .u8 ((a : Nat) : Int) 32) : foldN a b = false := by
  have e : bits .or .u8 ((a : Nat) : Int) 32 = ((a ||| 32 : Nat) : Int) := bits_or_u8_nat a 32 ha (by omega)
  rw [e] at ho
  rw [beq_eq_false_iff_ne] at h
  have h1 : (a == b) = false := by rw [beq_eq_false_iff_ne]; omega
  have h2 : (decide (97 ≤ (a ||| 32)) && decide ((a ||| 32) ≤ 122)) = false := by
    rw [Bool.and_eq_false_iff, decide_eq_false_iff_not, decide_eq_false_iff_not]
    omega
  simp only [foldN, h1, h2, Bool.and_false, Bool.or_false]
theorem p_in (a b : Nat) (ha : a < 256) (hb : b < 256) (hx : (bits .xor .u8 ((a : Nat) : Int) ((b : Nat) : Int) != 32) = false) (ho : 97 ≤ bits .or .u8 ((a : Nat) : Int) 32 ∧ bits .or .u8 ((a : Nat) : Int) 32 ≤ 122) : foldN a b = true := by
  have e : bits .or .u8 ((a : Nat) : Int) 32 = ((a ||| 32 : Nat) : Int) := bits_or_u8_nat a 32 ha (by omega)
  rw [e] at ho
  rw [bits_xor_u8_nat a b ha hb, bne_eq_false_iff_eq] at hx
  have h1 : (a ^^^ b == 32) = true := by rw [beq_iff_eq]; omega
  have h2 : decide (97 ≤ (a ||| 32)) = true := by rw [decide_eq_true_eq]; omega
  have h3 : decide ((a ||| 32) ≤ 122) = true := by rw [decide_eq_true_eq]; omega
  simp only [foldN, h1, h2, h3, Bool.and_true, Bool.or_true]
theorem step_true {s t : ByteArray} {k : Nat} (h : k < s.size) (h' : k < t.size) (H : foldTo s t k = true) (e : foldN (s[k]'h).toNat (t[k]'h').toNat = true) : foldTo s t (k + 1) = true := by
  rw [foldTo_succ, H, sb_eq s k h, sb_eq t k h', e]
  rfl
theorem step_false {s t : ByteArray} {k : Nat} (h : k < s.size) (h' : k < t.size) (e : foldN (s[k]'h).toNat (t[k]'h').toNat = false) : foldTo s t s.size = false := by
  refine foldTo_false s t (k + 1) s.size (by omega) ?_
  rw [foldTo_succ, sb_eq s k h, sb_eq t k h', e]
  simp

set_option maxHeartbeats 1000000 in
theorem fold (s t : ByteArray) (w : World) (hs : s.size ≤ 1048576) (ht : t.size ≤ 1048576) : Calls Trym.prog 10 #[.string s, .string t] w fun e w' => e = .returned (.bool (foldB s t)) ∧ w' = w := by
  by_cases hz : s.size = t.size
  · have hne : ((s.size : Int) != (t.size : Int)) = false := by simp; omega
    have HN : Hid (foldB s t = foldTo s t s.size) := by show foldB s t = foldTo s t s.size; simp [foldB, hz]
    have hz1 : (s.size : Int) ≤ (t.size : Int) := by omega
    have hz2 : (t.size : Int) ≤ (s.size : Int) := by omega
    clear hz
    go_enter Trym.func10, Trym.ntmps10
    go_wp2
    go_loop [5] (fun i => ∃ k : Nat, k ≤ s.size ∧ i = .int .i64 k ∧ Hid (foldTo s t k = true)) (fun i => s.size - (intOf i).toNat)
    case atStart => exact ⟨0, Nat.zero_le _, rfl, foldTo_zero s t⟩
    case round =>
      obtain ⟨k, hk, rfl, H⟩ := hrel
      by_cases hlt : k < s.size
      · have hlt2 : k < t.size := by omega
        have hi : (k : Int) < (s.size : Int) := by omega
        have hi2 : (k : Int) < (t.size : Int) := by omega
        have ha := UInt8.toNat_lt (s[k]'hlt)
        have hb := UInt8.toNat_lt (t[k]'hlt2)
        go_wp2
        · have e := p_eq (s[k]'hlt).toNat (t[k]'hlt2).toNat (by assumption)
          go_round
          case rel => exact ⟨k + 1, by omega, by go_num, step_true hlt hlt2 H.out e⟩
          case measure => simp [intOf]; omega
        · have e := p_xor (s[k]'hlt).toNat (t[k]'hlt2).toNat ha hb (by assumption) (by assumption)
          go_ret
          exact ⟨ret_b (HN.out.trans (step_false hlt hlt2 e)).symm, rfl⟩
        · have e := p_out (s[k]'hlt).toNat (t[k]'hlt2).toNat ha hb (by assumption) (by assumption)
          go_ret
          exact ⟨ret_b (HN.out.trans (step_false hlt hlt2 e)).symm, rfl⟩
        · have e := p_in (s[k]'hlt).toNat (t[k]'hlt2).toNat ha hb (by assumption) (by assumption)
          go_round
          case rel => exact ⟨k + 1, by omega, by go_num, step_true hlt hlt2 H.out e⟩
          case measure => simp [intOf]; omega
        · have e := p_out (s[k]'hlt).toNat (t[k]'hlt2).toNat ha hb (by assumption) (.inl (by assumption))
          go_ret
          exact ⟨ret_b (HN.out.trans (step_false hlt hlt2 e)).symm, rfl⟩
      · go_wp2
        go_ret
        exact ⟨ret_b (by rw [HN.out]; have hke : k = s.size := by omega
                         rw [← hke, H.out]), rfl⟩
  · have hne : ((s.size : Int) != (t.size : Int)) = true := by rw [bne_iff_ne]; omega
    have HN : Hid (foldB s t = false) := by show foldB s t = false; simp [foldB, hz]
    go_enter Trym.func10, Trym.ntmps10
    go_wp2
    go_ret
    exact ⟨ret_b HN.out.symm, rfl⟩

end Go.Proofs.Qxb6602397aMods
