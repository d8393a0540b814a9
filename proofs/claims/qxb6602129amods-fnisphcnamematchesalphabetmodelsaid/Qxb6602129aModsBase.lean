/-
  THE WALKS of phcAllowed (7), isPHCName (11), ZZisPHCName (8) and zzBytes (6).
-/
import Derived.Test.Qxb6602129aModsRows
import Derived.WalkKit
import Derived.ProofKit
import Derived.Below
import Derived.WalkSpells
import Derived.WalkLawsBesides
import Derived.Laws.IdiomStrings
namespace Go.Proofs.Qxb6602129aMods
open Go.RowKit
set_option linter.unusedVariables false

def alpha : ByteArray := ⟨#[97, 98, 99, 100, 101, 102, 103, 104, 105, 106, 107, 108, 109, 110, 111, 112, 113, 114, 115, 116, 117, 118, 119, 120, 121, 122, 48, 49, 50, 51, 52, 53, 54, 55, 56, 57, 45]⟩
/-- The j-th byte of the alphabet. -/
def al (j : Nat) : Int := (alpha.data.toList.getD j 0).toNat
def okB (c : Int) : Bool := decide ((97 ≤ c ∧ c ≤ 122) ∨ (48 ≤ c ∧ c ≤ 57) ∨ c = 45)

theorem ret_b {a b : Bool} (h : a = b) : Ending.returned (.bool a) = .returned (.bool b) := by rw [h]
theorem al_eq (k : Nat) (h : k < alpha.size) : (((alpha[k]'h).toNat : Nat) : Int) = al k := by
  have h' : k < alpha.data.toList.length := by simpa using h
  unfold al
  rw [List.getD_eq_getElem?_getD, List.getElem?_eq_getElem h']
  rfl
theorem al_ok : ∀ k : Fin 37, okB (al k.1) = true := by decide +kernel
theorem al_all : ∀ c : Fin 256, (∀ j : Fin 37, al j.1 ≠ (c.1 : Int)) → okB (c.1 : Int) = false := by decide +kernel
theorem ok_of_hit (k : Nat) (h : k < alpha.size) (c : Int) (ht : ((((alpha[k]'h).toNat : Nat) : Int) == c) = true) : true = okB c := by
  rw [al_eq, beq_iff_eq] at ht
  rw [← ht]
  exact (al_ok ⟨k, h⟩).symm
theorem miss_step (k : Nat) (h : k < alpha.size) (c : Int) (H : ∀ j, j < k → al j ≠ c) (ht : ((((alpha[k]'h).toNat : Nat) : Int) == c) = false) : ∀ j, j < k + 1 → al j ≠ c := by
  rw [al_eq, beq_eq_false_iff_ne] at ht
  intro j hj
  by_cases e : j = k
  · rw [e]; exact ht
  · exact H j (by omega)
theorem no_of_miss (c : Int) (h0 : 0 ≤ c) (h1 : c ≤ 255) (H : ∀ j, j < 37 → al j ≠ c) : false = okB c := by
  have hc : ((c.toNat : Nat) : Int) = c := by omega
  have h := al_all ⟨c.toNat, by omega⟩ (fun j => by show al j.1 ≠ ((c.toNat : Nat) : Int); rw [hc]; exact H j.1 j.2)
  have h' : okB ((c.toNat : Nat) : Int) = false := h
  rw [hc] at h'
  exact h'.symm

set_option maxHeartbeats 400000 in
theorem allowed (c : Int) (w : World) (h0 : 0 ≤ c) (h1 : c ≤ 255) : Calls Trym.prog 7 #[.int .u8 c] w fun e w' => e = .returned (.bool (okB c)) ∧ w = w' := by
  go_enter Trym.func7, Trym.ntmps7
  go_wp2
  go_loop [3] (fun i => ∃ k : Nat, k ≤ 37 ∧ i = .int .i64 k ∧ Hid (∀ j, j < k → al j ≠ c)) (fun i => 37 - (intOf i).toNat)
  case atStart => exact ⟨0, Nat.zero_le _, rfl, fun j hj => absurd hj (Nat.not_lt_zero _)⟩
  case round =>
    obtain ⟨k, hk, rfl, H⟩ := hrel
    by_cases hlt : k < 37
    · go_wp2
      · have ht : ((((alpha[k]'hlt).toNat : Nat) : Int) == c) = true := by assumption
        go_ret
        exact ⟨ret_b (ok_of_hit k hlt c ht), rfl⟩
      · have ht : ((((alpha[k]'hlt).toNat : Nat) : Int) == c) = false := by assumption
        go_round
        case rel => exact ⟨k + 1, by omega, by go_num, miss_step k hlt c H.out ht⟩
        case measure => simp [intOf]; omega
    · go_wp2
      go_ret
      exact ⟨ret_b (no_of_miss c h0 h1 (fun j hj => H.out j (by omega))), rfl⟩

/-! ### isPHCName -/
/-- The first k bytes are all of the alphabet. -/
def allTo (s : ByteArray) (k : Nat) : Bool := (s.data.toList.take k).all fun c => okB (c.toNat : Int)
def nameB (s : ByteArray) : Bool := decide (1 ≤ s.size) && decide (s.size ≤ 32) && allTo s s.size

theorem allTo_zero (s : ByteArray) : allTo s 0 = true := by simp [allTo]
theorem allTo_succ (s : ByteArray) (k : Nat) (h : k < s.size) : allTo s (k + 1) = (allTo s k && okB ((s[k]'h).toNat : Int)) := by
  unfold allTo
  rw [List.take_succ_eq_append_getElem (by simpa using h), List.all_append]
  simp
  rfl
theorem allTo_false (s : ByteArray) (k : Nat) (h : k ≤ s.size) (hf : allTo s k = false) : allTo s s.size = false := by
  have hsub : (s.data.toList.take k) ⊆ (s.data.toList.take s.size) := by
    intro x hx
    have : s.data.toList.take k = (s.data.toList.take s.size).take k := by rw [List.take_take, Nat.min_eq_left h]
    rw [this] at hx
    exact List.mem_of_mem_take hx
  cases e : allTo s s.size with
  | false => rfl
  | true =>
    exfalso
    unfold allTo at e hf
    rw [List.all_eq_true] at e
    have : (s.data.toList.take k).all (fun c => okB (c.toNat : Int)) = true := List.all_eq_true.2 fun x hx => e x (hsub hx)
    rw [this] at hf
    cases hf
theorem nameB_short (s : ByteArray) (h : s.size = 0) : nameB s = false := by simp [nameB, h]
theorem nameB_long (s : ByteArray) (h : 32 < s.size) : nameB s = false := by
  have : decide (s.size ≤ 32) = false := by simp; omega
  simp [nameB, this]
theorem nameB_mid (s : ByteArray) (h1 : 1 ≤ s.size) (h2 : s.size ≤ 32) : nameB s = allTo s s.size := by simp [nameB, h1, h2]

/-- '[]byte(s)': what it lays, its bytes told. -/
theorem conv_bytes (s : ByteArray) (w : World) : ∃ C cap, (convert 9 29 (.string s)).run Trym.prog w = .ok (.slice (some ⟨w.heap.size, 0, none⟩) s.size cap) (w.drew.alloc (.cells C 5 (C.size, C.size + 1))) ∧
    ∀ k (h : k < s.size), (w.alloc (.cells C 5 (C.size, C.size + 1))).cell? ⟨w.heap.size, k, none⟩ = some (.int .u8 ((s[k]'h).toNat : Int)) := by
  refine ⟨_, _, run_bytes_of_string w 9 29 5 s Trym.underlying9 Trym.underlying29 Trym.underlying5, fun k h => ?_⟩
  have h' : k < s.data.size := h
  rw [cell_of_row _ _ _ _ _ _ (heap_alloc_new w _)]
  unfold bytesRow
  rw [Array.getElem?_append_left (by simpa using h'), Array.getElem?_map, Array.getElem?_eq_getElem h']
  rfl

theorem empty_of (s : ByteArray) (h : s.size = 0) : s.toList.isEmpty = true := by
  rw [ByteArray.toList_eq, List.isEmpty_iff]
  exact List.eq_nil_of_length_eq_zero (by simpa using h)
theorem full_of (s : ByteArray) (h : ¬ s.size = 0) : s.toList.isEmpty = false := by
  rw [ByteArray.toList_eq]
  cases e : s.data.toList with
  | nil =>
    exfalso
    have h1 := congrArg List.length e
    simp at h1
    exact h (by rw [h1]; rfl)
  | cons _ _ => rfl

set_option maxHeartbeats 1000000 in
theorem isphc (s : ByteArray) (w : World) (hs : s.size ≤ 1048576) : Calls Trym.prog 11 #[.string s] w fun e w' => e = .returned (.bool (nameB s)) ∧ Below w.heap.size w w' := by
  by_cases hz : s.size = 0
  · have he := empty_of s hz
    have HN : Hid (nameB s = false) := nameB_short s hz
    clear hz
    go_enter Trym.func11, Trym.ntmps11
    go_wp2
    go_ret
    exact ⟨ret_b HN.out.symm, Below.refl _ _⟩
  have he := full_of s hz
  by_cases hl : 32 < s.size
  · have hl' : (32 : Int) < (s.size : Int) := by omega
    have HN : Hid (nameB s = false) := nameB_long s hl
    go_enter Trym.func11, Trym.ntmps11
    go_wp2
    go_ret
    exact ⟨ret_b HN.out.symm, Below.refl _ _⟩
  have hl' : (s.size : Int) ≤ 32 := by omega
  have hd : decide ((32 : Int) < (s.size : Int)) = false := by simp; omega
  have HN : Hid (nameB s = allTo s s.size) := nameB_mid s (by omega) (by omega)
  obtain ⟨C, cap, hconv, hC⟩ := conv_bytes s w
  have HC : Hid (∀ k (h : k < s.size), (w.alloc (.cells C 5 (C.size, C.size + 1))).cell? ⟨w.heap.size, k, none⟩ = some (.int .u8 ((s[k]'h).toNat : Int))) := hC
  clear hC
  go_enter Trym.func11, Trym.ntmps11
  go_wp2
  go_loop [15] (fun i => ∃ k : Nat, k ≤ s.size ∧ i = .int .i64 k ∧ Hid (allTo s k = true)) (fun i => s.size - (intOf i).toNat)
  case atStart => exact ⟨0, Nat.zero_le _, rfl, allTo_zero s⟩
  case round =>
    obtain ⟨k, hk, rfl, H⟩ := hrel
    by_cases hlt : k < s.size
    · have hi : (k : Int) < (s.size : Int) := by omega
      obtain ⟨c, hc⟩ : ∃ c : Nat, c = (s[k]'hlt).toNat := ⟨_, rfl⟩
      have hcell : (w.alloc (.cells C 5 (C.size, C.size + 1))).cell? ⟨w.heap.size, k, none⟩ = some (.int .u8 (c : Int)) := by rw [hc]; exact HC.out k hlt
      have hc2 : c < 256 := by rw [hc]; exact UInt8.toNat_lt _
      have HS : Hid (allTo s (k + 1) = okB (c : Int)) := by show _ = _; rw [allTo_succ s k hlt, H.out, hc]; rfl
      clear hc HC
      have cases7 : (97 ≤ (c : Int) ∧ (c : Int) ≤ 122) ∨ (48 ≤ (c : Int) ∧ (c : Int) ≤ 57) ∨ ((c : Int) = 45) ∨ ((c : Int) < 45) ∨ (45 < (c : Int) ∧ (c : Int) < 48) ∨ (57 < (c : Int) ∧ (c : Int) < 97) ∨ (122 < (c : Int)) := by omega
      rcases cases7 with ⟨q1, q2⟩ | ⟨q1, q2⟩ | q1 | q1 | ⟨q1, q2⟩ | ⟨q1, q2⟩ | q1
      · have b1 : decide ((c : Int) < 97) = false := by simp; omega
        have b2 : decide ((122 : Int) < (c : Int)) = false := by simp; omega
        have b3 : decide ((c : Int) < 48) = false := by simp; omega
        have b4 : decide ((57 : Int) < (c : Int)) = true := by simp; omega
        have b5 : ((c : Int) != 45) = true := by rw [bne_iff_ne]; omega
        have HO : Hid (okB (c : Int) = true) := by show okB (c : Int) = true; unfold okB; simp; omega
        clear q1 q2
        go_wp2
        go_round
        case rel => exact ⟨k + 1, by omega, by go_num, HS.out.trans HO.out⟩
        case measure => simp [intOf]; omega
      · have b1 : decide ((c : Int) < 97) = true := by simp; omega
        have b2 : decide ((122 : Int) < (c : Int)) = false := by simp; omega
        have b3 : decide ((c : Int) < 48) = false := by simp; omega
        have b4 : decide ((57 : Int) < (c : Int)) = false := by simp; omega
        have b5 : ((c : Int) != 45) = true := by rw [bne_iff_ne]; omega
        have HO : Hid (okB (c : Int) = true) := by show okB (c : Int) = true; unfold okB; simp; omega
        clear q1 q2
        go_wp2
        go_round
        case rel => exact ⟨k + 1, by omega, by go_num, HS.out.trans HO.out⟩
        case measure => simp [intOf]; omega
      · have b1 : decide ((c : Int) < 97) = true := by simp; omega
        have b2 : decide ((122 : Int) < (c : Int)) = false := by simp; omega
        have b3 : decide ((c : Int) < 48) = true := by simp; omega
        have b4 : decide ((57 : Int) < (c : Int)) = false := by simp; omega
        have b5 : ((c : Int) != 45) = false := by simp; omega
        have HO : Hid (okB (c : Int) = true) := by show okB (c : Int) = true; unfold okB; simp; omega
        clear q1
        go_wp2
        go_round
        case rel => exact ⟨k + 1, by omega, by go_num, HS.out.trans HO.out⟩
        case measure => simp [intOf]; omega
      · have b1 : decide ((c : Int) < 97) = true := by simp; omega
        have b2 : decide ((122 : Int) < (c : Int)) = false := by simp; omega
        have b3 : decide ((c : Int) < 48) = true := by simp; omega
        have b4 : decide ((57 : Int) < (c : Int)) = false := by simp; omega
        have b5 : ((c : Int) != 45) = true := by rw [bne_iff_ne]; omega
        have HO : Hid (false = nameB s) := by
          show false = nameB s
          have h1 : okB (c : Int) = false := by unfold okB; simp; omega
          rw [HN.out, allTo_false s (k + 1) (by omega) (HS.out.trans h1)]
        clear q1
        go_wp2
        go_ret
        exact ⟨ret_b HO.out, ((Below.refl _ _).alloc (Nat.le_refl _) _).drew⟩
      · have b1 : decide ((c : Int) < 97) = true := by simp; omega
        have b2 : decide ((122 : Int) < (c : Int)) = false := by simp; omega
        have b3 : decide ((c : Int) < 48) = true := by simp; omega
        have b4 : decide ((57 : Int) < (c : Int)) = false := by simp; omega
        have b5 : ((c : Int) != 45) = true := by rw [bne_iff_ne]; omega
        have HO : Hid (false = nameB s) := by
          show false = nameB s
          have h1 : okB (c : Int) = false := by unfold okB; simp; omega
          rw [HN.out, allTo_false s (k + 1) (by omega) (HS.out.trans h1)]
        clear q1 q2
        go_wp2
        go_ret
        exact ⟨ret_b HO.out, ((Below.refl _ _).alloc (Nat.le_refl _) _).drew⟩
      · have b1 : decide ((c : Int) < 97) = true := by simp; omega
        have b2 : decide ((122 : Int) < (c : Int)) = false := by simp; omega
        have b3 : decide ((c : Int) < 48) = false := by simp; omega
        have b4 : decide ((57 : Int) < (c : Int)) = true := by simp; omega
        have b5 : ((c : Int) != 45) = true := by rw [bne_iff_ne]; omega
        have HO : Hid (false = nameB s) := by
          show false = nameB s
          have h1 : okB (c : Int) = false := by unfold okB; simp; omega
          rw [HN.out, allTo_false s (k + 1) (by omega) (HS.out.trans h1)]
        clear q1 q2
        go_wp2
        go_ret
        exact ⟨ret_b HO.out, ((Below.refl _ _).alloc (Nat.le_refl _) _).drew⟩
      · have b1 : decide ((c : Int) < 97) = false := by simp; omega
        have b2 : decide ((122 : Int) < (c : Int)) = true := by simp; omega
        have b3 : decide ((c : Int) < 48) = false := by simp; omega
        have b4 : decide ((57 : Int) < (c : Int)) = true := by simp; omega
        have b5 : ((c : Int) != 45) = true := by rw [bne_iff_ne]; omega
        have HO : Hid (false = nameB s) := by
          show false = nameB s
          have h1 : okB (c : Int) = false := by unfold okB; simp; omega
          rw [HN.out, allTo_false s (k + 1) (by omega) (HS.out.trans h1)]
        clear q1
        go_wp2
        go_ret
        exact ⟨ret_b HO.out, ((Below.refl _ _).alloc (Nat.le_refl _) _).drew⟩
    · have HO : Hid (true = nameB s) := by
        show true = nameB s
        have hke : k = s.size := by omega
        rw [HN.out, ← hke, H.out]
      go_wp2
      go_ret
      exact ⟨ret_b HO.out, ((Below.refl _ _).alloc (Nat.le_refl _) _).drew⟩

theorem zzisphc (s : ByteArray) (w : World) (hs : s.size ≤ 1048576) : Calls Trym.prog 8 #[.string s] w fun e w' => e = .returned (.bool (nameB s)) ∧ Below w.heap.size w w' := by
  have H := isphc s w hs
  go_enter Trym.func8, Trym.ntmps8
  go_wp2_with fail
  refine H.mono ?_
  rintro e w' ⟨rfl, hB⟩
  have HB : Hid (Below w.heap.size w w') := hB
  clear hB H
  go_wp2
  go_ret
  exact ⟨rfl, HB⟩

theorem zz6_any (s : ByteArray) (w : World) (h : s.size ≤ maxLen) : Calls Trym.prog 6 #[.string s] w fun e w' => (∃ bb : Bool, e = .returned (.bool bb) ∧ (bb = true → s.size ≤ 1048576)) ∧ w = w' := by
  unfold maxLen at h
  go_enter Trym.func6, Trym.ntmps6
  go_wp2
  all_goals
    go_ret
    exact ⟨⟨_, rfl, fun h => by first | (cases h; done) | omega⟩, rfl⟩

end Go.Proofs.Qxb6602129aMods
