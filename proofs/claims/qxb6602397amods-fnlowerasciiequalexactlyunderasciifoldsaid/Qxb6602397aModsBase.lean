/-
  THE WALKS of lowerASCII (12), ZZlowerASCII (7), lowerOfByte (8), asciiFoldEqual (10) and the two zzBytes (6, 9).
-/
import Derived.Test.Qxb6602397aModsRows
import Derived.WalkKit
import Derived.ProofKit
import Derived.Below
import Derived.WalkSpells
import Derived.WalkLawsBesides
import Derived.Laws.IdiomStrings
namespace Go.Proofs.Qxb6602397aMods
open Go.RowKit
set_option linter.unusedVariables false

theorem ret_b {a b : Bool} (h : a = b) : Ending.returned (.bool a) = .returned (.bool b) := by rw [h]
theorem ret_i {k : IntKind} {a b : Int} (h : a = b) : Ending.returned (.int k a) = .returned (.int k b) := by rw [h]

/-- A byte's lower case. -/
def low (c : UInt8) : UInt8 := if 65 ≤ c.toNat ∧ c.toNat ≤ 90 then c + 32 else c
def lowI (c : Int) : Int := if 65 ≤ c ∧ c ≤ 90 then c + 32 else c
theorem low_fin : ∀ c : Fin 256, ((low (UInt8.ofNat c.1)).toNat : Int) = lowI (c.1 : Int) := by decide +kernel
theorem low_toNat (c : UInt8) : ((low c).toNat : Int) = lowI (c.toNat : Int) := by
  have h := low_fin ⟨c.toNat, UInt8.toNat_lt c⟩
  simpa using h
def lowS (s : ByteArray) : ByteArray := ⟨(s.data.toList.map low).toArray⟩
theorem size_lowS (s : ByteArray) : (lowS s).size = s.size := by
  show ((s.data.toList.map low).toArray).size = s.data.size
  simp

/-! ### A row of bytes that a conversion laid (with the run-time's mark behind its last cell) -/
def BRow (w : World) (g n : Nat) (f : Nat → Int) : Prop := ∃ C : Array Value, w.heap[g]? = some (.cells C 5 (C.size, C.size + 1)) ∧ n ≤ C.size ∧ ∀ i, i < n → C[i]? = some (.int .u8 (f i))

theorem BRow.cell {w : World} {g n : Nat} {f : Nat → Int} (h : BRow w g n f) {i : Nat} (hi : i < n) : w.cell? ⟨g, i, none⟩ = some (.int .u8 (f i)) := by
  obtain ⟨C, hb, _, hc⟩ := h
  simp [World.cell?, hb, hc i hi]
theorem BRow.frozen {w : World} {g n : Nat} {f : Nat → Int} (h : BRow w g n f) {i : Nat} (hi : i < n) : w.frozen? ⟨g, i, none⟩ = false := by
  obtain ⟨C, hb, hn, hc⟩ := h
  simp [World.frozen?, hb]
  omega
theorem BRow.congr {w : World} {g n : Nat} {f f' : Nat → Int} (h : BRow w g n f) (e : ∀ i, i < n → f i = f' i) : BRow w g n f' := by
  obtain ⟨C, hb, hn, hc⟩ := h
  exact ⟨C, hb, hn, fun i hi => by rw [hc i hi, e i hi]⟩
theorem BRow.set {w : World} {g n : Nat} {f : Nat → Int} (h : BRow w g n f) (i : Nat) (v : Int) : BRow (w.setCell ⟨g, i, none⟩ (.int .u8 v)) g n (fun j => if j = i then v else f j) := by
  obtain ⟨C, hb, hn, hc⟩ := h
  refine ⟨C.setIfInBounds i (.int .u8 v), ?_, by simpa using hn, fun j hj => ?_⟩
  · simp [World.setCell, Array.getElem?_modify, hb]
  · rw [Array.getElem?_setIfInBounds]
    by_cases e : i = j
    · subst e
      simp
      omega
    · rw [if_neg e]
      show C[j]? = some (.int .u8 (if j = i then v else f j))
      rw [if_neg (fun h => e h.symm)]
      exact hc j hj

/-- The j-th byte. -/
def sb (s : ByteArray) (j : Nat) : UInt8 := s.data.toList.getD j 0
theorem sb_eq (s : ByteArray) (k : Nat) (h : k < s.size) : sb s k = s[k]'h := by
  have h' : k < s.data.toList.length := by simpa using h
  unfold sb
  rw [List.getD_eq_getElem?_getD, List.getElem?_eq_getElem h']
  rfl
theorem sb_lowS (s : ByteArray) (k : Nat) (h : k < s.size) : sb (lowS s) k = low (sb s k) := by
  have h' : k < s.data.toList.length := by simpa using h
  unfold sb lowS
  simp [List.getElem?_eq_getElem h']

theorem conv_bytes (s : ByteArray) (w : World) : ∃ cap W1, (convert 9 26 (.string s)).run Trym.prog w = .ok (.slice (some ⟨w.heap.size, 0, none⟩) s.size cap) W1 ∧ BRow W1 w.heap.size s.size (fun j => ((sb s j).toNat : Int)) ∧ Below w.heap.size w W1 := by
  refine ⟨_, _, run_bytes_of_string w 9 26 5 s Trym.underlying9 Trym.underlying26 Trym.underlying5, ⟨_, heap_alloc_new w _, ?_, fun k h => ?_⟩, (Below.refl _ _).drew.alloc (Nat.le_refl _) _⟩
  · simp [bytesRow]
  · have h' : k < s.data.size := h
    unfold bytesRow
    rw [Array.getElem?_append_left (by simpa using h'), Array.getElem?_map, Array.getElem?_eq_getElem h']
    show _ = some (Value.int .u8 ((sb s k).toNat : Int))
    rw [sb_eq s k h]
    rfl

theorem conv_back (s : ByteArray) (cap : Nat) (w : World) (g : Nat) (h : BRow w g s.size (fun j => ((sb s j).toNat : Int))) :
    (convert 26 9 (.slice (some ⟨g, 0, none⟩) s.size cap)).run Trym.prog w = .ok (.string s) w := by
  have hl : s.data.toList.length = s.size := by simp
  have H := run_convert_bytes_back (P := Trym.prog) w 26 9 5 ⟨g, 0, none⟩ cap s.data.toList Trym.underlying26 Trym.underlying5 Trym.underlying9 (fun j hj => by
    rw [WideShapes.add_plain, Nat.zero_add]
    have hj' : j < s.size := by omega
    have := h.cell hj'
    rw [this]
    congr 2
    rw [sb_eq s j hj']
    rfl)
  rw [hl] at H
  simpa using H

/-- After k rounds. -/
def half (s : ByteArray) (k : Nat) : Nat → Int := fun j => if j < k then lowI ((sb s j).toNat : Int) else ((sb s j).toNat : Int)
theorem half_step {wr : World} {g n k c : Nat} {s : ByteArray} (h : BRow wr g n (half s k)) (hc : c = (sb s k).toNat) (q1 : 65 ≤ (c : Int)) (q2 : (c : Int) ≤ 90) :
    BRow (wr.setCell ⟨g, k, none⟩ (.int .u8 ((c : Int) + 97 - 65))) g n (half s (k + 1)) := by
  refine (h.set k _).congr fun j _ => ?_
  unfold half
  by_cases e : j = k
  · subst e
    rw [if_pos rfl, if_pos (by omega), ← hc]
    unfold lowI
    rw [if_pos ⟨q1, q2⟩]
    omega
  · rw [if_neg e]
    by_cases hlt : j < k
    · rw [if_pos hlt, if_pos (by omega)]
    · rw [if_neg hlt, if_neg (by omega)]
theorem half_keep {wr : World} {g n k c : Nat} {s : ByteArray} (h : BRow wr g n (half s k)) (hc : c = (sb s k).toNat) (q : (c : Int) < 65 ∨ 90 < (c : Int)) : BRow wr g n (half s (k + 1)) := by
  refine h.congr fun j _ => ?_
  unfold half
  by_cases e : j = k
  · subst e
    rw [if_neg (by omega), if_pos (by omega), ← hc]
    unfold lowI
    rw [if_neg (by omega)]
  · by_cases hlt : j < k
    · rw [if_pos hlt, if_pos (by omega)]
    · rw [if_neg hlt, if_neg (by omega)]
theorem half_end {wr : World} {g k cap : Nat} {s : ByteArray} (h : BRow wr g s.size (half s k)) (hk : k = s.size) : (convert 26 9 (.slice (some ⟨g, 0, none⟩) s.size cap)).run Trym.prog wr = .ok (.string (lowS s)) wr := by
  have H := conv_back (lowS s) cap wr g (by
    rw [size_lowS]
    refine h.congr fun j hj => ?_
    unfold half
    rw [if_pos (by omega), sb_lowS s j hj, low_toNat])
  rw [size_lowS] at H
  exact H

set_option maxHeartbeats 1000000 in
theorem lower (s : ByteArray) (w : World) (hs : s.size ≤ 1048576) : Calls Trym.prog 12 #[.string s] w fun e w' => e = .returned (.string (lowS s)) ∧ Below w.heap.size w w' := by
  obtain ⟨cap, W1, hconv, hrow, hbel⟩ := conv_bytes s w
  have HR : Hid (BRow W1 w.heap.size s.size (fun j => ((sb s j).toNat : Int))) := hrow
  have HB : Hid (Below w.heap.size w W1) := hbel
  clear hrow hbel
  go_enter Trym.func12, Trym.ntmps12
  go_wp2
  go_loopw [10] (fun i wr => ∃ k : Nat, k ≤ s.size ∧ i = .int .i64 k ∧ Hid (BRow wr w.heap.size s.size (half s k)) ∧ Hid (Below w.heap.size w wr)) (fun i _ => s.size - (intOf i).toNat)
  case atStart => exact ⟨0, Nat.zero_le _, rfl, HR.out.congr (fun j _ => by simp [half]), HB⟩
  case round =>
    obtain ⟨k, hk, rfl, H, hB⟩ := hrel
    by_cases hlt : k < s.size
    · have hi : (k : Int) < (s.size : Int) := by omega
      obtain ⟨c, hc⟩ : ∃ c : Nat, c = (sb s k).toNat := ⟨_, rfl⟩
      have hc2 : c < 256 := by rw [hc]; exact UInt8.toNat_lt _
      have hcell : wr.cell? ⟨w.heap.size, k, none⟩ = some (.int .u8 (c : Int)) := by have := H.out.cell hlt; simpa [hc, half] using this
      have hfr : wr.frozen? ⟨w.heap.size, k, none⟩ = false := H.out.frozen hlt
      have HC : Hid (c = (sb s k).toNat) := hc
      clear hc
      rcases (show (65 ≤ (c : Int) ∧ (c : Int) ≤ 90) ∨ (c : Int) < 65 ∨ 90 < (c : Int) from by omega) with ⟨q1, q2⟩ | q1 | q1
      · have b1 : decide ((65 : Int) ≤ (c : Int)) = true := by simp; omega
        have b2 : decide ((c : Int) ≤ 90) = true := by simp; omega
        have R := half_step H.out HC.out q1 q2
        have HR2 : Hid (BRow (wr.setCell ⟨w.heap.size, k, none⟩ (.int .u8 ((c : Int) + 97 - 65))) w.heap.size s.size (half s (k + 1))) := R
        clear R
        go_wp2
        go_roundw
        case rel => exact ⟨k + 1, by omega, by go_num, HR2, hB.out.setCell (Nat.le_refl _) _⟩
        case measure => simp [intOf]; omega
      · have b1 : decide ((65 : Int) ≤ (c : Int)) = false := by simp; omega
        have HR2 : Hid (BRow wr w.heap.size s.size (half s (k + 1))) := half_keep H.out HC.out (.inl q1)
        go_wp2
        go_roundw
        case rel => exact ⟨k + 1, by omega, by go_num, HR2, hB⟩
        case measure => simp [intOf]; omega
      · have b1 : decide ((65 : Int) ≤ (c : Int)) = true := by simp; omega
        have b2 : decide ((c : Int) ≤ 90) = false := by simp; omega
        have HR2 : Hid (BRow wr w.heap.size s.size (half s (k + 1))) := half_keep H.out HC.out (.inr q1)
        go_wp2
        go_roundw
        case rel => exact ⟨k + 1, by omega, by go_num, HR2, hB⟩
        case measure => simp [intOf]; omega
    · have hback := half_end (cap := cap) H.out (by omega)
      clear H
      go_wp2
      go_ret
      exact ⟨rfl, hB⟩

theorem zzlower (s : ByteArray) (w : World) (hs : s.size ≤ 1048576) : Calls Trym.prog 7 #[.string s] w fun e w' => e = .returned (.string (lowS s)) ∧ Below w.heap.size w w' := by
  have H := lower s w hs
  go_enter Trym.func7, Trym.ntmps7
  go_wp2_with fail
  refine H.mono ?_
  rintro e w' ⟨rfl, hB⟩
  have HB : Hid (Below w.heap.size w w') := hB
  clear hB H
  go_wp2
  go_ret
  exact ⟨rfl, HB⟩

/-! ### lowerOfByte -/
def upTab : ByteArray := ⟨#[65, 66, 67, 68, 69, 70, 71, 72, 73, 74, 75, 76, 77, 78, 79, 80, 81, 82, 83, 84, 85, 86, 87, 88, 89, 90]⟩
def loTab : ByteArray := ⟨#[97, 98, 99, 100, 101, 102, 103, 104, 105, 106, 107, 108, 109, 110, 111, 112, 113, 114, 115, 116, 117, 118, 119, 120, 121, 122]⟩
theorem tab_hit : ∀ k : Fin 26, ((sb loTab k.1).toNat : Int) = lowI ((sb upTab k.1).toNat : Int) := by decide +kernel
theorem tab_miss : ∀ c : Fin 256, (∀ k : Fin 26, ((sb upTab k.1).toNat : Int) ≠ (c.1 : Int)) → (c.1 : Int) = lowI (c.1 : Int) := by decide +kernel
theorem hit_of (k : Nat) (h : k < upTab.size) (h' : k < loTab.size) (c : Int) (ht : ((((upTab[k]'h).toNat : Nat) : Int) == c) = true) : (((loTab[k]'h').toNat : Nat) : Int) = lowI c := by
  rw [beq_iff_eq, ← sb_eq] at ht
  rw [← sb_eq, ← ht]
  exact tab_hit ⟨k, h⟩
theorem miss_step (k : Nat) (h : k < upTab.size) (c : Int) (H : ∀ j, j < k → ((sb upTab j).toNat : Int) ≠ c) (ht : ((((upTab[k]'h).toNat : Nat) : Int) == c) = false) : ∀ j, j < k + 1 → ((sb upTab j).toNat : Int) ≠ c := by
  rw [beq_eq_false_iff_ne, ← sb_eq] at ht
  intro j hj
  by_cases e : j = k
  · rw [e]; exact ht
  · exact H j (by omega)
theorem miss_end (c : Int) (h0 : 0 ≤ c) (h1 : c ≤ 255) (H : ∀ j, j < 26 → ((sb upTab j).toNat : Int) ≠ c) : c = lowI c := by
  have hc : ((c.toNat : Nat) : Int) = c := by omega
  have h := tab_miss ⟨c.toNat, by omega⟩ (fun j => by show ((sb upTab j.1).toNat : Int) ≠ ((c.toNat : Nat) : Int); rw [hc]; exact H j.1 j.2)
  have h' : ((c.toNat : Nat) : Int) = lowI ((c.toNat : Nat) : Int) := h
  rw [hc] at h'
  exact h'

set_option maxHeartbeats 400000 in
theorem lowerOf (c : Int) (w : World) (h0 : 0 ≤ c) (h1 : c ≤ 255) : Calls Trym.prog 8 #[.int .u8 c] w fun e w' => e = .returned (.int .u8 (lowI c)) ∧ w' = w := by
  go_enter Trym.func8, Trym.ntmps8
  go_wp2
  go_loop [3] (fun i => ∃ k : Nat, k ≤ 26 ∧ i = .int .i64 k ∧ Hid (∀ j, j < k → ((sb upTab j).toNat : Int) ≠ c)) (fun i => 26 - (intOf i).toNat)
  case atStart => exact ⟨0, Nat.zero_le _, rfl, fun j hj => absurd hj (Nat.not_lt_zero _)⟩
  case round =>
    obtain ⟨k, hk, rfl, H⟩ := hrel
    by_cases hlt : k < 26
    · go_wp2
      · have ht : ((((upTab[k]'hlt).toNat : Nat) : Int) == c) = true := by assumption
        go_ret
        exact ⟨ret_i (hit_of k hlt hlt c ht), rfl⟩
      · have ht : ((((upTab[k]'hlt).toNat : Nat) : Int) == c) = false := by assumption
        go_round
        case rel => exact ⟨k + 1, by omega, by go_num, miss_step k hlt c H.out ht⟩
        case measure => simp [intOf]; omega
    · go_wp2
      go_ret
      exact ⟨ret_i (miss_end c h0 h1 (fun j hj => H.out j (by omega))), rfl⟩

/-! ### The bounds on total length -/
theorem zz6_any (s : ByteArray) (w : World) (h : s.size ≤ maxLen) : Calls Trym.prog 6 #[.string s] w fun e w' => (∃ bb : Bool, e = .returned (.bool bb) ∧ (bb = true → s.size ≤ 1048576)) ∧ w = w' := by
  unfold maxLen at h
  go_enter Trym.func6, Trym.ntmps6
  go_wp2
  all_goals
    go_ret
    exact ⟨⟨_, rfl, fun h => by first | (cases h; done) | omega⟩, rfl⟩
theorem zz9_any (s t : ByteArray) (w : World) (h : s.size ≤ maxLen) (h' : t.size ≤ maxLen) : Calls Trym.prog 9 #[.string s, .string t] w fun e w' => (∃ bb : Bool, e = .returned (.bool bb) ∧ (bb = true → s.size + t.size ≤ 1048576)) ∧ w = w' := by
  unfold maxLen at h h'
  go_enter Trym.func9, Trym.ntmps9
  go_wp2
  all_goals
    go_ret
    exact ⟨⟨_, rfl, fun h => by first | (cases h; done) | omega⟩, rfl⟩

end Go.Proofs.Qxb6602397aMods
