/-
  THE WALKS of zzLookup (9), zzLookupIs (8), zzMemberIndex (7) and zzBytes (5).
-/
import Derived.Test.Qxb6601880aModsRows
import Derived.WalkKit
import Derived.ProofKit
import Derived.Below
import Derived.WalkSpells
import Derived.WalkLawsBesides
namespace Go.Proofs.Qxb6601880aMods
open Go.RowKit
set_option linter.unusedVariables false

/-- The nine member names, in the order of the JSON shape. -/
def nmOf : Nat → ByteArray
  | 0 => ⟨#[115, 101, 110, 100, 101, 114]⟩
  | 1 => ⟨#[115, 101, 110, 100, 101, 114, 116, 121, 112, 101]⟩
  | 2 => ⟨#[100, 101, 115, 116, 105, 110, 97, 116, 105, 111, 110]⟩
  | 3 => ⟨#[116, 101, 120, 116]⟩
  | 4 => ⟨#[115, 101, 110, 100, 116, 105, 109, 101]⟩
  | 5 => ⟨#[115, 116, 97, 116, 117, 115]⟩
  | 6 => ⟨#[115, 116, 97, 116, 117, 115, 116, 105, 109, 101]⟩
  | 7 => ⟨#[117, 100, 104]⟩
  | _ => ⟨#[102, 108, 97, 115, 104]⟩

theorem member (i : Nat) (hi : i < 9) (w : World) : Calls Trym.prog 7 #[.string (nmOf i)] w fun e w' => e = .returned (.int .i64 i) ∧ w = w' := by
  match i, hi with
  | 0, _ | 1, _ | 2, _ | 3, _ | 4, _ | 5, _ | 6, _ | 7, _ | 8, _ =>
    unfold nmOf
    go_enter Trym.func7, Trym.ntmps7
    go_wp2
    go_ret
    exact ⟨rfl, rfl⟩

set_option maxHeartbeats 400000 in
theorem lookup_hit (gn cn gv cv n j : Nat) (P Q : Nat → ByteArray) (key : ByteArray) (w : World) (hn : n ≤ 100) (hj : j < n)
    (hN : ∀ i, i < n → w.cell? ⟨gn, i, none⟩ = some (.string (P i))) (hV : ∀ i, i < n → w.cell? ⟨gv, i, none⟩ = some (.string (Q i)))
    (hit : ((P j).toList == key.toList) = true) (miss : ∀ i, i < j → ((P i).toList == key.toList) = false) :
    Calls Trym.prog 9 #[.slice (some ⟨gn, 0, none⟩) n cn, .slice (some ⟨gv, 0, none⟩) n cv, .string key] w fun e w' => e = .returned (.tuple #[.string (Q j), .bool true]) ∧ w = w' := by
  go_enter Trym.func9, Trym.ntmps9
  go_wp2
  go_loop [8] (fun i => ∃ k : Nat, k ≤ j ∧ i = .int .i64 k) (fun i => n - (intOf i).toNat)
  case atStart => exact ⟨0, Nat.zero_le _, rfl⟩
  case round =>
    obtain ⟨k, hk, rfl⟩ := hrel
    have hkn : (k : Int) < (n : Int) := by omega
    have h1 := hN k (by omega)
    have h2 := hV k (by omega)
    clear hN hV
    by_cases hlt : k < j
    · have hm := miss k hlt
      clear miss hit
      go_wp2
      go_round
      case rel => exact ⟨k + 1, by omega, by go_num⟩
      case measure => simp [intOf]; omega
    · obtain rfl : k = j := by omega
      clear miss
      go_wp2
      go_ret2
      exact ⟨rfl, rfl⟩

set_option maxHeartbeats 400000 in
theorem lookup_miss (gn cn gv cv n : Nat) (P : Nat → ByteArray) (key : ByteArray) (w : World) (hn : n ≤ 100)
    (hN : ∀ i, i < n → w.cell? ⟨gn, i, none⟩ = some (.string (P i))) (miss : ∀ i, i < n → ((P i).toList == key.toList) = false) :
    Calls Trym.prog 9 #[.slice (some ⟨gn, 0, none⟩) n cn, .slice (some ⟨gv, 0, none⟩) n cv, .string key] w fun e w' => e = .returned (.tuple #[.string ⟨#[]⟩, .bool false]) ∧ w = w' := by
  go_enter Trym.func9, Trym.ntmps9
  go_wp2
  go_loop [8] (fun i => ∃ k : Nat, k ≤ n ∧ i = .int .i64 k) (fun i => n - (intOf i).toNat)
  case atStart => exact ⟨0, Nat.zero_le _, rfl⟩
  case round =>
    obtain ⟨k, hk, rfl⟩ := hrel
    by_cases hlt : k < n
    · have h1 := hN k hlt
      have hm := miss k hlt
      have hkn : (k : Int) < (n : Int) := by omega
      clear miss hN
      go_wp2
      go_round
      case rel => exact ⟨k + 1, by omega, by go_num⟩
      case measure => simp [intOf]; omega
    · have hkn : decide ((k : Int) < (n : Int)) = false := by simp; omega
      clear miss hN
      go_wp2
      go_ret2
      exact ⟨rfl, rfl⟩

/-! ### zzLookupIs -/
theorem is_hit (gn cn gv cv n j : Nat) (P Q : Nat → ByteArray) (key want : ByteArray) (w : World) (hn : n ≤ 100) (hj : j < n)
    (hN : ∀ i, i < n → w.cell? ⟨gn, i, none⟩ = some (.string (P i))) (hV : ∀ i, i < n → w.cell? ⟨gv, i, none⟩ = some (.string (Q i)))
    (hit : ((P j).toList == key.toList) = true) (miss : ∀ i, i < j → ((P i).toList == key.toList) = false) (hw : ((Q j).toList == want.toList) = true) :
    Calls Trym.prog 8 #[.slice (some ⟨gn, 0, none⟩) n cn, .slice (some ⟨gv, 0, none⟩) n cv, .string key, .string want, .bool true] w fun e w' => e = .returned (.bool true) ∧ w = w' := by
  have H := lookup_hit gn cn gv cv n j P Q key w hn hj hN hV hit miss
  clear hN hV hit miss
  go_enter Trym.func8, Trym.ntmps8
  go_wp2_with (go_at_call 9; refine H.mono ?_; rintro e w' ⟨rfl, rfl⟩)
  go_ret
  exact ⟨rfl, rfl⟩

theorem is_miss (gn cn gv cv n : Nat) (P : Nat → ByteArray) (key want : ByteArray) (w : World) (hn : n ≤ 100)
    (hN : ∀ i, i < n → w.cell? ⟨gn, i, none⟩ = some (.string (P i))) (miss : ∀ i, i < n → ((P i).toList == key.toList) = false) :
    Calls Trym.prog 8 #[.slice (some ⟨gn, 0, none⟩) n cn, .slice (some ⟨gv, 0, none⟩) n cv, .string key, .string want, .bool false] w fun e w' => e = .returned (.bool true) ∧ w = w' := by
  have H := lookup_miss gn cn gv cv n P key w hn hN miss
  clear hN miss
  go_enter Trym.func8, Trym.ntmps8
  go_wp2_with (go_at_call 9; refine H.mono ?_; rintro e w' ⟨rfl, rfl⟩)
  go_ret
  exact ⟨rfl, rfl⟩

/-! ### zzBytes: it answers some bool and turns nothing -/
set_option maxHeartbeats 1600000 in
theorem zz5_any (s0 s1 s2 s3 s4 s5 s6 s7 : ByteArray) (v : Value) (w : World) (h0 : s0.size ≤ maxLen) (h1 : s1.size ≤ maxLen) (h2 : s2.size ≤ maxLen) (h3 : s3.size ≤ maxLen) (h4 : s4.size ≤ maxLen) (h5 : s5.size ≤ maxLen) (h6 : s6.size ≤ maxLen) (h7 : s7.size ≤ maxLen) :
    Calls Trym.prog 5 #[.string s0, .string s1, .string s2, .string s3, .string s4, .string s5, .string s6, .string s7, v] w fun e w' =>
      (∃ bb : Bool, e = .returned (.bool bb) ∧ (bb = true → s0.size + s1.size + s2.size + s3.size + s4.size + s5.size + s6.size + s7.size ≤ 1048576)) ∧ w = w' := by
  unfold maxLen at h0 h1 h2 h3 h4 h5 h6 h7
  go_enter Trym.func5, Trym.ntmps5
  go_wp2
  all_goals
    go_ret
    exact ⟨⟨_, rfl, fun h => by first | (cases h; done) | omega⟩, rfl⟩

/-! ### Looking up in the lists that ZZFields hands out -/
/-- Which member stands at place i: e: udh is empty (then place 7 is flash's). -/
def ix (e : Bool) (i : Nat) : Nat := if e = true ∧ i = 7 then 8 else i
/-- How many fields: has: the flag is there. -/
def cnt (e has : Bool) : Nat := 7 + (if e then 0 else 1) + (if has then 1 else 0)
theorem cnt_bounds (e has : Bool) : 7 ≤ cnt e has ∧ cnt e has ≤ 9 := by cases e <;> cases has <;> decide
theorem ix_lt (e has : Bool) (i : Nat) (h : i < cnt e has) : ix e i < 9 := by
  have := cnt_bounds e has
  unfold ix; split <;> omega

theorem nm_fin : ∀ i : Fin 9, ∀ j : Fin 9, i ≠ j → ((nmOf i.1).toList == (nmOf j.1).toList) = false := by decide +kernel
theorem nm_ne (i j : Nat) (hi : i < 9) (hj : j < 9) (h : i ≠ j) : ((nmOf i).toList == (nmOf j).toList) = false :=
  nm_fin ⟨i, hi⟩ ⟨j, hj⟩ (fun e => h (congrArg Fin.val e))

structure Lists (w : World) (gn gv : Nat) (e has : Bool) (V : Nat → ByteArray) : Prop where
  names : ∀ i, i < cnt e has → w.cell? ⟨gn, i, none⟩ = some (.string (nmOf (ix e i)))
  vals : ∀ i, i < cnt e has → w.cell? ⟨gv, i, none⟩ = some (.string (V (ix e i)))

theorem is_low {w : World} {gn gv : Nat} {e has : Bool} {V : Nat → ByteArray} (L : Lists w gn gv e has V) (cn cv j : Nat) (hj : j < 7) :
    Calls Trym.prog 8 #[.slice (some ⟨gn, 0, none⟩) (cnt e has) cn, .slice (some ⟨gv, 0, none⟩) (cnt e has) cv, .string (nmOf j), .string (V j), .bool true] w fun en w' => en = .returned (.bool true) ∧ w = w' := by
  have hb := cnt_bounds e has
  have hix : ∀ i, i < 7 → ix e i = i := fun i hi => by unfold ix; rw [if_neg (by omega)]
  exact is_hit gn cn gv cv (cnt e has) j (fun i => nmOf (ix e i)) (fun i => V (ix e i)) (nmOf j) (V j) w (by omega) (by omega) L.names L.vals (by simp [hix j hj]) (fun i hi => by show ((nmOf (ix e i)).toList == (nmOf j).toList) = false; rw [hix i (by omega)]; exact nm_ne i j (by omega) (by omega) (by omega)) (by simp [hix j hj])

theorem is_udh {w : World} {gn gv : Nat} {e has : Bool} {V : Nat → ByteArray} (L : Lists w gn gv e has V) (cn cv : Nat) :
    Calls Trym.prog 8 #[.slice (some ⟨gn, 0, none⟩) (cnt e has) cn, .slice (some ⟨gv, 0, none⟩) (cnt e has) cv, .string (nmOf 7), .string (V 7), .bool (!e)] w fun en w' => en = .returned (.bool true) ∧ w = w' := by
  have hb := cnt_bounds e has
  cases e
  · have hix : ∀ i, ix false i = i := fun i => by unfold ix; simp
    have h8 : 7 < cnt false has := by cases has <;> decide
    exact is_hit gn cn gv cv (cnt false has) 7 (fun i => nmOf (ix false i)) (fun i => V (ix false i)) (nmOf 7) (V 7) w (by omega) h8 L.names L.vals (by simp [hix]) (fun i hi => by show ((nmOf (ix false i)).toList == (nmOf 7).toList) = false; rw [hix i]; exact nm_ne i 7 (by omega) (by omega) (by omega)) (by simp [hix])
  · exact is_miss gn cn gv cv (cnt true has) (fun i => nmOf (ix true i)) (nmOf 7) (V 7) w (by omega) L.names (fun i hi => nm_ne _ 7 (ix_lt true has i hi) (by omega) (by unfold ix; split <;> simp_all))

theorem flash_hit {w : World} {gn gv : Nat} {e : Bool} {V : Nat → ByteArray} (L : Lists w gn gv e true V) (cn cv : Nat) :
    Calls Trym.prog 9 #[.slice (some ⟨gn, 0, none⟩) (cnt e true) cn, .slice (some ⟨gv, 0, none⟩) (cnt e true) cv, .string (nmOf 8)] w fun en w' => en = .returned (.tuple #[.string (V 8), .bool true]) ∧ w = w' := by
  have hb := cnt_bounds e true
  have h8 : ix e (cnt e true - 1) = 8 := by cases e <;> decide
  have hlow : ∀ i, i < cnt e true - 1 → ix e i < 8 := by
    intro i hi
    cases e
    · unfold ix; simp; simp [cnt] at hi; omega
    · unfold ix; simp [cnt] at hi; rw [if_neg (by omega)]; omega
  have H := lookup_hit gn cn gv cv (cnt e true) (cnt e true - 1) (fun i => nmOf (ix e i)) (fun i => V (ix e i)) (nmOf 8) w (by omega) (by omega) L.names L.vals (by simp [h8]) (fun i hi => nm_ne _ 8 (by have := hlow i hi; omega) (by omega) (by have := hlow i hi; omega))
  simp only [h8] at H
  exact H

theorem flash_miss {w : World} {gn gv : Nat} {e : Bool} {V : Nat → ByteArray} (L : Lists w gn gv e false V) (cn cv : Nat) :
    Calls Trym.prog 9 #[.slice (some ⟨gn, 0, none⟩) (cnt e false) cn, .slice (some ⟨gv, 0, none⟩) (cnt e false) cv, .string (nmOf 8)] w fun en w' => en = .returned (.tuple #[.string ⟨#[]⟩, .bool false]) ∧ w = w' := by
  have hb := cnt_bounds e false
  have hlow : ∀ i, i < cnt e false → ix e i < 8 := by
    intro i hi
    cases e
    · unfold ix; simp; simp [cnt] at hi; omega
    · unfold ix; simp [cnt] at hi; rw [if_neg (by omega)]; omega
  exact lookup_miss gn cn gv cv (cnt e false) (fun i => nmOf (ix e i)) (nmOf 8) w (by omega) L.names (fun i hi => nm_ne _ 8 (by have := hlow i hi; omega) (by omega) (by have := hlow i hi; omega))

/-- The member before place k (-1: none). -/
def pr (e : Bool) (k : Nat) : Int := if k = 0 then -1 else (ix e (k - 1) : Int)
theorem pr_zero (e : Bool) : pr e 0 = -1 := rfl
theorem pr_succ (e : Bool) (k : Nat) : pr e (k + 1) = (ix e k : Int) := by simp [pr]
theorem pr_lt (e has : Bool) (k : Nat) (h : k < cnt e has) : pr e k < (ix e k : Int) := by
  have hb := cnt_bounds e has
  unfold pr
  split
  · omega
  · have h1 : ix e (k - 1) = k - 1 ∨ (e = true ∧ k = 8) := by unfold ix; split <;> simp_all <;> omega
    rcases h1 with h1 | ⟨rfl, rfl⟩
    · have h2 : k ≤ ix e k := by unfold ix; split <;> omega
      omega
    · cases has <;> simp [cnt] at h

end Go.Proofs.Qxb6601880aMods
