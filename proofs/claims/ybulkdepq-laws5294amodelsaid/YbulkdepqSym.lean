import Derived.Test.YbulkdepqRows
import Derived.WalkKit
import Derived.ProofKit
import Derived.WalkSpells
set_option linter.unusedVariables false
namespace Go.Proofs.Ybulkdepq
open Go.RowKit

def letB (c : Nat) : Bool := decide ((97 ≤ c ∧ c ≤ 122) ∨ (65 ≤ c ∧ c ≤ 90) ∨ c = 95 ∨ c = 46 ∨ c = 36)
def okB (i c : Nat) : Bool := decide ((97 ≤ c ∧ c ≤ 122) ∨ (65 ≤ c ∧ c ≤ 90) ∨ c = 95 ∨ c = 46 ∨ c = 36 ∨ (0 < i ∧ 48 ≤ c ∧ c ≤ 57))
/-- the first k bytes are fine -/
def okTo (s : ByteArray) (k : Nat) : Prop := ∀ j, (h : j < s.size) → j < k → okB j s[j].toNat = true
/-- symbolName's answer -/
def symB (s : ByteArray) : Bool := decide (0 < s.size ∧ ∀ j, (h : j < s.size) → okB j s[j].toNat = true)

theorem okTo_zero (s : ByteArray) : okTo s 0 := fun j _ h => by omega
theorem okTo_succ {s : ByteArray} {k : Nat} (h : okTo s k) (hk : k < s.size) (ho : okB k s[k].toNat = true) : okTo s (k + 1) := by
  intro j hj hjk
  rcases Nat.lt_or_ge j k with hl | hl
  · exact h j hj hl
  · obtain rfl : j = k := by omega
    exact ho
theorem sym_no {s : ByteArray} {k : Nat} (hk : k < s.size) (ho : okB k s[k].toNat = false) : symB s = false := by
  unfold symB
  refine decide_eq_false fun ⟨_, h⟩ => ?_
  rw [h k hk] at ho; cases ho
theorem sym_yes {s : ByteArray} (h : okTo s s.size) (hp : 0 < s.size) : symB s = true := decide_eq_true ⟨hp, fun j hj => h j hj hj⟩
theorem sym_none {s : ByteArray} (hp : s.size = 0) : symB s = false := decide_eq_false fun ⟨h, _⟩ => by omega
theorem ret_bool {a b : Bool} (h : a = b) : Ending.returned (.bool a) = .returned (.bool b) := by rw [h]
/-- every byte is of one of these kinds -/
theorem kinds (c : Int) (k : Nat) (h0 : 0 ≤ c) (h1 : c ≤ 255) :
    (97 ≤ c ∧ c ≤ 122) ∨ (65 ≤ c ∧ c ≤ 90) ∨ (95 ≤ c ∧ c ≤ 95) ∨ (46 ≤ c ∧ c ≤ 46) ∨ (36 ≤ c ∧ c ≤ 36) ∨ (48 ≤ c ∧ c ≤ 57 ∧ 0 < k) ∨
    ((48 ≤ c ∧ c ≤ 57 ∧ k ≤ 0) ∨ c < 36 ∨ (37 ≤ c ∧ c ≤ 45) ∨ (47 ≤ c ∧ c ≤ 47) ∨ (58 ≤ c ∧ c ≤ 64) ∨ (91 ≤ c ∧ c ≤ 94) ∨ (96 ≤ c ∧ c ≤ 96) ∨ 123 ≤ c) := by omega

set_option maxHeartbeats 1600000 in
theorem symbolName_any (s : ByteArray) (w : World) (hs : s.size ≤ maxLen) :
    Calls Yba.prog 6 #[.string s] w fun e w' => e = .returned (.bool (symB s)) ∧ w' = w := by
  unfold maxLen at hs
  go_enter Yba.func6, Yba.ntmps6
  go_wp2
  go_loop [3] (fun i => ∃ k : Nat, k ≤ s.size ∧ i = .int .i64 k ∧ okTo s k) (fun i => s.size - (intOf i).toNat)
  case atStart => exact ⟨0, Nat.zero_le _, rfl, okTo_zero s⟩
  case round =>
    obtain ⟨k, hk, rfl, ho⟩ := hrel
    by_cases hlt : k < s.size
    · have hb : (s[k].toNat : Int) ≤ 255 := by have := s[k].toNat_lt; omega
      have hb0 : 0 ≤ (s[k].toNat : Int) := by omega
      rcases kinds (s[k].toNat : Int) k hb0 hb with h | h | h | h | h | h | h
      · obtain ⟨h1, h2⟩ := h
        go_wp2
        go_round
        case rel => exact ⟨k + 1, by omega, by go_num, okTo_succ ho hlt (decide_eq_true (by omega))⟩
        case measure => simp [intOf]; omega
      · obtain ⟨h1, h2⟩ := h
        go_wp2
        go_round
        case rel => exact ⟨k + 1, by omega, by go_num, okTo_succ ho hlt (decide_eq_true (by omega))⟩
        case measure => simp [intOf]; omega
      · obtain ⟨h1, h2⟩ := h
        go_wp2
        go_round
        case rel => exact ⟨k + 1, by omega, by go_num, okTo_succ ho hlt (decide_eq_true (by omega))⟩
        case measure => simp [intOf]; omega
      · obtain ⟨h1, h2⟩ := h
        go_wp2
        go_round
        case rel => exact ⟨k + 1, by omega, by go_num, okTo_succ ho hlt (decide_eq_true (by omega))⟩
        case measure => simp [intOf]; omega
      · obtain ⟨h1, h2⟩ := h
        go_wp2
        go_round
        case rel => exact ⟨k + 1, by omega, by go_num, okTo_succ ho hlt (decide_eq_true (by omega))⟩
        case measure => simp [intOf]; omega
      · obtain ⟨h1, h2, h3⟩ := h
        go_wp2
        go_round
        case rel => exact ⟨k + 1, by omega, by go_num, okTo_succ ho hlt (decide_eq_true (by omega))⟩
        case measure => simp [intOf]; omega
      · have hno : symB s = false := sym_no hlt (decide_eq_false (by omega))
        have HNO : Hid (symB s = false) := hno
        clear hno
        have hne : (s[k].toNat : Int) ≠ 95 ∧ (s[k].toNat : Int) ≠ 46 ∧ (s[k].toNat : Int) ≠ 36 := by omega
        have q1 : ((s[k].toNat : Int) == 95) = false := by simpa using hne.1
        have q2 : ((s[k].toNat : Int) == 46) = false := by simpa using hne.2.1
        have q3 : ((s[k].toNat : Int) == 36) = false := by simpa using hne.2.2
        clear hne
        rcases h with ⟨h1, h2, h3⟩ | h1 | ⟨h1, h2⟩ | ⟨h1, h2⟩ | ⟨h1, h2⟩ | ⟨h1, h2⟩ | ⟨h1, h2⟩ | h1
        · have d97 : decide (97 ≤ (s[k].toNat : Int)) = false := decide_eq_false (by omega)
          have d122 : decide ((s[k].toNat : Int) ≤ 122) = true := decide_eq_true (by omega)
          have d65 : decide (65 ≤ (s[k].toNat : Int)) = false := decide_eq_false (by omega)
          have d90 : decide ((s[k].toNat : Int) ≤ 90) = true := decide_eq_true (by omega)
          have d48 : decide (48 ≤ (s[k].toNat : Int)) = true := decide_eq_true (by omega)
          have d57 : decide ((s[k].toNat : Int) ≤ 57) = true := decide_eq_true (by omega)
          have dk : decide ((0 : Int) < (k : Int)) = false := decide_eq_false (by omega)
          go_wp2
          go_ret
          exact ⟨ret_bool HNO.out.symm, rfl⟩
        · have d97 : decide (97 ≤ (s[k].toNat : Int)) = false := decide_eq_false (by omega)
          have d122 : decide ((s[k].toNat : Int) ≤ 122) = true := decide_eq_true (by omega)
          have d65 : decide (65 ≤ (s[k].toNat : Int)) = false := decide_eq_false (by omega)
          have d90 : decide ((s[k].toNat : Int) ≤ 90) = true := decide_eq_true (by omega)
          have d48 : decide (48 ≤ (s[k].toNat : Int)) = false := decide_eq_false (by omega)
          have d57 : decide ((s[k].toNat : Int) ≤ 57) = true := decide_eq_true (by omega)
          by_cases hk0 : 0 < k
          · have dk : decide ((0 : Int) < (k : Int)) = true := decide_eq_true (by omega)
            go_wp2
            go_ret
            exact ⟨ret_bool HNO.out.symm, rfl⟩
          · have dk : decide ((0 : Int) < (k : Int)) = false := decide_eq_false (by omega)
            go_wp2
            go_ret
            exact ⟨ret_bool HNO.out.symm, rfl⟩
        · have d97 : decide (97 ≤ (s[k].toNat : Int)) = false := decide_eq_false (by omega)
          have d122 : decide ((s[k].toNat : Int) ≤ 122) = true := decide_eq_true (by omega)
          have d65 : decide (65 ≤ (s[k].toNat : Int)) = false := decide_eq_false (by omega)
          have d90 : decide ((s[k].toNat : Int) ≤ 90) = true := decide_eq_true (by omega)
          have d48 : decide (48 ≤ (s[k].toNat : Int)) = false := decide_eq_false (by omega)
          have d57 : decide ((s[k].toNat : Int) ≤ 57) = true := decide_eq_true (by omega)
          by_cases hk0 : 0 < k
          · have dk : decide ((0 : Int) < (k : Int)) = true := decide_eq_true (by omega)
            go_wp2
            go_ret
            exact ⟨ret_bool HNO.out.symm, rfl⟩
          · have dk : decide ((0 : Int) < (k : Int)) = false := decide_eq_false (by omega)
            go_wp2
            go_ret
            exact ⟨ret_bool HNO.out.symm, rfl⟩
        · have d97 : decide (97 ≤ (s[k].toNat : Int)) = false := decide_eq_false (by omega)
          have d122 : decide ((s[k].toNat : Int) ≤ 122) = true := decide_eq_true (by omega)
          have d65 : decide (65 ≤ (s[k].toNat : Int)) = false := decide_eq_false (by omega)
          have d90 : decide ((s[k].toNat : Int) ≤ 90) = true := decide_eq_true (by omega)
          have d48 : decide (48 ≤ (s[k].toNat : Int)) = false := decide_eq_false (by omega)
          have d57 : decide ((s[k].toNat : Int) ≤ 57) = true := decide_eq_true (by omega)
          by_cases hk0 : 0 < k
          · have dk : decide ((0 : Int) < (k : Int)) = true := decide_eq_true (by omega)
            go_wp2
            go_ret
            exact ⟨ret_bool HNO.out.symm, rfl⟩
          · have dk : decide ((0 : Int) < (k : Int)) = false := decide_eq_false (by omega)
            go_wp2
            go_ret
            exact ⟨ret_bool HNO.out.symm, rfl⟩
        · have d97 : decide (97 ≤ (s[k].toNat : Int)) = false := decide_eq_false (by omega)
          have d122 : decide ((s[k].toNat : Int) ≤ 122) = true := decide_eq_true (by omega)
          have d65 : decide (65 ≤ (s[k].toNat : Int)) = false := decide_eq_false (by omega)
          have d90 : decide ((s[k].toNat : Int) ≤ 90) = true := decide_eq_true (by omega)
          have d48 : decide (48 ≤ (s[k].toNat : Int)) = true := decide_eq_true (by omega)
          have d57 : decide ((s[k].toNat : Int) ≤ 57) = false := decide_eq_false (by omega)
          by_cases hk0 : 0 < k
          · have dk : decide ((0 : Int) < (k : Int)) = true := decide_eq_true (by omega)
            go_wp2
            go_ret
            exact ⟨ret_bool HNO.out.symm, rfl⟩
          · have dk : decide ((0 : Int) < (k : Int)) = false := decide_eq_false (by omega)
            go_wp2
            go_ret
            exact ⟨ret_bool HNO.out.symm, rfl⟩
        · have d97 : decide (97 ≤ (s[k].toNat : Int)) = false := decide_eq_false (by omega)
          have d122 : decide ((s[k].toNat : Int) ≤ 122) = true := decide_eq_true (by omega)
          have d65 : decide (65 ≤ (s[k].toNat : Int)) = true := decide_eq_true (by omega)
          have d90 : decide ((s[k].toNat : Int) ≤ 90) = false := decide_eq_false (by omega)
          have d48 : decide (48 ≤ (s[k].toNat : Int)) = true := decide_eq_true (by omega)
          have d57 : decide ((s[k].toNat : Int) ≤ 57) = false := decide_eq_false (by omega)
          by_cases hk0 : 0 < k
          · have dk : decide ((0 : Int) < (k : Int)) = true := decide_eq_true (by omega)
            go_wp2
            go_ret
            exact ⟨ret_bool HNO.out.symm, rfl⟩
          · have dk : decide ((0 : Int) < (k : Int)) = false := decide_eq_false (by omega)
            go_wp2
            go_ret
            exact ⟨ret_bool HNO.out.symm, rfl⟩
        · have d97 : decide (97 ≤ (s[k].toNat : Int)) = false := decide_eq_false (by omega)
          have d122 : decide ((s[k].toNat : Int) ≤ 122) = true := decide_eq_true (by omega)
          have d65 : decide (65 ≤ (s[k].toNat : Int)) = true := decide_eq_true (by omega)
          have d90 : decide ((s[k].toNat : Int) ≤ 90) = false := decide_eq_false (by omega)
          have d48 : decide (48 ≤ (s[k].toNat : Int)) = true := decide_eq_true (by omega)
          have d57 : decide ((s[k].toNat : Int) ≤ 57) = false := decide_eq_false (by omega)
          by_cases hk0 : 0 < k
          · have dk : decide ((0 : Int) < (k : Int)) = true := decide_eq_true (by omega)
            go_wp2
            go_ret
            exact ⟨ret_bool HNO.out.symm, rfl⟩
          · have dk : decide ((0 : Int) < (k : Int)) = false := decide_eq_false (by omega)
            go_wp2
            go_ret
            exact ⟨ret_bool HNO.out.symm, rfl⟩
        · have d97 : decide (97 ≤ (s[k].toNat : Int)) = true := decide_eq_true (by omega)
          have d122 : decide ((s[k].toNat : Int) ≤ 122) = false := decide_eq_false (by omega)
          have d65 : decide (65 ≤ (s[k].toNat : Int)) = true := decide_eq_true (by omega)
          have d90 : decide ((s[k].toNat : Int) ≤ 90) = false := decide_eq_false (by omega)
          have d48 : decide (48 ≤ (s[k].toNat : Int)) = true := decide_eq_true (by omega)
          have d57 : decide ((s[k].toNat : Int) ≤ 57) = false := decide_eq_false (by omega)
          by_cases hk0 : 0 < k
          · have dk : decide ((0 : Int) < (k : Int)) = true := decide_eq_true (by omega)
            go_wp2
            go_ret
            exact ⟨ret_bool HNO.out.symm, rfl⟩
          · have dk : decide ((0 : Int) < (k : Int)) = false := decide_eq_false (by omega)
            go_wp2
            go_ret
            exact ⟨ret_bool HNO.out.symm, rfl⟩
    · obtain rfl : k = s.size := by omega
      by_cases hp : 0 < s.size
      · have hne : (s.toList == []) = false := by
          rw [ByteArray.toList_eq]; cases hd : s.data.toList with
          | nil => have h1 := congrArg List.length hd; have h2 : s.data.toList.length = s.size := by simp
                   rw [h2] at h1; simp only [List.length_nil] at h1; omega
          | cons a l => rfl
        have HY : Hid (symB s = true) := sym_yes ho hp
        go_wp2
        go_ret
        exact ⟨ret_bool HY.out.symm, rfl⟩
      · have HY : Hid (symB s = false) := sym_none (by omega)
        have hne : (s.toList == []) = true := by
          rw [ByteArray.toList_eq]; cases hd : s.data.toList with
          | nil => rfl
          | cons a l => have h1 := congrArg List.length hd; have h2 : s.data.toList.length = s.size := by simp
                        rw [h2] at h1; simp only [List.length_cons] at h1; omega
        go_wp2
        go_ret
        exact ⟨ret_bool HY.out.symm, rfl⟩
end Go.Proofs.Ybulkdepq
