import Derived.Test.YbulkdepqSym
set_option linter.unusedVariables false
namespace Go.Proofs.Ybulkdepq
open Go.RowKit

theorem kinds2 (c : Int) (h0 : 0 ≤ c) (h1 : c ≤ 255) :
    (97 ≤ c ∧ c ≤ 122) ∨ (65 ≤ c ∧ c ≤ 90) ∨ (95 ≤ c ∧ c ≤ 95) ∨ (46 ≤ c ∧ c ≤ 46) ∨ (36 ≤ c ∧ c ≤ 36) ∨
    c < 36 ∨ (37 ≤ c ∧ c ≤ 45) ∨ (47 ≤ c ∧ c ≤ 64) ∨ (91 ≤ c ∧ c ≤ 94) ∨ (96 ≤ c ∧ c ≤ 96) ∨ 123 ≤ c := by omega

set_option maxHeartbeats 1600000 in
theorem letter_any (c : Int) (w : World) (h0 : 0 ≤ c) (h1 : c ≤ 255) :
    Calls Yba.prog 9 #[.int .u8 c] w fun e w' => e = .returned (.bool (letB c.toNat)) ∧ w = w' := by
  rcases kinds2 c h0 h1 with ⟨g1, g2⟩ | ⟨g1, g2⟩ | ⟨g1, g2⟩ | ⟨g1, g2⟩ | ⟨g1, g2⟩ | g1 | ⟨g1, g2⟩ | ⟨g1, g2⟩ | ⟨g1, g2⟩ | ⟨g1, g2⟩ | g1
  · have HL : Hid (letB c.toNat = true) := decide_eq_true (by omega)
    go_enter Yba.func9, Yba.ntmps9
    go_wp2
    go_ret
    exact ⟨ret_bool HL.out.symm, rfl⟩
  · have HL : Hid (letB c.toNat = true) := decide_eq_true (by omega)
    go_enter Yba.func9, Yba.ntmps9
    go_wp2
    go_ret
    exact ⟨ret_bool HL.out.symm, rfl⟩
  · have HL : Hid (letB c.toNat = true) := decide_eq_true (by omega)
    have d97 : decide (97 ≤ c) = false := decide_eq_false (by omega)
    have d122 : decide (c ≤ 122) = true := decide_eq_true (by omega)
    have d65 : decide (65 ≤ c) = true := decide_eq_true (by omega)
    have d90 : decide (c ≤ 90) = false := decide_eq_false (by omega)
    have e95 : (c == 95) = true := by simp; omega
    have e46 : (c == 46) = false := by simp; omega
    have e36 : (c == 36) = false := by simp; omega
    go_enter Yba.func9, Yba.ntmps9
    go_wp2
    go_ret
    exact ⟨ret_bool HL.out.symm, rfl⟩
  · have HL : Hid (letB c.toNat = true) := decide_eq_true (by omega)
    have d97 : decide (97 ≤ c) = false := decide_eq_false (by omega)
    have d122 : decide (c ≤ 122) = true := decide_eq_true (by omega)
    have d65 : decide (65 ≤ c) = false := decide_eq_false (by omega)
    have d90 : decide (c ≤ 90) = true := decide_eq_true (by omega)
    have e95 : (c == 95) = false := by simp; omega
    have e46 : (c == 46) = true := by simp; omega
    have e36 : (c == 36) = false := by simp; omega
    go_enter Yba.func9, Yba.ntmps9
    go_wp2
    go_ret
    exact ⟨ret_bool HL.out.symm, rfl⟩
  · have HL : Hid (letB c.toNat = true) := decide_eq_true (by omega)
    have d97 : decide (97 ≤ c) = false := decide_eq_false (by omega)
    have d122 : decide (c ≤ 122) = true := decide_eq_true (by omega)
    have d65 : decide (65 ≤ c) = false := decide_eq_false (by omega)
    have d90 : decide (c ≤ 90) = true := decide_eq_true (by omega)
    have e95 : (c == 95) = false := by simp; omega
    have e46 : (c == 46) = false := by simp; omega
    have e36 : (c == 36) = true := by simp; omega
    go_enter Yba.func9, Yba.ntmps9
    go_wp2
    go_ret
    exact ⟨ret_bool HL.out.symm, rfl⟩
  · have HL : Hid (letB c.toNat = false) := decide_eq_false (by omega)
    have d97 : decide (97 ≤ c) = false := decide_eq_false (by omega)
    have d122 : decide (c ≤ 122) = true := decide_eq_true (by omega)
    have d65 : decide (65 ≤ c) = false := decide_eq_false (by omega)
    have d90 : decide (c ≤ 90) = true := decide_eq_true (by omega)
    have e95 : (c == 95) = false := by simp; omega
    have e46 : (c == 46) = false := by simp; omega
    have e36 : (c == 36) = false := by simp; omega
    go_enter Yba.func9, Yba.ntmps9
    go_wp2
    go_ret
    exact ⟨ret_bool HL.out.symm, rfl⟩
  · have HL : Hid (letB c.toNat = false) := decide_eq_false (by omega)
    have d97 : decide (97 ≤ c) = false := decide_eq_false (by omega)
    have d122 : decide (c ≤ 122) = true := decide_eq_true (by omega)
    have d65 : decide (65 ≤ c) = false := decide_eq_false (by omega)
    have d90 : decide (c ≤ 90) = true := decide_eq_true (by omega)
    have e95 : (c == 95) = false := by simp; omega
    have e46 : (c == 46) = false := by simp; omega
    have e36 : (c == 36) = false := by simp; omega
    go_enter Yba.func9, Yba.ntmps9
    go_wp2
    go_ret
    exact ⟨ret_bool HL.out.symm, rfl⟩
  · have HL : Hid (letB c.toNat = false) := decide_eq_false (by omega)
    have d97 : decide (97 ≤ c) = false := decide_eq_false (by omega)
    have d122 : decide (c ≤ 122) = true := decide_eq_true (by omega)
    have d65 : decide (65 ≤ c) = false := decide_eq_false (by omega)
    have d90 : decide (c ≤ 90) = true := decide_eq_true (by omega)
    have e95 : (c == 95) = false := by simp; omega
    have e46 : (c == 46) = false := by simp; omega
    have e36 : (c == 36) = false := by simp; omega
    go_enter Yba.func9, Yba.ntmps9
    go_wp2
    go_ret
    exact ⟨ret_bool HL.out.symm, rfl⟩
  · have HL : Hid (letB c.toNat = false) := decide_eq_false (by omega)
    have d97 : decide (97 ≤ c) = false := decide_eq_false (by omega)
    have d122 : decide (c ≤ 122) = true := decide_eq_true (by omega)
    have d65 : decide (65 ≤ c) = true := decide_eq_true (by omega)
    have d90 : decide (c ≤ 90) = false := decide_eq_false (by omega)
    have e95 : (c == 95) = false := by simp; omega
    have e46 : (c == 46) = false := by simp; omega
    have e36 : (c == 36) = false := by simp; omega
    go_enter Yba.func9, Yba.ntmps9
    go_wp2
    go_ret
    exact ⟨ret_bool HL.out.symm, rfl⟩
  · have HL : Hid (letB c.toNat = false) := decide_eq_false (by omega)
    have d97 : decide (97 ≤ c) = false := decide_eq_false (by omega)
    have d122 : decide (c ≤ 122) = true := decide_eq_true (by omega)
    have d65 : decide (65 ≤ c) = true := decide_eq_true (by omega)
    have d90 : decide (c ≤ 90) = false := decide_eq_false (by omega)
    have e95 : (c == 95) = false := by simp; omega
    have e46 : (c == 46) = false := by simp; omega
    have e36 : (c == 36) = false := by simp; omega
    go_enter Yba.func9, Yba.ntmps9
    go_wp2
    go_ret
    exact ⟨ret_bool HL.out.symm, rfl⟩
  · have HL : Hid (letB c.toNat = false) := decide_eq_false (by omega)
    have d97 : decide (97 ≤ c) = true := decide_eq_true (by omega)
    have d122 : decide (c ≤ 122) = false := decide_eq_false (by omega)
    have d65 : decide (65 ≤ c) = true := decide_eq_true (by omega)
    have d90 : decide (c ≤ 90) = false := decide_eq_false (by omega)
    have e95 : (c == 95) = false := by simp; omega
    have e46 : (c == 46) = false := by simp; omega
    have e36 : (c == 36) = false := by simp; omega
    go_enter Yba.func9, Yba.ntmps9
    go_wp2
    go_ret
    exact ⟨ret_bool HL.out.symm, rfl⟩

theorem ok_zero (c : Nat) : okB 0 c = letB c := by unfold okB letB; simp
theorem ok_let (k c : Nat) (h : letB c = true) : okB k c = true := by unfold okB letB at *; simp only [decide_eq_true_eq] at *; omega
theorem ok_dig (k c : Nat) (hk : 0 < k) (h1 : 48 ≤ c) (h2 : c ≤ 57) : okB k c = true := decide_eq_true (by omega)
theorem ok_no (k c : Nat) (h : letB c = false) (hd : c < 48 ∨ 57 < c) : okB k c = false := by unfold okB letB at *; simp only [decide_eq_false_iff_not] at *; omega
theorem okTo_one {s : ByteArray} (hp : 0 < s.size) (h : letB s[0].toNat = true) : okTo s 1 := fun j hj hj1 => by
  obtain rfl : j = 0 := by omega
  rw [ok_zero]; exact h

set_option maxHeartbeats 1600000 in
theorem model_any (s : ByteArray) (w : World) (hs : s.size ≤ 4096) :
    Calls Yba.prog 7 #[.string s] w fun e w' => e = .returned (.bool (symB s)) ∧ w = w' := by
  have L := fun (c : UInt8) wx => letter_any (c.toNat : Int) wx (by omega) (by have := c.toNat_lt; omega)
  by_cases hp : 0 < s.size
  · have hpb : ((s.size : Int) == 0) = false := decide_eq_false (p := (s.size : Int) = 0) (by omega)
    cases h0 : letB (s[0]'hp).toNat
    · have HN : Hid (symB s = false) := sym_no hp (by rw [ok_zero]; exact h0)
      have L0 := fun wx => L (s[0]'hp) wx
      rw [Int.toNat_natCast, h0] at L0
      clear h0 L
      go_enter Yba.func7, Yba.ntmps7
      go_wp2_with (go_at_call 9; refine (L0 _).mono ?_; rintro e w' ⟨rfl, rfl⟩)
      go_ret
      exact ⟨ret_bool HN.out.symm, rfl⟩
    · have HO : Hid (okTo s 1) := okTo_one hp h0
      have L0 := fun wx => L (s[0]'hp) wx
      rw [Int.toNat_natCast, h0] at L0
      clear h0
      have HL : Hid (∀ (c : UInt8) (wx : World), Calls Yba.prog 9 #[.int .u8 (c.toNat : Int)] wx fun e w' => e = .returned (.bool (letB (c.toNat : Int).toNat)) ∧ wx = w') := L
      clear L
      go_enter Yba.func7, Yba.ntmps7
      go_wp2_with (go_at_call 9; refine (L0 _).mono ?_; rintro e w' ⟨rfl, rfl⟩)
      go_loop [3] (fun i => ∃ k : Nat, 1 ≤ k ∧ k ≤ s.size ∧ i = .int .i64 k ∧ okTo s k) (fun i => s.size - (intOf i).toNat)
      case atStart => exact ⟨1, by omega, by omega, rfl, HO.out⟩
      case round =>
        obtain ⟨k, hk1, hk, rfl, ho⟩ := hrel
        clear L0
        by_cases hlt : k < s.size
        · have L1 := fun wx => HL.out (s[k]'hlt) wx
          rw [Int.toNat_natCast] at L1
          cases hl : letB (s[k]'hlt).toNat
          · rw [hl] at L1
            by_cases hd : 48 ≤ (s[k].toNat : Int) ∧ (s[k].toNat : Int) ≤ 57
            · obtain ⟨g1, g2⟩ := hd
              have HR : Hid (okTo s (k + 1)) := okTo_succ ho hlt (ok_dig _ _ (by omega) (by omega) (by omega))
              clear hl ho
              go_wp2_with (go_at_call 9; refine (L1 _).mono ?_; rintro e w' ⟨rfl, rfl⟩)
              go_round
              case rel => exact ⟨k + 1, by omega, by omega, by go_num, HR.out⟩
              case measure => simp [intOf]; omega
            · have HN : Hid (symB s = false) := sym_no hlt (ok_no _ _ hl (by omega))
              clear hl ho
              by_cases g1 : (s[k].toNat : Int) < 48
              · have d48 : decide (48 ≤ (s[k].toNat : Int)) = false := decide_eq_false (by omega)
                go_wp2_with (go_at_call 9; refine (L1 _).mono ?_; rintro e w' ⟨rfl, rfl⟩)
                go_ret
                exact ⟨ret_bool HN.out.symm, rfl⟩
              · have d48 : decide (48 ≤ (s[k].toNat : Int)) = true := decide_eq_true (by omega)
                have d57 : decide ((s[k].toNat : Int) ≤ 57) = false := decide_eq_false (by omega)
                go_wp2_with (go_at_call 9; refine (L1 _).mono ?_; rintro e w' ⟨rfl, rfl⟩)
                go_ret
                exact ⟨ret_bool HN.out.symm, rfl⟩
          · rw [hl] at L1
            have HR : Hid (okTo s (k + 1)) := okTo_succ ho hlt (ok_let _ _ hl)
            clear hl ho
            go_wp2_with (go_at_call 9; refine (L1 _).mono ?_; rintro e w' ⟨rfl, rfl⟩)
            go_round
            case rel => exact ⟨k + 1, by omega, by omega, by go_num, HR.out⟩
            case measure => simp [intOf]; omega
        · obtain rfl : k = s.size := by omega
          have HY : Hid (symB s = true) := sym_yes ho hp
          clear ho
          go_wp2
          go_ret
          exact ⟨ret_bool HY.out.symm, rfl⟩
  · have hpb : ((s.size : Int) == 0) = true := decide_eq_true (p := (s.size : Int) = 0) (by omega)
    have HN : Hid (symB s = false) := sym_none (by omega)
    go_enter Yba.func7, Yba.ntmps7
    go_wp2
    go_ret
    exact ⟨ret_bool HN.out.symm, rfl⟩
end Go.Proofs.Ybulkdepq
