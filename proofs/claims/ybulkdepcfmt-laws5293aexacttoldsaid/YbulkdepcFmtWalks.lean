import Derived.Test.YbulkdepcFmtFacts
set_option linter.unusedVariables false
namespace Go.Proofs.YbulkdepcFmt
open Go.RowKit Go.Extern.Stop Go.Stop Go.Extern

theorem ret_pair {a b : Int} {v : Value} (h : a = b) : Ending.returned (.tuple #[.int .i64 a, v]) = .returned (.tuple #[.int .i64 b, v]) := by rw [h]
theorem belowA {w w' : World} {o : Obj} (h : Below (w.alloc o).heap.size (w.alloc o) w') : Below w.heap.size w w' :=
  ((Below.refl _ _).alloc (Nat.le_refl _) o).trans (h.mono (by simp))

set_option maxHeartbeats 400000 in
theorem checkTerm_no (F : Interp) (d : Int) (w : World) (hF : F.answers w.tape) (h : d < 1 ∨ 36000 < d) :
    Calls Ybaf.prog 7 #[.int .i64 d] w fun e w' => ∃ a, e = .returned (.iface 34 (.pointer (some a))) ∧ Below w.heap.size w w' := by
  rcases h with h | h
  · go_enter Ybaf.func7, Ybaf.ntmps7
    go_wp2_with (go_at_call 6; refine (errorf2 F d 36000 _ _ (by exact hF) (by go_simp) (by go_simp)).mono ?_; rintro e w' ⟨a, rfl, hb⟩)
    go_ret
    exact ⟨_, rfl, belowA hb⟩
  · have h' : ¬ d < 1 := by omega
    go_enter Ybaf.func7, Ybaf.ntmps7
    go_wp2_with (go_at_call 6; refine (errorf2 F d 36000 _ _ (by exact hF) (by go_simp) (by go_simp)).mono ?_; rintro e w' ⟨a, rfl, hb⟩)
    go_ret
    exact ⟨_, rfl, belowA hb⟩

theorem checkTerm_ok (d : Int) (w : World) (h1 : 1 ≤ d) (h2 : d ≤ 36000) :
    Calls Ybaf.prog 7 #[.int .i64 d] w fun e w' => e = .returned .nilIface ∧ w' = w := by
  go_enter Ybaf.func7, Ybaf.ntmps7
  go_wp2
  go_ret
  exact ⟨rfl, rfl⟩

/-- A term that is taken. -/
def Taken (y m d : Int) : Prop := 0 ≤ y ∧ 0 ≤ m ∧ 0 ≤ d ∧ y ≤ 36000 ∧ m ≤ 36000 ∧ d ≤ 36000 ∧ 1 ≤ 360 * y + 30 * m + d ∧ 360 * y + 30 * m + d ≤ 36000

set_option maxHeartbeats 400000 in
theorem term_ok (y m d : Int) (w : World) (h : Taken y m d) :
    Calls Ybaf.prog 4 #[.int .i64 y, .int .i64 m, .int .i64 d] w fun e w' => e = .returned (.tuple #[.int .i64 (360 * y + 30 * m + d), .nilIface]) ∧ w' = w := by
  obtain ⟨h1, h2, h3, h4, h5, h6, h7, h8⟩ := h
  go_enter Ybaf.func4, Ybaf.ntmps4
  go_wp2_with (go_at_call 7; refine (checkTerm_ok _ _ (by omega) (by omega)).mono ?_; rintro e w' ⟨rfl, rfl⟩)
  go_ret2
  exact ⟨ret_pair (by omega), rfl⟩

set_option maxHeartbeats 800000 in
theorem term_no (F : Interp) (y m d : Int) (w : World) (hF : F.answers w.tape) (h : ¬ Taken y m d) :
    Calls Ybaf.prog 4 #[.int .i64 y, .int .i64 m, .int .i64 d] w fun e w' => ∃ a, e = .returned (.tuple #[.int .i64 0, .iface 34 (.pointer (some a))]) ∧ Below w.heap.size w w' := by
  by_cases hneg : y < 0 ∨ m < 0 ∨ d < 0
  · have hc : (y < 0) ∨ (0 ≤ y ∧ m < 0) ∨ (0 ≤ y ∧ 0 ≤ m ∧ d < 0) := by omega
    clear h hneg
    rcases hc with h1 | ⟨h1, h2⟩ | ⟨h1, h2, h3⟩
    all_goals
      go_enter Ybaf.func4, Ybaf.ntmps4
      go_wp2_with (go_at_call 6; refine (errorf0 F y m d _ _ (by exact hF) (by go_simp) (by go_simp) (by go_simp)).mono ?_; rintro e w' ⟨a, rfl, hb⟩)
      go_ret2
      exact ⟨_, rfl, belowA hb⟩
  · by_cases hbig : 36000 < y ∨ 36000 < m ∨ 36000 < d
    · have hc : (36000 < y) ∨ (y ≤ 36000 ∧ 36000 < m) ∨ (y ≤ 36000 ∧ m ≤ 36000 ∧ 36000 < d) := by omega
      have hp : 0 ≤ y ∧ 0 ≤ m ∧ 0 ≤ d := by omega
      obtain ⟨p1, p2, p3⟩ := hp
      clear h hneg hbig
      rcases hc with h1 | ⟨h1, h2⟩ | ⟨h1, h2, h3⟩
      all_goals
        go_enter Ybaf.func4, Ybaf.ntmps4
        go_wp2_with (go_at_call 6; refine (errorf1 F 36000 _ _ (by exact hF) (by go_simp)).mono ?_; rintro e w' ⟨a, rfl, hb⟩)
        go_ret2
        exact ⟨_, rfl, belowA hb⟩
    · have hp : 0 ≤ y ∧ 0 ≤ m ∧ 0 ≤ d ∧ y ≤ 36000 ∧ m ≤ 36000 ∧ d ≤ 36000 := by omega
      obtain ⟨p1, p2, p3, p4, p5, p6⟩ := hp
      have hn : 360 * y + 30 * m + d < 1 ∨ 36000 < 360 * y + 30 * m + d := by unfold Taken at h; omega
      clear h hneg hbig
      go_enter Ybaf.func4, Ybaf.ntmps4
      go_wp2_with (go_at_call 7; refine (checkTerm_no F _ _ (by exact hF) (by omega)).mono ?_; rintro e w' ⟨a, rfl, hb⟩)
      go_ret2
      exact ⟨_, rfl, hb⟩

theorem mulk (k : Nat) (y : Int) (hk : k ≤ 12) (hy : 0 ≤ y) : 0 ≤ (k : Int) * (y * 30) ∧ (k : Int) * (y * 30) ≤ 12 * (y * 30) :=
  ⟨Int.mul_nonneg (by omega) (by omega), Int.mul_le_mul_of_nonneg_right (by omega) (by omega)⟩
theorem mulk_succ (k : Nat) (y : Int) : (k : Int) * (y * 30) + y * 30 = ((k + 1 : Nat) : Int) * (y * 30) := by
  rw [Int.natCast_add, Int.add_mul]; simp

set_option maxHeartbeats 1600000 in
theorem model_ok (y m d : Int) (w : World) (h : Taken y m d) :
    Calls Ybaf.prog 5 #[.int .i64 y, .int .i64 m, .int .i64 d] w fun e w' => e = .returned (.tuple #[.int .i64 (360 * y + 30 * m + d), .bool true]) ∧ w' = w := by
  obtain ⟨h1, h2, h3, h4, h5, h6, h7, h8⟩ := h
  go_enter Ybaf.func5, Ybaf.ntmps5
  go_wp2
  go_loop [8, 9] (fun n i => ∃ k : Nat, k ≤ 12 ∧ i = .int .i64 k ∧ n = .int .i64 ((k : Int) * (y * 30))) (fun _ i => 12 - (intOf i).toNat)
  case atStart => exact ⟨0, by omega, rfl, by simp⟩
  case round =>
    obtain ⟨k, hk, rfl, rfl⟩ := hrel
    obtain ⟨q1, q2⟩ := mulk k y hk h1
    by_cases hlt : k < 12
    · go_wp2
      go_round
      case rel => exact ⟨k + 1, by omega, by go_num, congrArg (Value.int .i64) (mulk_succ k y)⟩
      case measure => simp [intOf]; omega
    · obtain rfl : k = 12 := by omega
      go_wp2
      go_ret2
      exact ⟨ret_pair (by omega), rfl⟩

set_option maxHeartbeats 1600000 in
theorem model_no (y m d : Int) (w : World) (h : ¬ Taken y m d) :
    Calls Ybaf.prog 5 #[.int .i64 y, .int .i64 m, .int .i64 d] w fun e w' => e = .returned (.tuple #[.int .i64 0, .bool false]) ∧ w' = w := by
  by_cases hneg : y < 0 ∨ m < 0 ∨ d < 0
  · have hc : (y < 0) ∨ (0 ≤ y ∧ m < 0) ∨ (0 ≤ y ∧ 0 ≤ m ∧ d < 0) := by omega
    clear h hneg
    rcases hc with h1 | ⟨h1, h2⟩ | ⟨h1, h2, h3⟩
    all_goals
      go_enter Ybaf.func5, Ybaf.ntmps5
      go_wp2
      go_ret2
      exact ⟨rfl, rfl⟩
  · by_cases hbig : 36000 < y ∨ 36000 < m ∨ 36000 < d
    · have hc : (36000 < y) ∨ (y ≤ 36000 ∧ 36000 < m) ∨ (y ≤ 36000 ∧ m ≤ 36000 ∧ 36000 < d) := by omega
      have hp : 0 ≤ y ∧ 0 ≤ m ∧ 0 ≤ d := by omega
      obtain ⟨p1, p2, p3⟩ := hp
      clear h hneg hbig
      rcases hc with h1 | ⟨h1, h2⟩ | ⟨h1, h2, h3⟩
      all_goals
        go_enter Ybaf.func5, Ybaf.ntmps5
        go_wp2
        go_ret2
        exact ⟨rfl, rfl⟩
    · have hp : 0 ≤ y ∧ 0 ≤ m ∧ 0 ≤ d ∧ y ≤ 36000 ∧ m ≤ 36000 ∧ d ≤ 36000 := by omega
      obtain ⟨p1, p2, p3, p4, p5, p6⟩ := hp
      have hn : 360 * y + 30 * m + d < 1 ∨ (1 ≤ 360 * y + 30 * m + d ∧ 36000 < 360 * y + 30 * m + d) := by unfold Taken at h; omega
      clear h hneg hbig
      go_enter Ybaf.func5, Ybaf.ntmps5
      go_wp2
      go_loop [8, 9] (fun n i => ∃ k : Nat, k ≤ 12 ∧ i = .int .i64 k ∧ n = .int .i64 ((k : Int) * (y * 30))) (fun _ i => 12 - (intOf i).toNat)
      case atStart => exact ⟨0, by omega, rfl, by simp⟩
      case round =>
        obtain ⟨k, hk, rfl, rfl⟩ := hrel
        obtain ⟨q1, q2⟩ := mulk k y hk p1
        by_cases hlt : k < 12
        · clear hn
          go_wp2
          go_round
          case rel => exact ⟨k + 1, by omega, by go_num, congrArg (Value.int .i64) (mulk_succ k y)⟩
          case measure => simp [intOf]; omega
        · obtain rfl : k = 12 := by omega
          rcases hn with hn | ⟨hn1, hn2⟩
          · go_wp2
            go_ret2
            exact ⟨rfl, rfl⟩
          · go_wp2
            go_ret2
            exact ⟨rfl, rfl⟩

set_option maxHeartbeats 400000 in
theorem walk (F : Interp) (y m d : Int) (w : World) (hF : F.answers w.tape) :
    Calls Ybaf.prog 3 #[.int .i64 y, .int .i64 m, .int .i64 d] w fun e w' => e = .returned (.bool true) ∧ Below w.heap.size w w' := by
  by_cases h : Taken y m d
  · have HT := h
    have H1 := fun wx => term_ok y m d wx h
    have H2 := fun wx => model_ok y m d wx h
    clear h HT
    go_enter Ybaf.func3, Ybaf.ntmps3
    go_wp2_with (first | (go_at_call 4; refine (H1 _).mono ?_; rintro e w' ⟨rfl, rfl⟩) | (go_at_call 5; refine (H2 _).mono ?_; rintro e w' ⟨rfl, rfl⟩))
    go_ret
    exact ⟨rfl, Below.refl _ _⟩
  · have H1 := term_no F y m d w hF h
    have H2 := fun wx => model_no y m d wx h
    clear h
    go_enter Ybaf.func3, Ybaf.ntmps3
    go_wp2_with (first | (go_at_call 4; refine H1.mono ?_; rintro e w' ⟨a, rfl, hb⟩) | (go_at_call 5; refine (H2 _).mono ?_; rintro e w' ⟨rfl, rfl⟩))
    go_ret
    exact ⟨rfl, hb⟩
end Go.Proofs.YbulkdepcFmt
