import Derived.Test.YbulkdeooRows
import Derived.WalkKit
import Derived.ProofKit
import Derived.WalkSpells
import Derived.Deep.QuietTactic
import Derived.BigQuiet
import Derived.Laws.BytesArg
import Derived.WalkSmall
set_option linter.unusedVariables false
namespace Go.Proofs.Ybulkdeoo
open Go.RowKit

/-- peek's answer: the bytes from i on begin with lit. -/
def pk (Z : List Int) (i : Nat) (lit : ByteArray) : Bool :=
  decide (i + lit.size ≤ Z.length) && ((strOfNums ((Z.drop i).take lit.size)).toList == lit.toList)

set_option maxHeartbeats 400000 in
theorem peek_no (sb g n i : Nat) (lit : ByteArray) (w : World) (hi : i ≤ n) (hn : n ≤ 4096) (hl : lit.size ≤ 8192)
    (h0 : w.cell? ⟨sb, 0, none⟩ = some (.slice (some ⟨g, 0, none⟩) n n)) (h1 : w.cell? ⟨sb, 1, none⟩ = some (.int .i64 (i : Int)))
    (hc : n < i + lit.size) :
    Calls Yba.prog 10 #[.pointer (some ⟨sb, 0, none⟩), .string lit] w fun e w' => e = .returned (.bool false) ∧ ∃ m, w' = w.drewN m := by
  have hd : decide ((lit.size : Int) ≤ (n : Int) - (i : Int)) = false := decide_eq_false (by omega)
  go_enter Yba.func10, Yba.ntmps10
  go_wp2
  go_quiet (fail)
  go_wp2
  go_ret
  exact ⟨rfl, _, rfl⟩

set_option maxHeartbeats 400000 in
theorem peek_yes (sb g n i : Nat) (Z : List Int) (lit : ByteArray) (w : World) (hi : i < n) (hn : n ≤ 4096) (hl : lit.size ≤ 8192) (hZ : Z.length = n)
    (h0 : w.cell? ⟨sb, 0, none⟩ = some (.slice (some ⟨g, 0, none⟩) n n)) (h1 : w.cell? ⟨sb, 1, none⟩ = some (.int .i64 (i : Int)))
    (hr : ∀ j, j < n → w.cell? ⟨g, j, none⟩ = some (.int .u8 (Z.getD j 0)))
    (hc : i + lit.size ≤ n) :
    Calls Yba.prog 10 #[.pointer (some ⟨sb, 0, none⟩), .string lit] w fun e w' => e = .returned (.bool ((strOfNums ((Z.drop i).take lit.size)).toList == lit.toList)) ∧ ∃ m, w' = w.drewN m := by
  have hd : decide ((lit.size : Int) ≤ (n : Int) - (i : Int)) = true := decide_eq_true (by omega)
  obtain ⟨S, hS⟩ : ∃ S, S = strOfNums ((Z.drop i).take lit.size) := ⟨_, rfl⟩
  have hcv : ∀ (m cap : Nat), (convert 22 9 (.slice (some ⟨g, i, none⟩) lit.size cap)).run Yba.prog (w.drewN m) = .ok (.string S) (w.drewN m) := by
    intro m cap
    rw [hS]
    have hwx : ∀ a, (w.drewN m).cell? a = w.cell? a := fun _ => rfl
    refine run_convert_bytes_arg (w.drewN m) 22 5 Yba.underlying22 Yba.underlying5 g i lit.size cap _ (by simp; omega) (fun j hj => ?_) 9 Yba.underlying9
    rw [hwx, hr _ (by omega)]
    simp [List.getD, hj]
  rw [← hS]
  clear hS hr
  go_enter Yba.func10, Yba.ntmps10
  go_wp2
  go_big_quiet (fail)
  go_wp2
  go_ret
  exact ⟨rfl, _, rfl⟩

set_option maxHeartbeats 400000 in
theorem peek_end (sb g n : Nat) (lit : ByteArray) (w : World) (hn : n ≤ 4096) (hl : lit.size = 0)
    (h0 : w.cell? ⟨sb, 0, none⟩ = some (.slice (some ⟨g, 0, none⟩) n n)) (h1 : w.cell? ⟨sb, 1, none⟩ = some (.int .i64 (n : Int))) :
    Calls Yba.prog 10 #[.pointer (some ⟨sb, 0, none⟩), .string lit] w fun e w' => e = .returned (.bool true) ∧ ∃ m, w' = w.drewN m := by
  have hd : decide ((lit.size : Int) ≤ (n : Int) - (n : Int)) = true := decide_eq_true (by omega)
  have hcv : ∀ (m : Nat), (convert 22 9 (.slice (some ⟨g, 0, none⟩) 0 0)).run Yba.prog (w.drewN m) = .ok (.string (strOfNums [])) (w.drewN m) := fun m =>
    run_convert_bytes_arg (w.drewN m) 22 5 Yba.underlying22 Yba.underlying5 g 0 0 0 [] rfl (fun j hj => by omega) 9 Yba.underlying9
  have hls : lit.toList = [] := by rw [ByteArray.toList_eq]; exact List.eq_nil_of_length_eq_zero (by simpa using hl)
  have he : ((strOfNums []).toList == lit.toList) = true := by rw [hls, ByteArray.toList_eq, strOfNums_data]; rfl
  clear hls
  go_enter Yba.func10, Yba.ntmps10
  go_wp2
  go_big_quiet (fail)
  go_wp2
  go_ret
  exact ⟨rfl, _, rfl⟩

theorem peek_any (sb g n i : Nat) (Z : List Int) (lit : ByteArray) (w : World) (hi : i ≤ n) (hn : n ≤ 4096) (hl : lit.size ≤ 8192) (hZ : Z.length = n)
    (h0 : w.cell? ⟨sb, 0, none⟩ = some (.slice (some ⟨g, 0, none⟩) n n)) (h1 : w.cell? ⟨sb, 1, none⟩ = some (.int .i64 (i : Int)))
    (hr : ∀ j, j < n → w.cell? ⟨g, j, none⟩ = some (.int .u8 (Z.getD j 0))) :
    Calls Yba.prog 10 #[.pointer (some ⟨sb, 0, none⟩), .string lit] w fun e w' => e = .returned (.bool (pk Z i lit)) ∧ ∃ m, w' = w.drewN m := by
  by_cases hc : i + lit.size ≤ n
  · by_cases hin : i < n
    · have e : pk Z i lit = ((strOfNums ((Z.drop i).take lit.size)).toList == lit.toList) := by simp [pk, hZ, hc]
      rw [e]
      exact peek_yes sb g n i Z lit w hin hn hl hZ h0 h1 hr hc
    · obtain rfl : i = n := by omega
      have h00 : lit.size = 0 := by omega
      have hls : lit.toList = [] := by rw [ByteArray.toList_eq]; exact List.eq_nil_of_length_eq_zero (by simpa using h00)
      have e : pk Z i lit = true := by simp [pk, hZ, h00, hls, strOfNums, ByteArray.toList_eq]
      rw [e]
      exact peek_end sb g i lit w hn h00 h0 h1
  · have e : pk Z i lit = false := by simp [pk, hZ, hc]
    rw [e]
    exact peek_no sb g n i lit w hi hn hl h0 h1 (by omega)

/-- the new position behind accept -/
def ni (Z : List Int) (i : Nat) (lit : ByteArray) : Nat := if pk Z i lit = true then i + lit.size else i

set_option maxHeartbeats 400000 in
theorem accept_any (sb g n i : Nat) (line : Int) (Z : List Int) (lit : ByteArray) (w : World) (hi : i ≤ n) (hn : n ≤ 4096) (hl : lit.size ≤ 8192) (hZ : Z.length = n)
    (h0 : w.cell? ⟨sb, 0, none⟩ = some (.slice (some ⟨g, 0, none⟩) n n)) (h1 : w.cell? ⟨sb, 1, none⟩ = some (.int .i64 (i : Int)))
    (h2 : w.cell? ⟨sb, 2, none⟩ = some (.int .i64 line)) (h3 : w.cell? ⟨sb, 3, none⟩ = some (.pointer none)) (hf : w.frozen? ⟨sb, 1, none⟩ = false)
    (hr : ∀ j, j < n → w.cell? ⟨g, j, none⟩ = some (.int .u8 (Z.getD j 0))) :
    Calls Yba.prog 6 #[.pointer (some ⟨sb, 0, none⟩), .string lit] w fun e w' => e = .returned (.bool (pk Z i lit)) ∧
      w'.cell? ⟨sb, 0, none⟩ = some (.slice (some ⟨g, 0, none⟩) n n) ∧ w'.cell? ⟨sb, 1, none⟩ = some (.int .i64 (ni Z i lit : Int)) ∧
      w'.cell? ⟨sb, 2, none⟩ = some (.int .i64 line) ∧ w'.cell? ⟨sb, 3, none⟩ = some (.pointer none) ∧ Below sb w w' := by
  cases hp : pk Z i lit
  · have P := fun wx => peek_any sb g n i Z lit wx hi hn hl hZ
    rw [hp] at P
    have hni : ni Z i lit = i := by simp [ni, hp]
    clear hp
    rw [hni]; clear hni
    go_enter Yba.func6, Yba.ntmps6
    go_wp2_with (go_at_call 10; refine (P _ h0 h1 hr).mono ?_; rintro e w' ⟨rfl, m, rfl⟩)
    go_ret
    exact ⟨rfl, h0, h1, h2, h3, (Below.refl _ _).trans ⟨rfl, rfl, rfl, Nat.le_refl _, fun _ _ => rfl⟩⟩
  · have P := fun wx => peek_any sb g n i Z lit wx hi hn hl hZ
    rw [hp] at P
    have hni : ((ni Z i lit : Nat) : Int) = (i : Int) + (lit.size : Int) := by simp [ni, hp]
    clear hp
    rw [hni]; clear hni
    go_enter Yba.func6, Yba.ntmps6
    go_wp2_with (go_at_call 10; refine (P _ h0 h1 hr).mono ?_; rintro e w' ⟨rfl, m, rfl⟩)
    go_ret
    refine ⟨rfl, by go_simp, by go_simp, by go_simp, by go_simp, ?_⟩
    exact Below.setCell (p := ⟨sb, 1, none⟩) (below_drewN (Below.refl sb w) m) (Nat.le_refl sb) _
end Go.Proofs.Ybulkdeoo
