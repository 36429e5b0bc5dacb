import Derived.Test.YbulkdepqRows
import Derived.Maps.OwnSet
import Derived.Maps.Views
import Derived.Laws.Strings
set_option linter.unusedVariables false
namespace Go.Proofs.Ybulkdepq
open Go.Maps

/-! Plain facts on groups of symbols: no walk here. A symbol: its name, its version, whether it is hidden. -/
abbrev Sym := ByteArray × ByteArray × Bool
def symAt (S : List Sym) (i : Nat) : Sym := S.getD i (ByteArray.empty, ByteArray.empty, false)
def symCells (x : Sym) : List Value := [.string x.1, .string x.2.1, .bool x.2.2]
def cellsS (l : List Sym) : List Value := l.flatMap symCells
/-- of the first k symbols those of the name c, in order -/
def grp (S : List Sym) (k : Nat) (c : List UInt8) : List Sym := (S.take k).filter fun x => x.1.toList == c
def keyL (x : Sym) : Lit := .string x.1.data.toList
def keysL (S : List Sym) (k : Nat) : List Lit := (S.take k).map keyL
def uu : DataW Unit := .agg []
/-- the set of the first k names -/
def Dn (S : List Sym) (k : Nat) : DataW Unit := setOf uu (keysL S k)
/-- how many different names the first k symbols have -/
def dist (S : List Sym) (k : Nat) : Nat := Maps.size (Dn S k)

theorem symAt_eq {S : List Sym} {k : Nat} (h : k < S.length) : symAt S k = S[k] := by
  unfold symAt; rw [List.getD_eq_getElem?_getD, List.getElem?_eq_getElem h]; rfl
theorem take_snoc {S : List Sym} {k : Nat} (h : k < S.length) : S.take (k + 1) = S.take k ++ [symAt S k] := by
  rw [List.take_succ_eq_append_getElem h, symAt_eq h]
theorem cellsS_append (a b : List Sym) : cellsS (a ++ b) = cellsS a ++ cellsS b := by simp [cellsS]
theorem cellsS_length (l : List Sym) : (cellsS l).length = l.length * 3 := by
  induction l with
  | nil => rfl
  | cons x l ih =>
    have e : cellsS (x :: l) = symCells x ++ cellsS l := rfl
    rw [e, List.length_append, ih, List.length_cons]
    simp [symCells]; omega
theorem cellsS_one (l : List Sym) : ∀ v ∈ cellsS l, v.oneCell' = true := by
  intro v hv
  obtain ⟨x, _, hx⟩ := List.mem_flatMap.1 hv
  simp only [symCells, List.mem_cons, List.not_mem_nil, or_false] at hx
  rcases hx with rfl | rfl | rfl <;> rfl
theorem cellsS_at {l : List Sym} {k : Nat} (h : k < l.length) :
    (cellsS l)[k * 3]? = some (.string (symAt l k).1) ∧ (cellsS l)[k * 3 + 1]? = some (.string (symAt l k).2.1) ∧ (cellsS l)[k * 3 + 2]? = some (.bool (symAt l k).2.2) := by
  have e : l = l.take k ++ symAt l k :: l.drop (k + 1) := by
    rw [symAt_eq h]; simp
  have e2 : cellsS l = cellsS (l.take k) ++ (symCells (symAt l k) ++ cellsS (l.drop (k + 1))) := by
    conv => lhs; rw [e]
    rw [cellsS_append]; rfl
  have hl : (cellsS (l.take k)).length = k * 3 := by rw [cellsS_length]; simp; omega
  rw [e2]
  refine ⟨?_, ?_, ?_⟩
  · rw [List.getElem?_append_right (by omega), hl]; simp [symCells]
  · rw [List.getElem?_append_right (by omega), hl, show k * 3 + 1 - k * 3 = 1 by omega]; simp [symCells]
  · rw [List.getElem?_append_right (by omega), hl, show k * 3 + 2 - k * 3 = 2 by omega]; simp [symCells]

theorem grp_len (S : List Sym) (k : Nat) (c : List UInt8) : (grp S k c).length ≤ k := by
  unfold grp
  exact Nat.le_trans (List.length_filter_le _ _) (List.length_take_le _ _)
theorem grp_hit {S : List Sym} {k : Nat} {c : List UInt8} (h : k < S.length) (hc : ((symAt S k).1.toList == c) = true) : grp S (k + 1) c = grp S k c ++ [symAt S k] := by
  unfold grp; rw [take_snoc h, List.filter_append]; simp [hc]
theorem grp_miss {S : List Sym} {k : Nat} {c : List UInt8} (h : k < S.length) (hc : ((symAt S k).1.toList == c) = false) : grp S (k + 1) c = grp S k c := by
  unfold grp; rw [take_snoc h, List.filter_append]; simp [hc]
theorem grp_all (S : List Sym) (c : List UInt8) : grp S S.length c = S.filter fun x => x.1.toList == c := by simp [grp]
/-- at its turn a symbol stands in its group -/
theorem grp_at {S : List Sym} {k n : Nat} {c : List UInt8} (hk : k < n) (hn : n ≤ S.length) (hc : ((symAt S k).1.toList == c) = true) :
    (grp S k c).length < (grp S n c).length ∧ symAt (grp S n c) (grp S k c).length = symAt S k := by
  have e : S.take n = S.take k ++ symAt S k :: (S.take n).drop (k + 1) := by
    have h1 : k < (S.take n).length := by simp; omega
    have h2 : S.take n = (S.take n).take k ++ (S.take n)[k] :: (S.take n).drop (k + 1) := by
      rw [← List.drop_eq_getElem_cons h1, List.take_append_drop]
    have h3 : (S.take n)[k] = symAt S k := by rw [symAt_eq (by omega)]; simp
    have h4 : (S.take n).take k = S.take k := by rw [List.take_take]; congr 1; omega
    rw [h3, h4] at h2
    exact h2
  have e2 : grp S n c = grp S k c ++ symAt S k :: ((S.take n).drop (k + 1)).filter fun x => x.1.toList == c := by
    unfold grp
    conv => lhs; rw [e]
    rw [List.filter_append, List.filter_cons, hc]; simp
  rw [e2]
  refine ⟨by simp, ?_⟩
  unfold symAt
  simp [List.getD_eq_getElem?_getD]

theorem key_lit (x : Sym) : WideAt.IsKeyLit (keyL x) := by simp [WideAt.IsKeyLit, keyL]
theorem keysL_lit (S : List Sym) (k : Nat) : ∀ x ∈ keysL S k, WideAt.IsKeyLit x := by
  intro x hx
  obtain ⟨y, _, rfl⟩ := List.mem_map.1 hx
  exact key_lit y
theorem keysL_snoc {S : List Sym} {k : Nat} (h : k < S.length) : keysL S (k + 1) = keysL S k ++ [keyL (symAt S k)] := by
  unfold keysL; rw [take_snoc h]; simp
theorem Dn_snoc {S : List Sym} {k : Nat} (h : k < S.length) : Dn S (k + 1) = (Dn S k).put (keyL (symAt S k)) uu := by
  unfold Dn; rw [keysL_snoc h, setOf_snoc]
theorem sameKey_iff (x y : Sym) : (keyL x).sameKey (keyL y) = (x.1.toList == y.1.toList) := by
  rw [ByteArray.toList_eq, ByteArray.toList_eq]
  rw [Bool.eq_iff_iff]
  constructor
  · intro h
    have := WideAt.sameKey_eq h
    simp only [keyL, Lit.string.injEq] at this
    simpa using this
  · intro h
    have e : keyL x = keyL y := by unfold keyL; rw [beq_iff_eq.1 h]
    rw [e]; exact WideAt.sameKey_self (key_lit y)
/-- a name is among the first k just if its group is not empty -/
theorem has_Dn (S : List Sym) (k : Nat) (y : Sym) : has (Dn S k) (keyL y) = (S.take k).any fun x => x.1.toList == y.1.toList := by
  unfold Dn
  rw [has_setOf uu _ _ (keysL_lit S k)]
  unfold keysL
  rw [List.any_map]
  congr 1
  funext x
  exact sameKey_iff x y
theorem grp_none {S : List Sym} {k : Nat} {y : Sym} (h : has (Dn S k) (keyL y) = false) : grp S k y.1.toList = [] := by
  rw [has_Dn, List.any_eq_false] at h
  unfold grp
  rw [List.filter_eq_nil_iff]
  intro x hx
  simpa using h x hx
theorem has_lt {S : List Sym} {k i : Nat} (hi : i < k) (hl : i < S.length) : has (Dn S k) (keyL (symAt S i)) = true := by
  rw [has_Dn, List.any_eq_true]
  refine ⟨symAt S i, ?_, by simp⟩
  rw [symAt_eq hl]
  exact List.mem_take_iff_getElem.2 ⟨i, by omega, rfl⟩
theorem tidy_Dn (S : List Sym) (k : Nat) : Tidy (Dn S k) := tidy_setOf uu _ (keysL_lit S k)
theorem dist_hit {S : List Sym} {k : Nat} (h : k < S.length) (hh : has (Dn S k) (keyL (symAt S k)) = true) : dist S (k + 1) = dist S k := by
  unfold dist; rw [Dn_snoc h, size_put (tidy_Dn S k), hh]; rfl
theorem dist_new {S : List Sym} {k : Nat} (h : k < S.length) (hh : has (Dn S k) (keyL (symAt S k)) = false) : dist S (k + 1) = dist S k + 1 := by
  unfold dist; rw [Dn_snoc h, size_put (tidy_Dn S k), hh]; rfl
theorem dist_zero (S : List Sym) : dist S 0 = 0 := rfl
theorem dist_le (S : List Sym) : ∀ k, k ≤ S.length → dist S k ≤ k
  | 0, _ => by rw [dist_zero]; omega
  | k + 1, h => by
    have ih := dist_le S k (by omega)
    cases hh : has (Dn S k) (keyL (symAt S k))
    · rw [dist_new (by omega) hh]; omega
    · rw [dist_hit (by omega) hh]; omega
/-- the search for an earlier symbol of the same name -/
theorem has_from {S : List Sym} {i : Nat} (hi : i < S.length) : has (Dn S i) (keyL (symAt S i)) = true ↔ ∃ j, j < i ∧ ((symAt S j).1.toList == (symAt S i).1.toList) = true := by
  rw [has_Dn, List.any_eq_true]
  constructor
  · rintro ⟨x, hx, he⟩
    obtain ⟨j, hj, rfl⟩ := List.mem_take_iff_getElem.1 hx
    exact ⟨j, by omega, by rw [symAt_eq (show j < S.length by omega)]; exact he⟩
  · rintro ⟨j, hj, he⟩
    refine ⟨symAt S j, ?_, he⟩
    rw [symAt_eq (show j < S.length by omega)]
    exact List.mem_take_iff_getElem.2 ⟨j, by omega, rfl⟩
end Go.Proofs.Ybulkdepq
