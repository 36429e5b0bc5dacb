import Derived.Test.YbulkdepqGrpPlain
import Derived.Maps.OwnRows
import Derived.StringKeys
import Derived.ProofKit
set_option linter.unusedVariables false
namespace Go.Proofs.Ybulkdepq
open Go.Maps Go.ChangeMaps Go.MapKept Go.RowKit
open Go.WideElems (Fit rd rg pl rd_val rd_key elemAt)

/-- a reader of elements that looks at nothing: the map's keys alone are told by the datum -/
def R0 : Value → Option (DataW Unit × List MemPlace) := fun _ => some (uu, [])
theorem law9 : Keyed Yba.prog 9 := string_keyed Yba.underlying9
theorem zero25 (w : World) : (zeroValue 25).run Yba.prog w = .ok (.slice none 0 0) w := by kernel_rfl

/-- BLOCK B IS THE MAP OF THE FIRST k SYMBOLS: its keys are their names; under each name a row of the call's own, from block 'base' on, with the symbols of that name in order; no two names' rows lie in one block. -/
def Inv (w : World) (base B : Nat) (S : List Sym) (k : Nat) : Prop :=
  ∃ es clock, w.heap[B]? = some (.map es clock) ∧ Fit Yba.prog 9 R0 es clock ∧ DataW.map ((es.toList.map (rg Yba.prog 9 R0)).foldr DataW.insert []) = Dn S k ∧ B < base ∧
    (∀ x ∈ es.toList, ∀ s, x.key = .string s → w.ownsRow base 29 3 x.val (grp S k s.toList).length (cellsS (grp S k s.toList))) ∧
    ∀ x ∈ es.toList, ∀ y ∈ es.toList, x.key ≠ y.key → x.val.ownBlock = none ∨ x.val.ownBlock ≠ y.val.ownBlock

theorem key_string {v : Value} {l : Lit} (h : keyOf Yba.prog 9 v = some l) : ∃ s, v = .string s := by
  rw [keyOf_string Yba.underlying9] at h
  simp only [mapKey, Yba.underlying9] at h
  cases v <;> simp at h
  exact ⟨_, rfl⟩
theorem fit_string {es : Array MapEntry} {clock : Nat} (F : Fit Yba.prog 9 R0 es clock) : ∀ x ∈ es.toList, ∃ s, x.key = .string s := fun x hx => by
  obtain ⟨y, hy⟩ := F.reads x hx
  exact key_string (rd_key hy)
theorem str_inj {a b : ByteArray} (h : a.toList = b.toList) : a = b := by
  rw [ByteArray.toList_eq, ByteArray.toList_eq] at h
  cases a; cases b
  simp only [ByteArray.mk.injEq]
  exact Array.toList_inj.1 h
theorem pw_uniq {es : List MapEntry} (h : es.Pairwise fun x y => x.key ≠ y.key) {x y : MapEntry} (hx : x ∈ es) (hy : y ∈ es) (he : x.key = y.key) : x = y := by
  induction es with
  | nil => cases hx
  | cons a l ih =>
    obtain ⟨h1, h2⟩ := List.pairwise_cons.1 h
    rcases List.mem_cons.1 hx with rfl | hx'
    · rcases List.mem_cons.1 hy with rfl | hy'
      · rfl
      · exact absurd he (h1 y hy')
    · rcases List.mem_cons.1 hy with rfl | hy'
      · exact absurd he.symm (h1 x hx')
      · exact ih h2 hx' hy'

theorem Inv.made (w : World) (S : List Sym) : Inv (w.alloc (.map #[] 0)) (w.heap.size + 1) w.heap.size S 0 :=
  ⟨#[], 0, (MapKept.heap_alloc w _).1, ⟨by simp, stamped_empty 0, by simp⟩, rfl, Nat.lt_succ_self _, by simp, by simp⟩

/-- how many entries -/
theorem inv_size {es : Array MapEntry} {S : List Sym} {k : Nat} (h : DataW.map ((es.toList.map (rg Yba.prog 9 R0)).foldr DataW.insert []) = Dn S k) : es.size = dist S k := by
  unfold dist
  rw [← h]
  simp [Maps.size, length_sorted]

/-- THE WAY BACK: a store of the grown row at the k-th symbol's name -/
def Back (w : World) (base B : Nat) (S : List Sym) (k : Nat) (v : Value) : Prop :=
  ∀ (w1 : World) (v' : Value), w.grownBy w1 v.ownBlock →
    w1.ownsRow base 29 3 v' ((grp S k (symAt S k).1.toList).length + 1) (cellsS (grp S k (symAt S k).1.toList) ++ symCells (symAt S k)) →
    (v'.ownBlock = v.ownBlock ∨ ∃ g, v'.ownBlock = some g ∧ w.heap.size ≤ g) →
    ∃ w2, (Instr.mapUpdate 26 (.map (some B)) (.string (symAt S k).1) v').run Yba.prog w1 = .ok () w2 ∧ Inv w2 base B S (k + 1) ∧ w1.grownBy w2 (some B)

theorem back_of {w : World} {base B : Nat} {S : List Sym} {k : Nat} {v : Value} {es : Array MapEntry} {clock : Nat} (hkS : k < S.length) (hS : S.length < maxLen) (hsz : (symAt S k).1.size ≤ maxLen)
    (hb : w.heap[B]? = some (.map es clock)) (F : Fit Yba.prog 9 R0 es clock) (hD : DataW.map ((es.toList.map (rg Yba.prog 9 R0)).foldr DataW.insert []) = Dn S k) (hBb : B < base)
    (hown : ∀ x ∈ es.toList, ∀ s, x.key = .string s → w.ownsRow base 29 3 x.val (grp S k s.toList).length (cellsS (grp S k s.toList)))
    (hap : ∀ x ∈ es.toList, ∀ y ∈ es.toList, x.key ≠ y.key → x.val.ownBlock = none ∨ x.val.ownBlock ≠ y.val.ownBlock)
    (hv : ∀ x ∈ es.toList, x.key ≠ .string (symAt S k).1 → x.val.ownBlock = none ∨ x.val.ownBlock ≠ v.ownBlock) (hvb : v.ownBlock ≠ some B) : Back w base B S k v := by
  intro w1 v' hg hown' hloc
  have hblt : B < w.heap.size := (Array.getElem?_eq_some_iff.1 hb).1
  have hb1 : w1.heap[B]? = some (.map es clock) := (hg.block B hblt (fun e1 => hvb e1.symm)).trans hb
  have hkey : keyOf Yba.prog 9 (.string (symAt S k).1) = some (keyL (symAt S k)) := Go.WideMaps.keyOf_string_mk Yba.underlying9 hsz
  have hroom : es.size < maxLen := by
    rw [inv_size hD]
    have := dist_le S k (by omega)
    omega
  obtain ⟨es', clock', hrun, F', hput, _, _, hwho⟩ := Maps.fit_store (R := R0) (R' := R0) law9 Yba.underlying26 hb1 F hroom (fun _ _ _ _ hz => hz) hkey (show R0 v' = some (uu, []) from rfl)
  have hg2 : w1.grownBy (setBlock w1 B (.map es' clock')) (some B) := ⟨rfl, rfl, rfl, by simp [setBlock], fun i _ hi => heap_setBlock_other hb1 _ (fun e1 => hi (by rw [e1]))⟩
  have own_ne : ∀ {u : Value} {m : Nat} {ys : List Value}, w1.ownsRow base 29 3 u m ys → u.ownBlock = none ∨ u.ownBlock ≠ some B := fun {u m ys} ho => by
    cases hu : u.ownBlock with
    | none => exact Or.inl rfl
    | some g =>
      refine Or.inr (fun e1 => ?_)
      have := (ho.lt g hu).1
      cases e1
      omega
  have old_new : ∀ x ∈ es.toList, x.key ≠ .string (symAt S k).1 → x.val.ownBlock = none ∨ x.val.ownBlock ≠ v'.ownBlock := by
    intro x hx hne
    rcases hloc with h1 | ⟨g, h1, h2⟩
    · rw [h1]
      exact hv x hx hne
    · cases hx' : x.val.ownBlock with
      | none => exact Or.inl rfl
      | some gx =>
        obtain ⟨s, hs⟩ := fit_string F x hx
        have := ((hown x hx s hs).lt gx hx').2
        refine Or.inr (fun e1 => ?_)
        rw [h1] at e1
        cases e1
        omega
  have hgrp : grp S (k + 1) (symAt S k).1.toList = grp S k (symAt S k).1.toList ++ [symAt S k] := grp_hit hkS (by simp)
  have hnew : w1.ownsRow base 29 3 v' (grp S (k + 1) (symAt S k).1.toList).length (cellsS (grp S (k + 1) (symAt S k).1.toList)) := by
    rw [hgrp, cellsS_append]
    have e : cellsS [symAt S k] = symCells (symAt S k) := by simp [cellsS]
    rw [e]
    simpa using hown'
  refine ⟨_, hrun, ⟨es', clock', heap_setBlock_same hb1 _, F', ?_, hBb, ?_, ?_⟩, hg2⟩
  · rw [hput, Dn_snoc hkS, ← hD, DataW.put_eq]
  · intro x hx s hs
    rcases hwho x hx with ⟨hx0, hne⟩ | ⟨hxk, hxv⟩
    · have ho := (hown x hx0 s hs).kept hg (hv x hx0 hne)
      have hmiss : grp S (k + 1) s.toList = grp S k s.toList := by
        refine grp_miss hkS ?_
        cases hq : ((symAt S k).1.toList == s.toList)
        · rfl
        · exact absurd (by rw [hs, str_inj (beq_iff_eq.1 hq)]) hne
      rw [hmiss]
      exact ho.kept hg2 (own_ne ho)
    · obtain rfl : s = (symAt S k).1 := by rw [hs] at hxk; simpa using hxk
      rw [hxv]
      exact hnew.kept hg2 (own_ne hnew)
  · intro x hx y hy hne
    rcases hwho x hx with ⟨hx0, hxk⟩ | ⟨hxk, hxv⟩ <;> rcases hwho y hy with ⟨hy0, hyk⟩ | ⟨hyk, hyv⟩
    · exact hap x hx0 y hy0 hne
    · rw [hyv]
      exact old_new x hx0 hxk
    · rw [hxv]
      cases hv' : v'.ownBlock with
      | none => exact Or.inl rfl
      | some g =>
        refine Or.inr (fun e1 => ?_)
        rcases old_new y hy0 hyk with h | h
        · rw [h] at e1
          cases e1
        · exact h (by rw [hv', e1])
    · exact absurd (hxk.trans hyk.symm) hne

/-- 'm[s.Name]' IN THE ROUND: in every world in which the map's block is as it is here; what it owns; the way back. -/
theorem Inv.look {w : World} {base B : Nat} {S : List Sym} {k : Nat} (h : Inv w base B S k) (hkS : k < S.length) (hS : S.length < maxLen) (hsz : (symAt S k).1.size ≤ maxLen) :
    ∃ v, (∀ w' : World, w'.heap[B]? = w.heap[B]? → (Instr.lookup 26 (.map (some B)) (.string (symAt S k).1) false).run Yba.prog w' = .ok v w') ∧
      w.ownsRow base 29 3 v (grp S k (symAt S k).1.toList).length (cellsS (grp S k (symAt S k).1.toList)) ∧ Back w base B S k v := by
  obtain ⟨es, clock, hb, F, hD, hBb, hown, hap⟩ := h
  have hkey : keyOf Yba.prog 9 (.string (symAt S k).1) = some (keyL (symAt S k)) := Go.WideMaps.keyOf_string_mk Yba.underlying9 hsz
  have hpw : es.toList.Pairwise (fun x y => x.key ≠ y.key) := ((stamped_iff es clock).1 F.stamped).2.2
  rcases Maps.fit_look (R := R0) false law9 Yba.underlying26 (zero25 w) hb F hkey with ⟨_, hno, hat⟩ | ⟨e0, y, hm0, h3, _, _, _, _⟩
  · have hg : grp S k (symAt S k).1.toList = [] := grp_none (by rw [← hD]; exact has_false_of_atKey hat)
    refine ⟨.slice none 0 0, fun w' hw' => ?_, by rw [hg]; exact World.ownsRow_nil _ _ _ _, back_of hkS hS hsz hb F hD hBb hown hap (fun x _ _ => ?_) (by simp [Value.ownBlock])⟩
    · rcases Maps.fit_look (R := R0) false law9 Yba.underlying26 (zero25 w') (hw'.trans hb) F hkey with ⟨hrun, _⟩ | ⟨e1, y1, hm1, h31, _⟩
      · exact hrun
      · exact absurd h31 (hno e1 hm1)
    · cases x.val.ownBlock <;> simp [Value.ownBlock]
  · refine ⟨e0.val, fun w' hw' => ?_, hown e0 hm0 _ h3, back_of hkS hS hsz hb F hD hBb hown hap (fun x hx hne => hap x hx e0 hm0 (by rw [h3]; exact hne)) (fun e1 => ?_)⟩
    · rcases Maps.fit_look (R := R0) false law9 Yba.underlying26 (zero25 w') (hw'.trans hb) F hkey with ⟨_, hno, _⟩ | ⟨e1, y1, hm1, h31, hrun, _⟩
      · exact absurd h3 (hno e0 hm0)
      · rw [pw_uniq hpw hm1 hm0 (h31.trans h3.symm)] at hrun
        exact hrun
    · have := ((hown e0 hm0 _ h3).lt B e1).1
      omega

/-- 'got, ok := m[name]' behind byName: the key is there; the group's row. -/
theorem Inv.look_ok {w : World} {base B : Nat} {S : List Sym} {n i : Nat} (h : Inv w base B S n) (hi : i < n) (hn : n ≤ S.length) (hsz : (symAt S i).1.size ≤ maxLen) :
    ∃ g cap, (∀ w' : World, w'.heap[B]? = w.heap[B]? → (Instr.lookup 26 (.map (some B)) (.string (symAt S i).1) true).run Yba.prog w' = .ok (.tuple #[.slice (some ⟨g, 0, none⟩) (grp S n (symAt S i).1.toList).length cap, .bool true]) w') ∧
      w.ownsRow base 29 3 (.slice (some ⟨g, 0, none⟩) (grp S n (symAt S i).1.toList).length cap) (grp S n (symAt S i).1.toList).length (cellsS (grp S n (symAt S i).1.toList)) := by
  obtain ⟨es, clock, hb, F, hD, hBb, hown, hap⟩ := h
  have hkey : keyOf Yba.prog 9 (.string (symAt S i).1) = some (keyL (symAt S i)) := Go.WideMaps.keyOf_string_mk Yba.underlying9 hsz
  have hpw : es.toList.Pairwise (fun x y => x.key ≠ y.key) := ((stamped_iff es clock).1 F.stamped).2.2
  have hthere := has_lt (S := S) hi (by omega)
  have hpos : 0 < (grp S n (symAt S i).1.toList).length := by
    have := (grp_at (S := S) hi hn (c := (symAt S i).1.toList) (by simp)).1
    omega
  rcases Maps.fit_look (R := R0) true law9 Yba.underlying26 (zero25 w) hb F hkey with ⟨_, _, hat⟩ | ⟨e0, y, hm0, h3, _, _, _, _⟩
  · have := has_false_of_atKey hat
    rw [hD, hthere] at this
    cases this
  · have ho := hown e0 hm0 _ h3
    obtain ⟨g, cap, hval⟩ : ∃ g cap, e0.val = .slice (some ⟨g, 0, none⟩) (grp S n (symAt S i).1.toList).length cap := by
      rcases ho.2 with ⟨_, h0⟩ | ⟨g, cap, cur, hv, _⟩
      · omega
      · exact ⟨g, cap, hv⟩
    refine ⟨g, cap, fun w' hw' => ?_, hval ▸ ho⟩
    rcases Maps.fit_look (R := R0) true law9 Yba.underlying26 (zero25 w') (hw'.trans hb) F hkey with ⟨_, hno, _⟩ | ⟨e1, y1, hm1, h31, hrun, _⟩
    · exact absurd h3 (hno e0 hm0)
    · rw [pw_uniq hpw hm1 hm0 (h31.trans h3.symm), hval] at hrun
      exact hrun

/-- 'len(m)' -/
theorem Inv.len {w : World} {base B : Nat} {S : List Sym} {n : Nat} (h : Inv w base B S n) (w' : World) (hw' : w'.heap[B]? = w.heap[B]?) (ty : TypeId) :
    (Builtin.len_ #[26] ty #[.map (some B)]).run Yba.prog w' = .ok (.int .i64 (dist S n)) w' := by
  obtain ⟨es, clock, hb, F, hD, hBb, hown, hap⟩ := h
  rw [← inv_size hD]
  simp [Builtin.len_, run_underlying Yba.underlying26, MapKept.run_getObj_map (hw'.trans hb), goInt, Result.andThen]
end Go.Proofs.Ybulkdepq
