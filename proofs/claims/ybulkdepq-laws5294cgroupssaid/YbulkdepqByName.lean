import Derived.Test.YbulkdepqGrpMap
import Derived.WalkKit
import Derived.WalkSpells
import Derived.Deep.RegionHeld3
import Derived.Deep.AppendLies
import Derived.Deep.DrawnRows
set_option linter.unusedVariables false
namespace Go.Proofs.Ybulkdepq
open Go.Maps Go.RowKit

theorem info29 : (Yba.prog.info? 29).map (fun i => (i.zero, i.size, i.bytes)) = some (some (.agg #[.string ByteArray.empty, .string ByteArray.empty, .bool false]), 3, 40) := by kernel_rfl
theorem run_make26 (w : World) (n : Int) : (Instr.makeMap 26 (some (.int .i64 n))).run Yba.prog w = .ok (.map (some w.heap.size)) (w.alloc (.map #[] 0)) := by kernel_rfl

/-- WHAT IS KNOWN OF THE SLICE THAT CAME IN: the symbols S lie there, three cells each. -/
def IsSyms (w : World) (a : Option Addr) (S : List Sym) : Prop :=
  (∀ i, i < S.length → (symAt S i).1.size ≤ maxLen ∧ (symAt S i).2.1.size ≤ maxLen) ∧
  (0 < S.length → ∃ b off, a = some ⟨b, off, none⟩ ∧ b < w.heap.size ∧ ∀ i, i < S.length →
    w.cell? ⟨b, off + i * 3, none⟩ = some (.string (symAt S i).1) ∧ w.cell? ⟨b, off + i * 3 + 1, none⟩ = some (.string (symAt S i).2.1) ∧ w.cell? ⟨b, off + i * 3 + 2, none⟩ = some (.bool (symAt S i).2.2))

theorem heap_old (w : World) (o : Obj) {b : Nat} (h : b < w.heap.size) : (w.alloc o).drew.heap[b]? = w.heap[b]? := Below.heap_alloc w o b h
theorem news3 (w : World) (cs : Array Value) : ∀ j u, cs.toList[j]? = some u → ((w.alloc (.cells cs 29)).drew).cell? ((⟨w.heap.size, 0, none⟩ : Addr).add j) = some u :=
  World.news_of_block (t := 29) (fr := (0, 0)) (heap_alloc_new w _)
theorem size_alloc1 (w : World) (o : Obj) : (w.alloc o).heap.size = w.heap.size + 1 := by simp
theorem news3' (w : World) (o : Obj) (x0 x1 : ByteArray) (x2 : Bool) : ∀ j u, [Value.string x0, Value.string x1, Value.bool x2][j]? = some u →
    (((w.alloc o).alloc (.cells #[.string x0, .string x1, .bool x2] 29)).drew).cell? ((⟨w.heap.size + 1, 0, none⟩ : Addr).add j) = some u := by
  have := news3 (w.alloc o) #[.string x0, .string x1, .bool x2]
  rw [size_alloc1] at this
  exact this
theorem grown_alloc_drew (w : World) (o : Obj) (row : Option Nat) : w.grownBy (w.alloc o).drew row :=
  have h := World.grownBy_alloc w o row
  ⟨h.os, h.tape, h.output, h.size, h.block⟩
theorem Inv.kept {w w' : World} {base B : Nat} {S : List Sym} {k : Nat} (h : Inv w base B S k) (hg : w.grownBy w' none) : Inv w' base B S k := by
  obtain ⟨es, clock, hb, F, hD, hBb, hown, hap⟩ := h
  have hblt : B < w.heap.size := (Array.getElem?_eq_some_iff.1 hb).1
  refine ⟨es, clock, (hg.block B hblt (by simp)).trans hb, F, hD, hBb, fun x hx s hs => (hown x hx s hs).kept hg ?_, hap⟩
  cases x.val.ownBlock <;> simp

/-- the look-up in the round, all in letters -/
theorem Inv.turn {w : World} {base B : Nat} {S : List Sym} {k n : Nat} {x0 x1 : ByteArray} {x2 : Bool} (h : Inv w base B S k) (hk : k < n) (hn : n ≤ 1024) (hS : S.length = n) (hx : Hid ((x0, x1, x2) = symAt S k)) (hsz : (symAt S k).1.size ≤ maxLen) :
    ∃ (v : Value) (m : Nat) (xs : List Value), m ≤ 1024 ∧ (∀ w' : World, w'.heap[B]? = w.heap[B]? → (Instr.lookup 26 (.map (some B)) (.string x0) false).run Yba.prog w' = .ok v w') ∧ w.ownsRow base 29 3 v m xs ∧
      ∀ (w1 : World) (g cap : Nat), w.grownBy w1 v.ownBlock → w1.ownsRow base 29 3 (.slice (some ⟨g, 0, none⟩) (m + 1) cap) (m + 1) (xs ++ [.string x0, .string x1, .bool x2]) → (v.ownBlock = some g ∨ w.heap.size ≤ g) →
        ∃ w2, (Instr.mapUpdate 26 (.map (some B)) (.string x0) (.slice (some ⟨g, 0, none⟩) (m + 1) cap)).run Yba.prog w1 = .ok () w2 ∧ Inv w2 base B S (k + 1) ∧ w1.grownBy w2 (some B) := by
  have hxx := hx.out
  obtain ⟨v, hlook, hown, hback⟩ := h.look (by omega) (by unfold maxLen; omega) hsz
  have hle := grp_len S k (symAt S k).1.toList
  unfold Back at hback
  rw [← hxx] at hlook hback hle
  rw [← hxx] at hown
  refine ⟨v, _, _, ?_, hlook, hown, fun w1 g cap hg ho hl => hback w1 _ hg ho ?_⟩
  · omega
  · rcases hl with h1 | h1
    · exact Or.inl h1.symm
    · exact Or.inr ⟨g, rfl, h1⟩

set_option maxRecDepth 4000 in
set_option maxHeartbeats 1600000 in
theorem byName_any (a0 : Option Addr) (n cap : Nat) (S : List Sym) (w : World) (hn : n ≤ 1024) (hS : S.length = n) (hA : IsSyms w a0 S) :
    Calls Yba.prog 8 #[.slice a0 n cap] w fun e w' => e = .returned (.map (some w.heap.size)) ∧ Inv w' (w.heap.size + 1) w.heap.size S n ∧ Below w.heap.size w w' := by
  obtain ⟨i0, hi0, hz0, hz1, hz2⟩ := info_parts info29
  have HA : Hid (IsSyms w a0 S) := hA
  clear hA
  have hmm := run_make26
  go_enter Yba.func8, Yba.ntmps8
  go_wp2_with fail
  go_loopw [11] (fun kk wr => ∃ k : Nat, k ≤ n ∧ kk = .int .i64 k ∧ Inv wr (w.heap.size + 1) w.heap.size S k ∧ Below w.heap.size w wr ∧ w.heap.size + 1 ≤ wr.heap.size) (fun kk _ => n - (intOf kk).toNat)
  case atStart => exact ⟨0, Nat.zero_le _, rfl, Inv.made w S, (Below.refl _ _).alloc (Nat.le_refl _) _, by simp⟩
  case round =>
    obtain ⟨k, hk, rfl, I, hb, hsz⟩ := hrel
    by_cases hlt : k < n
    · obtain ⟨b, off, rfl, hbw, hc⟩ := HA.out.2 (by omega)
      obtain ⟨c0, c1, c2⟩ := hc k (by omega)
      have d0 := (hb.cell (p := ⟨b, off + k * 3, none⟩) hbw).trans c0
      have d1 := (hb.cell (p := ⟨b, off + k * 3 + 1, none⟩) hbw).trans c1
      have d2 := (hb.cell (p := ⟨b, off + k * 3 + 2, none⟩) hbw).trans c2
      have hbr : b < wr.heap.size := by omega
      clear c0 c1 c2 hc
      obtain ⟨x, hx⟩ : ∃ x, x = symAt S k := ⟨_, rfl⟩
      rw [← hx] at d0 d1 d2
      obtain ⟨x0, x1, x2⟩ := x
      have HX : Hid ((x0, x1, x2) = symAt S k) := hx
      clear hx
      obtain ⟨v, m, xs, hm, hlook, hown, hback⟩ := I.turn hlt hn hS HX (HA.out.1 k (by omega)).1
      have hl1 := hlook (wr.alloc (.cells #[.string x0, .string x1, .bool x2] 29)).drew (heap_old _ _ (by omega))
      have hl2 := hlook ((wr.alloc (.cells #[.string x0, .string x1, .bool x2] 29)).alloc (.cells #[.string x0, .string x1, .bool x2] 29)).drew ((heap_old _ _ (by simp; omega)).trans (heap_old _ _ (by omega)))
      have hvn : some wr.heap.size ≠ v.ownBlock := fun e => by have := (hown.lt _ e.symm).2; omega
      have hBn : some wr.heap.size ≠ some w.heap.size := by intro e; simp at e; omega
      have HVN : Hid (some wr.heap.size ≠ v.ownBlock) := hvn
      have HBN : Hid (some wr.heap.size ≠ some w.heap.size) := hBn
      have HBEL : Hid (∀ w1 w2, wr.grownBy w1 v.ownBlock → w1.grownBy w2 (some w.heap.size) → Below w.heap.size w w2) := fun w1 w2 h1 h2 =>
        (hb.grown h1 (by omega) (fun j hj => by have := (hown.lt j hj).1; omega)).grown h2 (by have := h1.size; omega) (fun j hj => by cases hj; exact Nat.le_refl _)
      have HN : Hid _ := news3' wr (.cells #[.string x0, .string x1, .bool x2] 29) x0 x1 x2
      have HBACK : Hid _ := hback
      clear hlook I hback hvn hBn hb
      go_wp2_with fail
      go_region_held3 (fun w' => w'.cell? ⟨wr.heap.size, 0, none⟩ = some (.string x0) ∧ w'.cell? ⟨wr.heap.size, 1, none⟩ = some (.string x1) ∧ w'.cell? ⟨wr.heap.size, 2, none⟩ = some (.bool x2))
        (first | go_keep | (go_split_ands; exact ⟨hg2.cell (by assumption) HBN.out, hg2.cell (by assumption) HBN.out, hg2.cell (by assumption) HBN.out⟩) | (go_split_ands; exact ⟨hgrow.cell (by assumption) HVN.out, hgrow.cell (by assumption) HVN.out, hgrow.cell (by assumption) HVN.out⟩))
        ((refine step_append_lies _ (by rfl) _ _ _ (by rfl) (w.heap.size + 1) 29 i0 _ 3 40 Yba.underlying25 hi0 hz0 hz1 hz2 rfl (by omega) v m xs (by rfl) (((hown.alloc _).alloc _).drew) ⟨wr.heap.size + 1, 0, none⟩ 1 1 [.string x0, .string x1, .bool x2] (by rfl) (by rfl) HN.out (by simp [Value.oneCell']) (by omega) (by unfold maxLen; omega) (by omega) (by simp; omega) (wr.heap.size + 2) (by simp) ?_; intro g cp w1 hown1 hgrow hat hlg; obtain ⟨w2, hup, I2, hg2⟩ := HBACK.out w1 g cp (((World.grownBy_alloc _ _ _).trans (grown_alloc_drew _ _ _)).trans hgrow) hown1 (hat.elim Or.inl (fun h => Or.inr (by rw [h]; omega)))))
      all_goals
        have hgall := ((World.grownBy_alloc wr _ v.ownBlock).trans (grown_alloc_drew _ _ v.ownBlock)).trans hgrow
        have RB := HBEL.out w1 w2 hgall hg2
        have RS : w.heap.size + 1 ≤ w2.heap.size := Nat.le_trans hsz (Nat.le_trans hgall.size hg2.size)
        clear hgrow hown1 hup hg2 hown hl1 hl2 d0 d1 d2 hat hgall
        go_wp2_with fail
        go_roundw
        case rel => exact ⟨k + 1, by omega, by go_num, I2, RB, RS⟩
        case measure => simp [intOf]; omega
    · go_wp2_with fail
      go_ret
      obtain rfl : k = n := by omega
      exact ⟨rfl, I, hb⟩
end Go.Proofs.Ybulkdepq
