/-
  Rows.LawS5294CGroupsSaid: the frame typed after the guide's own way for a law over slices (howto/shells), for one slice of structs.
-/
import Derived.Test.YbulkdepqRows
import Derived.Test.YbulkdepqGroups
import Derived.WalkKit
import Derived.ProofKit
import Derived.OpenShut
import Derived.ShutString
import Derived.ChangeOld
import Derived.Below
import Derived.Deep.Slices
import Derived.Deep.Strs
namespace Go.Proofs.Ybulkdepq.lawS5294CGroups
open Go.ChangeShapes Go.WideShapes Go.ChangeAt Go.RowKit Go.Deep
set_option linter.unusedVariables false

theorem own : ownKnob Yba.prog.godebug = none := by kernel_rfl
theorem laidOut : laidOutB Yba.prog = true := by kernel_rfl
theorem cells29 : Yba.prog.cellsOf 29 = 3 := by kernel_rfl
theorem cells9 : Yba.prog.cellsOf 9 = 1 := by kernel_rfl
theorem cells4 : Yba.prog.cellsOf 4 = 1 := by kernel_rfl

/-- one symbol's three cells, read -/
theorem open_sym {H : Type} {enc : TypeId × Value → H} {W : World} {base : Nat} {sp : Nat → Bool} {held : Bool} {n : Nat} {cs : List Value} {y : DataW H × List MemPlace}
    (h : DataW.trod enc Yba.prog W base sp held n 29 cs = some y) : ∃ (s0 s1 : ByteArray) (b2 : Bool), cs = [.string s0, .string s1, .bool b2] ∧ s0.size ≤ maxLen ∧ s1.size ≤ maxLen := by
  obtain ⟨y0, y1, y2, k, _, hl, h0, h1, h2⟩ := trod_struct3 Yba.underlying29 h
  rw [cells29] at hl
  match cs, hl with
  | [c0, c1, c2], _ =>
    simp only [cells9, cells4] at h0 h1 h2
    obtain ⟨s0, e0, _, z0⟩ := DataW.trod_string Yba.underlying9 h0
    obtain ⟨s1, e1, _, z1⟩ := DataW.trod_string Yba.underlying9 h1
    obtain ⟨b2, e2, _⟩ := DataW.trod_bool Yba.underlying4 h2
    simp at e0 e1 e2
    subst e0 e1 e2
    exact ⟨s0, s1, b2, rfl, z0, z1⟩

/-- the slice that came in: its symbols -/
theorem open_syms {H : Type} {enc : TypeId × Value → H} {W : World} {fuel : Nat} {a : Option Addr} {len cap : Nat} {y : DataW H × List MemPlace}
    (h : DataW.trod enc Yba.prog W 0 (fun _ => true) true fuel 25 [.slice a len cap] = some y) : ∃ S : List Sym, S.length = len ∧ IsSyms W a S := by
  rcases open_slice Yba.underlying25 h with ⟨hcs, _⟩ | ⟨x, l, c, m, n, D, Pl, hcs, _, hl, hm, hmm, _, hx⟩
  · simp at hcs
    obtain ⟨rfl, rfl, rfl⟩ := hcs
    exact ⟨[], rfl, fun i hi => by simp at hi, fun h0 => by simp at h0⟩
  · simp only [List.cons.injEq, Value.slice.injEq, and_true] at hcs
    obtain ⟨rfl, rfl, rfl⟩ := hcs
    simp only [if_true] at hmm
    subst hmm
    rw [cells29] at hx
    have each : ∀ i, i < len → ∃ q : Sym, W.cell? (x.add (i * 3)) = some (.string q.1) ∧ W.cell? (x.add (i * 3 + 1)) = some (.string q.2.1) ∧ W.cell? (x.add (i * 3 + 2)) = some (.bool q.2.2) ∧ q.1.size ≤ maxLen ∧ q.2.1.size ≤ maxLen := by
      intro i hi
      obtain ⟨cs', h1, h2⟩ := hx i (by omega)
      obtain ⟨s0, s1, b2, rfl, z0, z1⟩ := open_sym h2
      obtain ⟨_, _, hcell⟩ := World.cells?_some h1
      have e0 := hcell 0 (by omega)
      have e1 := hcell 1 (by omega)
      have e2 := hcell 2 (by omega)
      rw [add_add] at e0 e1 e2
      exact ⟨(s0, s1, b2), by simpa using e0, by simpa using e1, by simpa using e2, z0, z1⟩
    obtain ⟨q, hq⟩ : ∃ q : Nat → Sym, ∀ i, i < len → W.cell? (x.add (i * 3)) = some (.string (q i).1) ∧ W.cell? (x.add (i * 3 + 1)) = some (.string (q i).2.1) ∧ W.cell? (x.add (i * 3 + 2)) = some (.bool (q i).2.2) ∧ (q i).1.size ≤ maxLen ∧ (q i).2.1.size ≤ maxLen :=
      choose_lt each
    have hlen : ((List.range len).map q).length = len := by simp
    have hat : ∀ i, i < len → symAt ((List.range len).map q) i = q i := fun i hi => by
      unfold symAt
      simp [List.getD_eq_getElem?_getD, hi]
    refine ⟨(List.range len).map q, hlen, fun i hi => ?_, fun hpos => ?_⟩
    · rw [hlen] at hi
      rw [hat i hi]
      exact (hq i hi).2.2.2
    · rw [hlen] at hpos
      obtain ⟨b, off, spot⟩ := x
      have hspot : spot = none := by simpa [Addr.add] using World.cell?_spot (hq 0 hpos).1
      subst hspot
      refine ⟨b, off, rfl, by have := World.block_lt_of_cell? W _ (hq 0 hpos).1; simpa [add_plain] using this, fun i hi => ?_⟩
      rw [hlen] at hi
      rw [hat i hi]
      obtain ⟨e0, e1, e2, _⟩ := hq i hi
      rw [add_plain] at e0 e1 e2
      exact ⟨e0, by rw [Nat.add_assoc]; exact e1, by rw [Nat.add_assoc]; exact e2⟩

set_option maxRecDepth 4000 in
theorem walk (a0 : Option Addr) (len cap : Nat) (S : List Sym) (w : World) (hS : S.length = len) (hA : IsSyms w a0 S) :
    Calls Yba.prog 5 #[.slice a0 len cap] w fun e w' => e = .returned (.bool true) ∧ Below w.heap.size w w' := by
  by_cases hn : 1024 < len
  · clear hA hS
    go_enter Yba.func5, Yba.ntmps5
    go_wp2
    go_ret
    exact ⟨rfl, Below.refl _ _⟩
  · exact groups_core a0 len cap S w (by omega) hS hA

set_option maxRecDepth 100000 in
theorem lifted (os : Os) (started : os.Started) (H : Type) (enc : TypeId × Value → H) :
    ReturnsInHanded {} Yba.checked os 5 .any (Rows.lawS5294CGroupsSpec.pre6 enc Yba.prog Yba.f5 Rows.lawS5294CGroupsRow.domain false) (Rows.lawS5294CGroupsSpec.post enc Yba.prog Yba.f5 false true false false) := by
  refine returnsInHanded_of_change (C := Yba.checked) own started (by kernel_rfl) Yba.func5
    (ChangeSpec.witness6 (enc := enc) (C := Yba.checked) false ⟨#[], #[.slice none 0 0], []⟩ 8 (by kernel_rfl) (by kernel_rfl) (by kernel_rfl) (by kernel_rfl)) ?_
  intro W base args ds gs before hval0 hW hcnd _
  have hval : ∀ (j : Nat) t v, Yba.f5.params[j]? = some t → args[j]? = some v → Value.okWide Yba.prog W .any base t v := hval0
  have hW' := hW
  obtain ⟨p, q, hA0, hV, rfl, hfz, hnd⟩ := hW
  have hA : DataW.TrodAll enc Yba.prog W 0 (fun _ => true) true Yba.f5.params.toList args.toList ds p := hA0
  rw [Yba.params5] at hA hval
  obtain ⟨v0, vs0, d0, ds0, p0, q0, hargs, rfl, rfl, h0, r0⟩ := trodAll_cons hA
  obtain ⟨rfl, rfl, rfl⟩ := trodAll_nil r0
  obtain rfl : args = #[v0] := by cases args; simp_all
  obtain ⟨rfl, rfl⟩ := trodVars_none hV
  obtain ⟨a0, len0, cap0, rfl⟩ := okWide_slice Yba.underlying25 (hval 0 25 v0 rfl rfl)
  have k0 := h0
  have lt0 : ∀ x ∈ p0, x.block < W.heap.size := by obtain ⟨m, hm⟩ := k0; exact DataW.trod_lt m _ _ _ hm
  obtain ⟨S, hS, w0⟩ : ∃ S : List Sym, S.length = len0 ∧ IsSyms W a0 S := by
    obtain ⟨fuel, hf⟩ := h0
    exact open_syms (by simpa [Value.cells] using hf)
  clear hA0 hval0
  refine (walk a0 len0 cap0 S W hS w0).mono fun e W' ⟨he, bel⟩ => ?_
  subst he
  exact ⟨_, rfl, _, _, _, [], _, [], hW', trodAll_mk1 (shut_bool Yba.underlying4 _), (trodAll_cons_mk (Below.trod laidOut (by kernel_rfl) (of_decide_eq_true (by kernel_rfl)) k0 bel lt0) trodAll_mk0), rfl, bel.frame _, fun h => by cases h⟩

theorem over : Rows.lawS5294CGroupsRow.holds Yba.pinned (OpenSpec.ofChange Rows.lawS5294CGroupsSpec) :=
  OpenClaim.holds_of_wide 5 Yba.f5 rfl rfl rfl rfl rfl rfl rfl ⟨rfl, rfl, rfl, rfl, rfl⟩ rfl rfl rfl rfl rfl (by kernel_rfl) Yba.func5 (by kernel_rfl)
    (of_decide_eq_true (by kernel_rfl)) (by unfold Func.isWrapper; first | (rw [if_pos (by decide +kernel)]; kernel_rfl) | (rw [if_neg (by decide +kernel)]; exact ⟨rfl, rfl⟩))
    (fun os started H enc _ => lifted os started H enc)

theorem proved : Rows.LawS5294CGroupsSaid := over
end Go.Proofs.Ybulkdepq.lawS5294CGroups
