import Derived.Test.YbulkdepqByName
import Derived.Deep.QuietTactic
import Derived.BigQuiet
import Derived.Deep.CutBlock
import Derived.Deep.DeepCutAuto
import Derived.WalkSmall
set_option linter.unusedVariables false
namespace Go.Proofs.Ybulkdepq
open Go.Maps Go.RowKit

theorem Inv.map {w : World} {base B : Nat} {S : List Sym} {n : Nat} (h : Inv w base B S n) (hn : n ≤ S.length) : w.ownsMap Yba.prog 9 R0 B n (Dn S n) := by
  obtain ⟨es, clock, hb, F, hD, hBb, hown, hap⟩ := h
  exact ⟨es, clock, hb, F, by rw [inv_size hD]; exact dist_le S n hn, hD.symm⟩

theorem no_succ {S : List Sym} {j : Nat} {nj nm : ByteArray} (h : ∀ t, t < j → ((symAt S t).1.toList == nm.toList) = false) (hj : nj = (symAt S j).1) (he : (nj.toList == nm.toList) = false) :
    ∀ t, t < j + 1 → ((symAt S t).1.toList == nm.toList) = false := by
  intro t ht
  rcases Nat.lt_or_ge t j with h1 | h1
  · exact h t h1
  · obtain rfl : t = j := by omega
    rw [← hj]; exact he
theorem seen_yes {S : List Sym} {i j : Nat} {nj nm : ByteArray} (hi : i < S.length) (hj : j < i) (hm : nm = (symAt S i).1) (hnj : nj = (symAt S j).1) (he : (nj.toList == nm.toList) = true) :
    false = !(Maps.has (Dn S i) (keyL (symAt S i))) := by
  rw [(has_from hi).2 ⟨j, hj, by rw [← hnj, ← hm]; exact he⟩]; rfl
theorem seen_no {S : List Sym} {i : Nat} {nm : ByteArray} (hi : i < S.length) (hm : nm = (symAt S i).1) (h : ∀ t, t < i → ((symAt S t).1.toList == nm.toList) = false) :
    true = !(Maps.has (Dn S i) (keyL (symAt S i))) := by
  cases hh : Maps.has (Dn S i) (keyL (symAt S i))
  · rfl
  · obtain ⟨j, hj, he⟩ := (has_from hi).1 hh
    rw [← hm, h j hj] at he
    cases he

theorem got_at {w1 : World} {base g L cp : Nat} {S : List Sym} {j n : Nat} {nm y0 y1 : ByteArray} {y2 : Bool} (h : w1.ownsRow base 29 3 (.slice (some ⟨g, 0, none⟩) L cp) L (cellsS (grp S n nm.toList))) (hL : L = (grp S n nm.toList).length)
    (hj : j < n) (hn : n ≤ S.length) (hy : (y0, y1, y2) = symAt S j) (he : (y0.toList == nm.toList) = true) :
    ∃ k, k = (grp S j nm.toList).length ∧ k < L ∧ w1.cell? ⟨g, k * 3, none⟩ = some (.string y0) ∧ w1.cell? ⟨g, k * 3 + 1, none⟩ = some (.string y1) ∧ w1.cell? ⟨g, k * 3 + 2, none⟩ = some (.bool y2) := by
  obtain ⟨h1, h2⟩ := grp_at (S := S) hj hn (c := nm.toList) (by rw [← hy]; exact he)
  obtain ⟨e0, e1, e2⟩ := cellsS_at h1
  rw [h2, ← hy] at e0 e1 e2
  refine ⟨_, rfl, by omega, ?_, ?_, ?_⟩
  · rw [h.cellAt _ (by omega)]; exact e0
  · rw [h.cellAt _ (by omega)]; exact e1
  · rw [h.cellAt _ (by omega)]; exact e2

set_option maxRecDepth 4000 in
set_option maxHeartbeats 1600000 in
theorem groups_core (a0 : Option Addr) (n cap : Nat) (S : List Sym) (w : World) (hn : n ≤ 1024) (hS : S.length = n) (hA : IsSyms w a0 S) :
    Calls Yba.prog 5 #[.slice a0 n cap] w fun e w' => e = .returned (.bool true) ∧ Below w.heap.size w w' := by
  have hbn := byName_any a0 n cap S w hn hS hA
  have HA : Hid (IsSyms w a0 S) := hA
  clear hA
  have qm : ∀ (wx : World) (r : Option Nat), (binOp .eql 26 (.map r) (.map none)).run Yba.prog wx = .ok (.bool r.isNone) wx := fun wx r => run_eql_map_nil wx _ _ _ r Yba.underlying26
  go_enter Yba.func5, Yba.ntmps5
  go_wp2_with (go_at_call 8; refine hbn.mono ?_; rintro e w1 ⟨rfl, I, hb⟩)
  have HC : Hid (0 < n → ∃ b off, a0 = some ⟨b, off, none⟩ ∧ ∀ i, i < n → w1.cell? ⟨b, off + i * 3, none⟩ = some (.string (symAt S i).1) ∧ w1.cell? ⟨b, off + i * 3 + 1, none⟩ = some (.string (symAt S i).2.1) ∧ w1.cell? ⟨b, off + i * 3 + 2, none⟩ = some (.bool (symAt S i).2.2)) := by
    intro hp
    obtain ⟨b, off, e, hbw, hc⟩ := HA.out.2 (by omega)
    refine ⟨b, off, e, fun i hi => ?_⟩
    obtain ⟨c0, c1, c2⟩ := hc i (by omega)
    exact ⟨(hb.cell (p := ⟨b, off + i * 3, none⟩) hbw).trans c0, (hb.cell (p := ⟨b, off + i * 3 + 1, none⟩) hbw).trans c1, (hb.cell (p := ⟨b, off + i * 3 + 2, none⟩) hbw).trans c2⟩
  have HI : Hid (Inv w1 (w.heap.size + 1) w.heap.size S n) := I
  have HBL : Hid (Below w.heap.size w w1) := hb
  clear I hb hbn
  go_loopw [4, 22] (fun d ii wr => ∃ (i q : Nat), i ≤ n ∧ ii = .int .i64 i ∧ d = .int .i64 (dist S i) ∧ w1.drewN q = wr) (fun _ ii _ => n - (intOf ii).toNat)
  case atStart => exact ⟨0, 0, Nat.zero_le _, rfl, rfl, rfl⟩
  case round =>
    obtain ⟨i, q, hi, rfl, rfl, rfl⟩ := hrel
    have hdl := dist_le S i (by omega)
    by_cases hlt : i < n
    · obtain ⟨b, off, rfl, hcs⟩ := HC.out (by omega)
      have ci := (hcs i hlt).1
      obtain ⟨nm, hnm⟩ : ∃ nm, nm = (symAt S i).1 := ⟨_, rfl⟩
      rw [← hnm] at ci
      have HNM : Hid (nm = (symAt S i).1) := hnm
      have HCS : Hid (∀ i, i < n → w1.cell? ⟨b, off + i * 3, none⟩ = some (.string (symAt S i).1) ∧ w1.cell? ⟨b, off + i * 3 + 1, none⟩ = some (.string (symAt S i).2.1) ∧ w1.cell? ⟨b, off + i * 3 + 2, none⟩ = some (.bool (symAt S i).2.2)) := hcs
      clear hcs hnm HC
      go_upto_block 2 with fail
      go_cut [7, 8] (fun f _ wx => ∃ z : Bool, f = .bool z ∧ z = (!(Maps.has (Dn S i) (keyL (symAt S i)))) ∧ w1.drewN q = wx)
      case first =>
        go_wp2_with fail
        go_loop [7, 8] (fun f jj => ∃ j : Nat, j ≤ i ∧ jj = .int .i64 j ∧ f = .bool true ∧ ∀ t, t < j → ((symAt S t).1.toList == nm.toList) = false) (fun _ jj => i - (intOf jj).toNat)
        case atStart => exact ⟨0, Nat.zero_le _, rfl, rfl, fun t ht => by omega⟩
        case round =>
          obtain ⟨j, hj, rfl, rfl, hno⟩ := hrel
          have HNO : Hid (∀ t, t < j → ((symAt S t).1.toList == nm.toList) = false) := hno
          clear hno
          by_cases hji : j < i
          · have cj := (HCS.out j (by omega)).1
            obtain ⟨nj, hnj⟩ : ∃ nj, nj = (symAt S j).1 := ⟨_, rfl⟩
            rw [← hnj] at cj
            have HNJ : Hid (nj = (symAt S j).1) := hnj
            clear hnj
            cases he : (nj.toList == nm.toList)
            · have HE : Hid ((nj.toList == nm.toList) = false) := he
              go_wp2
              go_round
              case rel => exact ⟨j + 1, by omega, by go_num, rfl, no_succ HNO.out HNJ.out HE.out⟩
              case measure => simp [intOf]; omega
            · have HE : Hid ((nj.toList == nm.toList) = true) := he
              go_wp2
              go_meet
              case rel => exact ⟨_, rfl, seen_yes (by omega) hji HNM.out HNJ.out HE.out, rfl⟩
          · obtain rfl : j = i := by omega
            go_wp2
            go_meet
            case rel => exact ⟨_, rfl, seen_no (by omega) HNM.out HNO.out, rfl⟩
      case rest =>
        obtain ⟨z, rfl, hz, rfl⟩ := hcut
        go_upto_if 42 with fail
        go_cut [4, 7] (fun d _ wx => d = .int .i64 (dist S (i + 1)) ∧ w1.drewN q = wx)
        case first =>
          cases hh : Maps.has (Dn S i) (keyL (symAt S i))
          · have HD : Hid (dist S (i + 1) = dist S i + 1) := dist_new (by omega) hh
            rw [hh] at hz
            obtain rfl : z = true := hz
            clear hh
            go_wp2
            go_meet
            case rel => exact ⟨congrArg (Value.int .i64) (by rw [HD.out]; simp), rfl⟩
          · have HD : Hid (dist S (i + 1) = dist S i) := dist_hit (by omega) hh
            rw [hh] at hz
            obtain rfl : z = false := hz
            clear hh
            go_wp2
            go_meet
            case rel => exact ⟨congrArg (Value.int .i64) (by rw [HD.out]), rfl⟩
        case rest =>
          obtain ⟨rfl, rfl⟩ := hcut
          clear hz
          obtain ⟨g, cp, hlk, hrow⟩ := HI.out.look_ok hlt (by omega) (HA.out.1 i (by omega)).1
          rw [← HNM.out] at hlk hrow
          obtain ⟨L, hL⟩ : ∃ L, L = (grp S n nm.toList).length := ⟨_, rfl⟩
          have hLn : L ≤ 1024 := by have := grp_len S n nm.toList; omega
          rw [← hL] at hlk hrow
          have hlk1 := hlk (w1.drewN q) rfl
          have HL : Hid (L = (grp S n nm.toList).length) := hL
          have HROW : Hid (w1.ownsRow (w.heap.size + 1) 29 3 (.slice (some ⟨g, 0, none⟩) L cp) L (cellsS (grp S n nm.toList))) := hrow
          clear hlk hL hrow
          go_upto_block 4 with fail
          go_cut [11, 12, 55] (fun kk _ _ wx => kk = .int .i64 L ∧ ∃ q' : Nat, w1.drewN q' = wx)
          case first =>
            go_wp2_with fail
            go_loopw [11, 55] (fun kk jj wr => ∃ (j q' : Nat), j ≤ n ∧ jj = .int .i64 j ∧ kk = .int .i64 (grp S j nm.toList).length ∧ w1.drewN q' = wr) (fun _ jj _ => n - (intOf jj).toNat)
            case atStart => exact ⟨0, q, Nat.zero_le _, rfl, rfl, rfl⟩
            case round =>
              obtain ⟨j, q', hj, rfl, rfl, rfl⟩ := hrel
              by_cases hjn : j < n
              · obtain ⟨c0, c1, c2⟩ := HCS.out j hjn
                obtain ⟨y0, y1, y2, hy⟩ : ∃ y0 y1 y2, (y0, y1, y2) = symAt S j := ⟨_, _, _, rfl⟩
                rw [← hy] at c0 c1 c2
                have HY : Hid ((y0, y1, y2) = symAt S j) := hy
                clear hy
                cases he : (y0.toList == nm.toList)
                · have HG : Hid (grp S (j + 1) nm.toList = grp S j nm.toList) := grp_miss (by omega) (by rw [← HY.out]; exact he)
                  go_wp2
                  go_roundw
                  case rel => exact ⟨j + 1, q', by omega, by go_num, congrArg (fun l : List Sym => Value.int .i64 (l.length : Int)) HG.out.symm, rfl⟩
                  case measure => simp [intOf]; omega
                · have HG : Hid (grp S (j + 1) nm.toList = grp S j nm.toList ++ [symAt S j]) := grp_hit (by omega) (by rw [← HY.out]; exact he)
                  obtain ⟨k, hk, hkL, g0, g1, g2⟩ := got_at (S := S) (j := j) (n := n) (nm := nm) HROW.out HL.out hjn (by omega) HY.out he
                  have HK : Hid (k = (grp S j nm.toList).length) := hk
                  rw [← hk]
                  clear hk
                  have hd : decide ((L : Int) ≤ (k : Int)) = false := decide_eq_false (by omega)
                  go_wp2
                  go_quiet (fail)
                  go_wp2
                  go_roundw
                  case rel => exact ⟨j + 1, _, by omega, by go_num, congrArg (Value.int .i64) (by rw [HG.out, HK.out]; simp), rfl⟩
                  case measure => simp [intOf]; omega
              · obtain rfl : j = n := by omega
                go_wp2
                go_meet
                case rel => exact ⟨congrArg (fun l : Nat => Value.int .i64 (l : Int)) HL.out.symm, _, rfl⟩
          case rest =>
            obtain ⟨rfl, q', rfl⟩ := hcut
            clear hlk1
            go_wp2
            go_roundw
            case rel => exact ⟨i + 1, q', by omega, by go_num, rfl, rfl⟩
            case measure => simp [intOf]; omega
    · go_wp2_with (at_len; refine wpList_len_own _ rfl _ 26 rfl 9 25 Yba.underlying26 R0 w.heap.size n (Dn S n) rfl (HI.out.map (by omega)) ?_)
      go_ret
      obtain rfl : i = n := by omega
      exact ⟨congrArg (fun b => Ending.returned (.bool b)) (by simp [dist]), below_drewN HBL.out _⟩
end Go.Proofs.Ybulkdepq
