import Derived.Test.YbulkdeooPeek
import Derived.Laws.CopyOwn
import Derived.Deep.CutBlock
import Derived.Deep.DeepCutAuto
set_option linter.unusedVariables false
namespace Go.Proofs.Ybulkdeoo
open Go.RowKit

theorem info5 : (Yba.prog.info? 5).map (fun i => (i.zero, i.size, i.bytes)) = some (some (.int .u8 0), 1, 1) := by kernel_rfl
theorem size5 : (Yba.prog.info? 5).map (·.size) = some 1 := by kernel_rfl

/-- an owned full row's block -/
theorem own_heap {w : World} {base : Nat} {e : TypeId} {g n : Nat} {xs : List Value} (h : w.ownsRow base e 1 (.slice (some ⟨g, 0, none⟩) n n) n xs) :
    w.heap[g]? = some (.cells xs.toArray e (0, 0)) ∧ xs.length = n := by
  obtain ⟨hl, ⟨hv, _⟩ | ⟨g', cap, cur, hv, _, hh, _, _, hs, ht⟩⟩ := h
  · simp at hv
  · simp at hv
    obtain ⟨rfl, rfl⟩ := hv
    have e : xs = cur.toList := by rw [← ht]; exact List.take_of_length_le (by simp [hs])
    subst e
    exact ⟨by simpa using hh, by simpa using hs⟩

theorem splice_all {α : Type} (L cs : List α) (h : cs.length = L.length) : splice L 0 cs = cs := by
  simp [splice, h]

/-- the row that holds the numbers Z -/
theorem row_cells {w : World} {g n : Nat} {L : List Value} {Z : List Int} (h : Hid (w.heap[g]? = some (.cells (splice L 0 (Z.map (Value.int .u8))).toArray 5 (0, 0)))) (hL : L.length = n) (hZ : Z.length = n) :
    (∀ j, j < n → w.cell? ⟨g, j, none⟩ = some (.int .u8 (Z.getD j 0))) ∧ g < w.heap.size := by
  have hh := h.out
  rw [splice_all L _ (by simp [hL, hZ])] at hh
  refine ⟨fun j hj => ?_, ?_⟩
  · simp [World.cell?, hh, List.getElem?_eq_getElem (show j < Z.length by omega)]
  · rcases Nat.lt_or_ge g w.heap.size with hlt | hge
    · exact hlt
    · rw [Array.getElem?_eq_none hge] at hh; cases hh

theorem fitL {Z : List Int} {xs : List Value} {n : Nat} (hZ : Z.length = n) (hx : xs.length = n) : 0 + (Z.map (Value.int .u8)).length ≤ xs.length := by simp [hZ, hx]

theorem srcL {a0 : Option Addr} {cs : List Value} {w w1 : World} (hg : w.grownBy w1 none) (h : ∃ ad, a0 = some ad ∧ ∀ j v, cs[j]? = some v → w.cell? (ad.add j) = some v) :
    ∃ ad, a0 = some ad ∧ ∀ j v, cs[j]? = some v → w1.cell? (ad.add j) = some v := by
  obtain ⟨ad, e, hc⟩ := h
  exact ⟨ad, e, fun j v hj => hg.cell (hc j v hj) (by simp)⟩

theorem belowL {w w1 : World} (hg : w.grownBy w1 none) : Below w.heap.size w w1 := (Below.refl _ _).grown hg (Nat.le_refl _) (fun k h => by cases h)

/-- accept on the scanner that the law has just laid -/
theorem accept_laid (g n i : Nat) (Ln : Int) (Z : List Int) (L : ByteArray) (W w0 : World) (hi : i ≤ n) (hn : n ≤ 4096) (hl : L.size ≤ 8192) (hZ : Z.length = n)
    (hgW : g < W.heap.size) (hr : ∀ j, j < n → W.cell? ⟨g, j, none⟩ = some (.int .u8 (Z.getD j 0))) (hb : Below w0.heap.size w0 W) :
    Calls Yba.prog 6 #[.pointer (some ⟨W.heap.size, 0, none⟩), .string L] (W.alloc (.cells #[.slice (some ⟨g, 0, none⟩) n n, .int .i64 (i : Int), .int .i64 Ln, .pointer none] 27)) fun e w3 => e = .returned (.bool (pk Z i L)) ∧
      w3.cell? ⟨W.heap.size, 0, none⟩ = some (.slice (some ⟨g, 0, none⟩) n n) ∧ w3.cell? ⟨W.heap.size, 1, none⟩ = some (.int .i64 (ni Z i L : Int)) ∧
      w3.cell? ⟨W.heap.size, 2, none⟩ = some (.int .i64 Ln) ∧ w3.cell? ⟨W.heap.size, 3, none⟩ = some (.pointer none) ∧
      (∀ j, j < n → w3.cell? ⟨g, j, none⟩ = some (.int .u8 (Z.getD j 0))) ∧ Below w0.heap.size w0 w3 ∧ W.heap.size < w3.heap.size := by
  have hr' : ∀ j, j < n → (W.alloc (.cells #[.slice (some ⟨g, 0, none⟩) n n, .int .i64 (i : Int), .int .i64 Ln, .pointer none] 27)).cell? ⟨g, j, none⟩ = some (.int .u8 (Z.getD j 0)) :=
    fun j hj => (Below.cell (B := W.heap.size) ((Below.refl _ _).alloc (Nat.le_refl _) _) hgW).trans (hr j hj)
  refine (accept_any W.heap.size g n i Ln Z L _ hi hn hl hZ (by simp) (by simp) (by simp) (by simp) (by simp) hr').mono ?_
  rintro e w3 ⟨he, c0, c1, c2, c3, hb3⟩
  refine ⟨he, c0, c1, c2, c3, fun j hj => (hb3.cell hgW).trans (hr' j hj), ?_, ?_⟩
  · exact (hb.alloc hb.size _).trans (hb3.mono hb.size)
  · have := hb3.size; simp at this; omega

/-- what the law knows of memory from the call of accept on -/
structure Scan (w0 : World) (sb n j0 : Nat) (Ln : Int) (Z : List Int) (wx : World) : Prop where
  c0 : wx.cell? ⟨sb, 0, none⟩ = some (.slice (some ⟨w0.heap.size, 0, none⟩) n n)
  c1 : wx.cell? ⟨sb, 1, none⟩ = some (.int .i64 (j0 : Int))
  c2 : wx.cell? ⟨sb, 2, none⟩ = some (.int .i64 Ln)
  c3 : wx.cell? ⟨sb, 3, none⟩ = some (.pointer none)
  row : ∀ j, j < n → wx.cell? ⟨w0.heap.size, j, none⟩ = some (.int .u8 (Z.getD j 0))
  below : Below w0.heap.size w0 wx
theorem Scan.drewN {w0 : World} {sb n j0 : Nat} {Ln : Int} {Z : List Int} {wx : World} (h : Scan w0 sb n j0 Ln Z wx) (m : Nat) : Scan w0 sb n j0 Ln Z (wx.drewN m) :=
  ⟨h.c0, h.c1, h.c2, h.c3, h.row, below_drewN h.below m⟩

/-- the first k bytes behind i are lit's -/
def eqTo (Z : List Int) (i : Nat) (L : ByteArray) (k : Nat) : Bool := decide (∀ j, j < k → Z.getD (i + j) 0 = ((L.data.toList.getD j 0).toNat : Int))

theorem byte_at (L : ByteArray) (k : Nat) (h : k < L.size) : L[k] = L.data.toList.getD k 0 := by
  have h' : k < L.data.toList.length := by simpa using h
  rw [List.getD_eq_getElem?_getD, List.getElem?_eq_getElem h']
  rfl
theorem eqTo_zero (Z : List Int) (i : Nat) (L : ByteArray) : eqTo Z i L 0 = true := by simp [eqTo]
theorem eqTo_yes {Z : List Int} {i : Nat} {L : ByteArray} {k : Nat} (hk : k < L.size) (he : eqTo Z i L k = true) (h : (Z[i + k]?.getD 0 != ((L[k]'hk).toNat : Int)) = false) : eqTo Z i L (k + 1) = true := by
  rw [byte_at L k hk] at h
  simp only [eqTo, decide_eq_true_eq] at he ⊢
  intro j hj
  rcases Nat.lt_or_ge j k with hl | hl
  · exact he j hl
  · obtain rfl : j = k := by omega
    simpa [List.getD_eq_getElem?_getD] using h
theorem eqTo_no {Z : List Int} {i : Nat} {L : ByteArray} {k : Nat} (hk : k < L.size) (h : (Z[i + k]?.getD 0 != ((L[k]'hk).toNat : Int)) = true) : eqTo Z i L (k + 1) = false := by
  rw [byte_at L k hk] at h
  simp only [eqTo, decide_eq_false_iff_not]
  intro hc
  have := hc k (by omega)
  rw [List.getD_eq_getElem?_getD (l := Z)] at this
  rw [this] at h
  simp at h
theorem eqTo_mono {Z : List Int} {i : Nat} {L : ByteArray} {k m : Nat} (hk : k ≤ m) (he : eqTo Z i L k = false) : eqTo Z i L m = false := by
  simp only [eqTo, decide_eq_false_iff_not] at he ⊢
  exact fun hc => he fun j hj => hc j (by omega)
theorem byte_of (z : Int) (u : UInt8) (h0 : 0 ≤ z) (h1 : z ≤ 255) : UInt8.ofNat z.toNat = u ↔ z = (u.toNat : Int) := by
  constructor
  · intro h; subst h; simp; omega
  · intro h; subst h; simp
theorem pk_eq {Z : List Int} {i : Nat} {L : ByteArray} (hz : ∀ j, 0 ≤ Z.getD j 0 ∧ Z.getD j 0 ≤ 255) (hc : i + L.size ≤ Z.length) : pk Z i L = eqTo Z i L L.size := by
  have hlen : L.data.toList.length = L.size := by simp
  unfold pk eqTo
  rw [decide_eq_true hc, Bool.true_and, Bool.eq_iff_iff, beq_iff_eq, decide_eq_true_eq, ByteArray.toList_eq, ByteArray.toList_eq, strOfNums_data]
  constructor
  · intro h j hj
    have h1 : j < Z.length - i := by omega
    have h2 := congrArg (fun l => l.getD j 0) h
    simp only [List.getD_eq_getElem?_getD, List.getElem?_map, List.getElem?_take, hj, if_true, List.getElem?_drop] at h2
    rw [List.getElem?_eq_getElem (show i + j < Z.length by omega)] at h2
    simp only [Option.map_some, Option.getD_some] at h2
    have e : Z.getD (i + j) 0 = Z[i + j]'(by omega) := by rw [List.getD_eq_getElem?_getD, List.getElem?_eq_getElem (show i + j < Z.length by omega)]; rfl
    rw [← e] at h2
    have := (byte_of _ _ (hz (i + j)).1 (hz (i + j)).2).mp h2
    simpa [List.getD_eq_getElem?_getD] using this
  · intro h
    apply List.ext_getElem
    · simp; omega
    · intro j h1 h2
      have hj : j < L.size := by omega
      have := h j hj
      have e : Z.getD (i + j) 0 = Z[i + j]'(by omega) := by rw [List.getD_eq_getElem?_getD, List.getElem?_eq_getElem (show i + j < Z.length by omega)]; rfl
      have e2 : L.data.toList.getD j 0 = L.data.toList[j] := by rw [List.getD_eq_getElem?_getD, List.getElem?_eq_getElem h2]; rfl
      rw [e2] at this
      have := (byte_of _ _ (hz (i + j)).1 (hz (i + j)).2).mpr this
      rw [e] at this
      simpa using this
theorem pk_long {Z : List Int} {i : Nat} {L : ByteArray} (hc : ¬ i + L.size ≤ Z.length) : pk Z i L = false := by simp [pk, hc]

theorem conv_row {w2 : World} {g n i m : Nat} {Z : List Int} (hr : ∀ j, j < n → w2.cell? ⟨g, j, none⟩ = some (.int .u8 (Z.getD j 0))) (hZ : Z.length = n) (hm : i + m ≤ n) :
    ∃ S : ByteArray, S.size = m ∧ ∀ cap, (convert 22 9 (.slice (some ⟨g, i, none⟩) m cap)).run Yba.prog w2 = .ok (.string S) w2 := by
  refine ⟨strOfNums ((Z.drop i).take m), by rw [strOfNums_size]; simp; omega, fun cap => ?_⟩
  refine run_convert_bytes_arg w2 22 5 Yba.underlying22 Yba.underlying5 g i m cap _ (by simp; omega) (fun j hj => ?_) 9 Yba.underlying9
  rw [hr _ (by omega)]
  simp [List.getD, hj]
theorem conv_none (w2 : World) (g : Nat) : ∃ S : ByteArray, S.size = 0 ∧ (convert 22 9 (.slice (some ⟨g, 0, none⟩) 0 0)).run Yba.prog w2 = .ok (.string S) w2 :=
  ⟨strOfNums [], rfl, run_convert_bytes_arg w2 22 5 Yba.underlying22 Yba.underlying5 g 0 0 0 [] rfl (fun j hj => by omega) 9 Yba.underlying9⟩

set_option maxRecDepth 4000 in
set_option maxHeartbeats 800000 in
theorem core (a0 : Option Addr) (n cap0 : Nat) (Z : List Int) (I : Int) (Lit : ByteArray) (Tk : Int) (fb : Bool) (Ln : Int) (w : World)
    (hn : n ≤ 4096) (hL : Lit.size ≤ 4096) (hZ : Z.length = n) (hI : 0 ≤ I) (hT : 0 ≤ Tk) (hz : ∀ j, 0 ≤ Z.getD j 0 ∧ Z.getD j 0 ≤ 255)
    (hB : 0 < n → ∃ b off, a0 = some ⟨b, off, none⟩ ∧ b < w.heap.size ∧ ∀ j, j < n → w.cell? ⟨b, off + j, none⟩ = some (.int .u8 (Z.getD j 0))) :
    Calls Yba.prog 3 #[.slice a0 n cap0, .int .u64 I, .string Lit, .int .u64 Tk, .bool fb, .int .i64 Ln] w fun e w' => e = .returned (.bool true) ∧ Below w.heap.size w w' := by
  obtain ⟨i0, hi0, hz0, hz1, hz2⟩ := info_parts info5
  have hsrc : 0 < (Z.map (Value.int .u8)).length → ∃ ad, a0 = some ad ∧ ∀ j v, (Z.map (Value.int .u8))[j]? = some v → w.cell? (ad.add j) = some v := by
    intro h
    obtain ⟨b, off, rfl, hb, hc⟩ := hB (by simpa [hZ] using h)
    refine ⟨_, rfl, fun j v hj => ?_⟩
    have hjl : j < Z.length := by
      rcases Nat.lt_or_ge j Z.length with h | h
      · exact h
      · rw [List.getElem?_eq_none (by simpa using h)] at hj; cases hj
    have hplain : (⟨b, off, none⟩ : Addr).add j = ⟨b, off + j, none⟩ := by unfold Addr.add; split <;> simp_all
    rw [hplain, hc j (by omega)]
    simpa [List.getElem?_eq_getElem hjl] using hj
  obtain ⟨i, hi⟩ : ∃ i : Nat, I % ((n : Int) + 1) = (i : Int) := ⟨(I % ((n : Int) + 1)).toNat, by rw [Int.toNat_of_nonneg (Int.emod_nonneg _ (by omega))]⟩
  have hin : i ≤ n := by have := Int.emod_lt_of_pos I (show (0 : Int) < (n : Int) + 1 by omega); omega
  have HSRC : Hid (0 < (Z.map (Value.int .u8)).length → ∃ ad, a0 = some ad ∧ ∀ j v, (Z.map (Value.int .u8))[j]? = some v → w.cell? (ad.add j) = some v) := hsrc
  have HB : Hid (0 < n → ∃ b off, a0 = some ⟨b, off, none⟩ ∧ b < w.heap.size ∧ ∀ j, j < n → w.cell? ⟨b, off + j, none⟩ = some (.int .u8 (Z.getD j 0))) := hB
  have HZ : Hid (∀ j, 0 ≤ Z.getD j 0 ∧ Z.getD j 0 ≤ 255) := hz
  clear hsrc hB hz
  have hcsl : (Z.map (Value.int .u8)).length = Nat.min n n := by rw [List.length_map, hZ]; exact (Nat.min_self n).symm
  have HCSL : Hid ((Z.map (Value.int .u8)).length = Nat.min n n) := hcsl
  clear hcsl
  go_enter Yba.func3, Yba.ntmps3
  go_upto_if 44 with (first
    | (at_make; refine wpList_make_full _ rfl _ _ 22 rfl w.heap.size 5 i0 (.int .u8 0) 1 Yba.underlying22 hi0 hz0 hz1 .i64 .i64 _ _ n rfl rfl (by omega) (by omega) (by rw [hz2]; omega) (by unfold maxLen; omega) (Nat.le_refl _) ?_; intro w1 hown1 hgrow1)
    | (with_reducible refine wpList_copy_splice rfl (.tmp 33) (.tmp 34) 22 22 rfl 5 Yba.underlying22 size5 _ _ n n n cap0 rfl rfl w.heap.size 0 _ 5 (own_heap hown1).1 (Z.map (Value.int .u8)) HCSL.out (fun h => ⟨rfl, srcL hgrow1 (HSRC.out h)⟩) (fitL hZ (own_heap hown1).2) (ints_oneCell _ _) w.heap.size w (belowL hgrow1) (Nat.le_refl _) ?_; intro w2 HG2 hB2; obtain ⟨hr2, hz2s⟩ := row_cells HG2 (own_heap hown1).2 hZ; clear HG2 hown1 hgrow1 HSRC HCSL))
  clear hi0 hz0 hz1 hz2
  go_cut [15] (fun v wx => ∃ L : ByteArray, L.size ≤ 8192 ∧ v = .string L ∧ w2 = wx)
  case first =>
    cases fb
    · go_wp2
      go_meet
      case rel => exact ⟨Lit, by omega, rfl, rfl⟩
    · obtain ⟨m, hm⟩ : ∃ m : Nat, Tk % ((n : Int) - (i : Int) + 1) = (m : Int) := ⟨(Tk % ((n : Int) - (i : Int) + 1)).toNat, by rw [Int.toNat_of_nonneg (Int.emod_nonneg _ (by omega))]⟩
      have hmn : i + m ≤ n := by have := Int.emod_lt_of_pos Tk (show (0 : Int) < (n : Int) - (i : Int) + 1 by omega); omega
      by_cases hlt : i < n
      · obtain ⟨S, hS, hcv⟩ := conv_row hr2 hZ hmn
        clear hr2
        go_wp2
        go_meet
        case rel => exact ⟨S ++ Lit, by simp [ByteArray.size_append]; omega, rfl, rfl⟩
      · obtain rfl : i = n := by omega
        obtain ⟨S, hS, hcv⟩ := conv_none w2 w.heap.size
        obtain rfl : m = 0 := by omega
        clear hr2
        go_wp2
        go_meet
        case rel => exact ⟨S ++ Lit, by simp [ByteArray.size_append]; omega, rfl, rfl⟩
  case rest =>
    obtain ⟨L, hLs, rfl, rfl⟩ := hcut
    go_upto_block 0 with (go_at_call 6; refine (accept_laid w.heap.size n i Ln Z L _ w hin hn hLs hZ hz2s hr2 hB2).mono ?_; rintro e w3 ⟨rfl, c0, c1, c2, c3, hr3, hb3, hs3⟩)
    go_cut [19, 20, 77] (fun v _ _ wx => v = .bool (pk Z i L) ∧ Scan w w2.heap.size n (ni Z i L) Ln Z wx)
    case first =>
      have S3 : Scan w w2.heap.size n (ni Z i L) Ln Z w3 := ⟨c0, c1, c2, c3, hr3, hb3⟩
      clear c0 c1 c2 c3 hr3 hb3 hr2 hB2
      by_cases hc : i + L.size ≤ n
      · go_wp2_with fail
        go_loopw [19, 20] (fun v kk wr => ∃ k : Nat, k ≤ L.size ∧ kk = .int .i64 k ∧ v = .bool (eqTo Z i L k) ∧ Scan w w2.heap.size n (ni Z i L) Ln Z wr) (fun _ kk _ => L.size - (intOf kk).toNat)
        case atStart => exact ⟨0, Nat.zero_le _, rfl, congrArg Value.bool ((decide_eq_true (by omega)).trans (eqTo_zero Z i L).symm), S3⟩
        case round =>
          obtain ⟨k, hk, rfl, rfl, S⟩ := hrel
          cases he : eqTo Z i L k
          · have HE : Hid (eqTo Z i L k = false) := he
            go_wp2
            go_meet
            case rel => exact ⟨congrArg Value.bool (by rw [pk_eq HZ.out (by omega)]; exact (eqTo_mono hk HE.out).symm), S⟩
          · by_cases hlt : k < L.size
            · have hcell := S.row (i + k) (by omega)
              have HE : Hid (eqTo Z i L k = true) := he
              go_wp2
              go_quiet (fail)
              go_wp2
              · go_roundw
                case rel => exact ⟨k + 1, by omega, by go_num, congrArg Value.bool (eqTo_no hlt (by assumption)).symm, S.drewN _⟩
                case measure => simp [intOf]; omega
              · go_roundw
                case rel => exact ⟨k + 1, by omega, by go_num, congrArg Value.bool (eqTo_yes hlt HE.out (by assumption)).symm, S.drewN _⟩
                case measure => simp [intOf]; omega
            · have HE : Hid (eqTo Z i L k = true) := he
              obtain rfl : k = L.size := by omega
              go_wp2
              go_meet
              case rel => exact ⟨congrArg Value.bool (by rw [pk_eq HZ.out (by omega)]; exact HE.out.symm), S⟩
      · have hd : decide ((i : Int) + (L.size : Int) ≤ (n : Int)) = false := decide_eq_false (by omega)
        go_wp2_with fail
        refine wp_loop_rounds 1 ?_
        rw [rounds_succ]
        go_wp2
        go_meet
        case rel => exact ⟨congrArg Value.bool (pk_long (by omega)).symm, S3⟩
    case rest =>
      obtain ⟨rfl, S⟩ := hcut
      clear c0 c1 c2 c3 hr3 hb3 hr2 hB2
      obtain ⟨c0, c1, c2, c3, hr3, hb3⟩ := S
      cases hp : pk Z i L
      · have hni : ni Z i L = i := by simp [ni, hp]
        rw [hni] at c1
        clear hp hni
        go_wp2_with fail
        go_loopw [21] (fun kk wr => ∃ k : Nat, k ≤ n ∧ kk = .int .i64 k ∧ Scan w w2.heap.size n i Ln Z wr) (fun kk _ => n - (intOf kk).toNat)
        case atStart => exact ⟨0, Nat.zero_le _, rfl, ⟨c0, c1, c2, c3, hr3, hb3⟩⟩
        case round =>
          obtain ⟨k, hk, rfl, S⟩ := hrel
          clear c0 c1 c2 c3 hr3 hb3
          by_cases hlt : k < n
          · obtain ⟨b, off, rfl, hbw, hBc⟩ := HB.out (by omega)
            have hb1 := S.c0
            have hrow := S.row k hlt
            have hbc : wr.cell? ⟨b, off + k, none⟩ = some (.int .u8 (Z.getD k 0)) := (S.below.cell (p := ⟨b, off + k, none⟩) hbw).trans (hBc k hlt)
            clear hBc HB
            go_wp2
            go_quiet (fail)
            go_wp2
            go_roundw
            case rel => exact ⟨k + 1, by omega, by go_num, S.drewN _⟩
            case measure => simp [intOf]; omega
          · go_wp2
            go_ret
            exact ⟨rfl, S.below⟩
      · have hni : ((ni Z i L : Nat) : Int) = (i : Int) + (L.size : Int) := by simp [ni, hp]
        rw [hni] at c1
        clear hp hni
        go_wp2_with fail
        go_loopw [21] (fun kk wr => ∃ k : Nat, k ≤ n ∧ kk = .int .i64 k ∧ Scan w w2.heap.size n (i + L.size) Ln Z wr) (fun kk _ => n - (intOf kk).toNat)
        case atStart => exact ⟨0, Nat.zero_le _, rfl, ⟨c0, by simpa using c1, c2, c3, hr3, hb3⟩⟩
        case round =>
          obtain ⟨k, hk, rfl, S⟩ := hrel
          clear c0 c1 c2 c3 hr3 hb3
          by_cases hlt : k < n
          · obtain ⟨b, off, rfl, hbw, hBc⟩ := HB.out (by omega)
            have hb1 := S.c0
            have hrow := S.row k hlt
            have hbc : wr.cell? ⟨b, off + k, none⟩ = some (.int .u8 (Z.getD k 0)) := (S.below.cell (p := ⟨b, off + k, none⟩) hbw).trans (hBc k hlt)
            clear hBc HB
            go_wp2
            go_quiet (fail)
            go_wp2
            go_roundw
            case rel => exact ⟨k + 1, by omega, by go_num, S.drewN _⟩
            case measure => simp [intOf]; omega
          · go_wp2
            go_ret
            exact ⟨rfl, S.below⟩
end Go.Proofs.Ybulkdeoo
