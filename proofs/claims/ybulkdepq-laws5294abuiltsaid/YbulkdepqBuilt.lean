import Derived.Test.YbulkdepqSym
import Derived.Laws.CopyOwn
import Derived.Laws.BytesArg
import Derived.Maps.AppendAt
import Derived.Deep.CutBlock
import Derived.Deep.DeepCutAuto
set_option linter.unusedVariables false
namespace Go.Proofs.Ybulkdepq
open Go.RowKit

theorem info5 : (Yba.prog.info? 5).map (fun i => (i.zero, i.size, i.bytes)) = some (some (.int .u8 0), 1, 1) := by kernel_rfl
theorem size5 : (Yba.prog.info? 5).map (·.size) = some 1 := by kernel_rfl

/-- a row of bytes of which each may stand at its place in a name -/
def Good (bs : List Int) : Prop := ∀ j, j < bs.length → 0 ≤ bs.getD j 0 ∧ bs.getD j 0 ≤ 255 ∧ okB j (bs.getD j 0).toNat = true

/-- the buffer b in memory: a row of the call's own that holds bs, with room for n + 1 -/
structure Buf (w : World) (n : Nat) (bs : List Int) (wr : World) : Prop where
  good : Good bs
  own : wr.ownsRow w.heap.size 5 1 (.slice (some ⟨w.heap.size, 0, none⟩) bs.length (n + 1)) bs.length (bs.map (Value.int .u8))
  below : Below w.heap.size w wr
theorem Buf.start {w w1 w2 : World} {n : Nat} {o : Obj} (hg1 : w.grownBy w1 none) (hg2 : (w1.alloc o).grownBy w2 (some w.heap.size))
    (h : w2.ownsRow w.heap.size 5 1 (.slice (some ⟨w.heap.size, 0, none⟩) (0 + 1) (n + 1)) (0 + 1) ([] ++ [.int .u8 97])) : Buf w n [97] w2 := by
  refine ⟨?_, by simpa using h, ?_⟩
  · intro j hj
    obtain rfl : j = 0 := by simpa using hj
    decide
  · have h1 : Below w.heap.size w w1 := (Below.refl _ _).grown hg1 (Nat.le_refl _) (fun k h => by cases h)
    exact (h1.alloc h1.size o).grown hg2 (by have := h1.size; simp; omega) (fun k h => by cases h; exact Nat.le_refl _)

theorem Buf.cell0 {w wr : World} {n : Nat} {bs : List Int} (h : Buf w n bs wr) (hl : 1 ≤ bs.length) : ∃ y, wr.cell? ⟨w.heap.size, 0, none⟩ = some (.int .u8 y) :=
  ⟨bs[0]'(by omega), by rw [h.own.cellAt 0 (by omega)]; simp⟩

theorem first_ok : ∀ t, (h : t < (⟨#[97, 98, 99, 122, 65, 77, 90, 95, 46, 36]⟩ : ByteArray).size) → okB 0 ((⟨#[97, 98, 99, 122, 65, 77, 90, 95, 46, 36]⟩ : ByteArray)[t]'h).toNat = true := by decide +kernel
theorem rest_ok (k : Nat) (hk : 0 < k) (t : Nat) (h : t < (⟨#[97, 98, 99, 122, 65, 77, 90, 95, 46, 36, 48, 49, 53, 57]⟩ : ByteArray).size) : okB k ((⟨#[97, 98, 99, 122, 65, 77, 90, 95, 46, 36, 48, 49, 53, 57]⟩ : ByteArray)[t]'h).toNat = true := by
  have e : ∀ t, (h : t < (⟨#[97, 98, 99, 122, 65, 77, 90, 95, 46, 36, 48, 49, 53, 57]⟩ : ByteArray).size) → okB 1 ((⟨#[97, 98, 99, 122, 65, 77, 90, 95, 46, 36, 48, 49, 53, 57]⟩ : ByteArray)[t]'h).toNat = true := by decide +kernel
  have := e t h
  unfold okB at this ⊢
  simp only [decide_eq_true_eq] at this ⊢
  omega
theorem bad_no (k : Nat) (t : Nat) (h : t < (⟨#[45, 42, 63, 123, 125, 59, 32, 58, 64, 47, 0, 128, 255, 91, 93]⟩ : ByteArray).size) : okB k ((⟨#[45, 42, 63, 123, 125, 59, 32, 58, 64, 47, 0, 128, 255, 91, 93]⟩ : ByteArray)[t]'h).toNat = false := by
  have e : ∀ t, (h : t < (⟨#[45, 42, 63, 123, 125, 59, 32, 58, 64, 47, 0, 128, 255, 91, 93]⟩ : ByteArray).size) → okB 1 ((⟨#[45, 42, 63, 123, 125, 59, 32, 58, 64, 47, 0, 128, 255, 91, 93]⟩ : ByteArray)[t]'h).toNat = false := by decide +kernel
  have := e t h
  unfold okB at this ⊢
  simp only [decide_eq_false_iff_not] at this ⊢
  omega
theorem byte_bd (u : UInt8) : 0 ≤ (u.toNat : Int) ∧ (u.toNat : Int) ≤ 255 := by have := u.toNat_lt; omega
theorem Buf.set0 {w wr : World} {n : Nat} {bs : List Int} (h : Buf w n bs wr) (u : UInt8) (ho : okB 0 u.toNat = true) : Buf w n (bs.set 0 u.toNat) (wr.setCell ⟨w.heap.size, 0, none⟩ (.int .u8 u.toNat)) := by
  refine ⟨?_, ?_, h.below.setCell (Nat.le_refl _) _⟩
  · intro j hj
    rw [List.length_set] at hj
    by_cases hj0 : j = 0
    · subst hj0
      have e : (bs.set 0 (u.toNat : Int)).getD 0 0 = (u.toNat : Int) := by simp [List.getD_eq_getElem?_getD, hj]
      rw [e]
      exact ⟨(byte_bd u).1, (byte_bd u).2, by simpa using ho⟩
    · have e : (bs.set 0 (u.toNat : Int)).getD j 0 = bs.getD j 0 := by
        simp only [List.getD_eq_getElem?_getD]; rw [List.getElem?_set_ne (by omega)]
      rw [e]
      exact h.good j hj
  · have := (h.own.stored 0 (.int .u8 u.toNat)).1
    simpa [List.map_set] using this
theorem Buf.push {w wr w3 : World} {n : Nat} {bs : List Int} {o : Obj} (h : Buf w n bs wr) (u : UInt8) (ho : okB bs.length u.toNat = true)
    (hown : w3.ownsRow w.heap.size 5 1 (.slice (some ⟨w.heap.size, 0, none⟩) (bs.length + 1) (n + 1)) (bs.length + 1) (bs.map (Value.int .u8) ++ [.int .u8 u.toNat])) (hg : (wr.alloc o).grownBy w3 (some w.heap.size)) :
    Buf w n (bs ++ [(u.toNat : Int)]) w3 := by
  refine ⟨?_, by simpa using hown, ?_⟩
  · intro j hj
    rw [List.length_append, List.length_singleton] at hj
    by_cases hjl : j < bs.length
    · have e : (bs ++ [(u.toNat : Int)]).getD j 0 = bs.getD j 0 := by
        simp only [List.getD_eq_getElem?_getD]; rw [List.getElem?_append_left hjl]
      rw [e]
      exact h.good j hjl
    · obtain rfl : j = bs.length := by omega
      have e : (bs ++ [(u.toNat : Int)]).getD bs.length 0 = (u.toNat : Int) := by simp [List.getD_eq_getElem?_getD]
      rw [e]
      exact ⟨(byte_bd u).1, (byte_bd u).2, by simpa using ho⟩
  · exact (h.below.alloc h.below.size o).grown hg (by have := h.below.size; simp; omega) (fun k h => by cases h; exact Nat.le_refl _)

theorem str_at (bs : List Int) (j : Nat) (h : j < (strOfNums bs).size) (h0 : 0 ≤ bs.getD j 0) (h1 : bs.getD j 0 ≤ 255) : ((strOfNums bs)[j]'h).toNat = (bs.getD j 0).toNat := by
  have hl : j < bs.length := by rw [strOfNums_size] at h; exact h
  have e : (strOfNums bs)[j]'h = UInt8.ofNat (bs[j]'hl).toNat := by
    show ((strOfNums bs).data[j]'h) = _
    simp [strOfNums]
  have e2 : bs.getD j 0 = bs[j]'hl := by rw [List.getD_eq_getElem?_getD, List.getElem?_eq_getElem hl]; rfl
  rw [e, e2]
  rw [e2] at h0 h1
  simp
  omega
theorem sym_good {bs : List Int} (h : Good bs) (hl : 1 ≤ bs.length) : symB (strOfNums bs) = true := by
  refine decide_eq_true ⟨by rw [strOfNums_size]; omega, fun j hj => ?_⟩
  have hjl : j < bs.length := by rw [strOfNums_size] at hj; exact hj
  obtain ⟨g0, g1, g2⟩ := h j hjl
  rw [str_at bs j hj g0 g1]
  exact g2
theorem sym_bad {bs : List Int} {p : Nat} (v : Int) (hp : p < bs.length) (h0 : 0 ≤ v) (h1 : v ≤ 255) (hb : okB p v.toNat = false) : symB (strOfNums (bs.set p v)) = false := by
  have hj : p < (strOfNums (bs.set p v)).size := by rw [strOfNums_size]; simpa using hp
  have e : (bs.set p v).getD p 0 = v := by simp [List.getD_eq_getElem?_getD, hp]
  refine sym_no hj ?_
  rw [str_at (bs.set p v) p hj (by rw [e]; exact h0) (by rw [e]; exact h1), e]
  exact hb
theorem sym_empty : symB ⟨#[]⟩ = false := by decide +kernel

/-- an owned full row's block -/
theorem own_heap {w : World} {base : Nat} {e : TypeId} {g n : Nat} {xs : List Value} (h : w.ownsRow base e 1 (.slice (some ⟨g, 0, none⟩) n n) n xs) :
    w.heap[g]? = some (.cells xs.toArray e (0, 0)) ∧ xs.length = n := by
  obtain ⟨hl, ⟨hv, _⟩ | ⟨g', cap, cur, hv, _, hh, _, _, hs, ht⟩⟩ := h
  · simp at hv
  · simp at hv
    obtain ⟨rfl, rfl⟩ := hv
    have e : xs = cur.toList := by rw [← ht]; exact List.take_of_length_le (by simp [hs])
    subst e
    exact ⟨by simpa using hh, by simpa using hs⟩
theorem splice_all {α : Type} (L cs : List α) (h : cs.length = L.length) : splice L 0 cs = cs := by
  simp [splice, h]
theorem fitL {Z : List Int} {xs : List Value} {n : Nat} (hZ : Z.length = n) (hx : xs.length = n) : 0 + (Z.map (Value.int .u8)).length ≤ xs.length := by simp [hZ, hx]
theorem belowL {w w1 : World} (hg : w.grownBy w1 none) : Below w.heap.size w w1 := (Below.refl _ _).grown hg (Nat.le_refl _) (fun k h => by cases h)
theorem cslL (bs : List Int) : (bs.map (Value.int .u8)).length = Nat.min bs.length bs.length := by rw [List.length_map]; exact (Nat.min_self _).symm

/-- the bytes of b, wherever nothing below the block number G has turned -/
theorem Buf.src {w W0 wx w1 : World} {n : Nat} {bs : List Int} (B : Buf w n bs W0) (hx : Below W0.heap.size W0 wx) (hg : wx.grownBy w1 none) :
    ∃ ad, some (⟨w.heap.size, 0, none⟩ : Addr) = some ad ∧ ∀ j v, (bs.map (Value.int .u8))[j]? = some v → w1.cell? (ad.add j) = some v := by
  refine ⟨_, rfl, fun j v hj => ?_⟩
  have hjl : j < bs.length := by
    rcases Nat.lt_or_ge j bs.length with h | h
    · exact h
    · rw [List.getElem?_eq_none (by simpa using h)] at hj; cases hj
  have hplain : (⟨w.heap.size, 0, none⟩ : Addr).add j = ⟨w.heap.size, j, none⟩ := by unfold Addr.add; split <;> simp_all
  rw [hplain]
  have hc : W0.cell? ⟨w.heap.size, j, none⟩ = some v := by rw [B.own.cellAt j (by omega)]; exact hj
  have hlt := World.block_lt_of_cell? W0 ⟨w.heap.size, j, none⟩ hc
  exact hg.cell ((hx.cell (p := ⟨w.heap.size, j, none⟩) hlt).trans hc) (by simp)
theorem Buf.conv {w W0 : World} {n : Nat} {bs : List Int} (B : Buf w n bs W0) : (convert 23 9 (.slice (some ⟨w.heap.size, 0, none⟩) bs.length (n + 1))).run Yba.prog W0 = .ok (.string (strOfNums bs)) W0 := by
  refine run_convert_bytes_arg W0 23 5 Yba.underlying23 Yba.underlying5 w.heap.size 0 bs.length (n + 1) bs rfl (fun j hj => ?_) 9 Yba.underlying9
  rw [Nat.zero_add, B.own.cellAt j (by omega)]
  simp [List.getD_eq_getElem?_getD, hj]

/-- a copy of the row, one byte of it turned: what the walk asks -/
theorem copied {w2 : World} {g : Nat} {L : List Value} {bs : List Int} (h : Hid (w2.heap[g]? = some (.cells (splice L 0 (bs.map (Value.int .u8))).toArray 5 (0, 0)))) (hL : L.length = bs.length) (p : Nat) (hp : p < bs.length) :
    (∃ y, w2.cell? ⟨g, p, none⟩ = some (.int .u8 y)) ∧ w2.frozen? ⟨g, p, none⟩ = false ∧
    (∀ v, (convert 23 9 (.slice (some ⟨g, 0, none⟩) bs.length bs.length)).run Yba.prog (w2.setCell ⟨g, p, none⟩ (.int .u8 v)) = .ok (.string (strOfNums (bs.set p v))) (w2.setCell ⟨g, p, none⟩ (.int .u8 v))) ∧ g < w2.heap.size := by
  have hh := h.out
  rw [splice_all L _ (by simp [hL])] at hh
  have hcell : ∀ j, j < bs.length → w2.cell? ⟨g, j, none⟩ = some (.int .u8 (bs.getD j 0)) := fun j hj => by
    simp [World.cell?, hh, List.getElem?_eq_getElem hj]
  refine ⟨⟨_, hcell p hp⟩, by simp [World.frozen?, hh], fun v => ?_, ?_⟩
  · refine run_convert_bytes_arg _ 23 5 Yba.underlying23 Yba.underlying5 g 0 bs.length bs.length (bs.set p v) (by simp) (fun j hj => ?_) 9 Yba.underlying9
    rw [Nat.zero_add]
    by_cases hjp : j = p
    · subst hjp
      rw [World.cell?_setCell_same _ _ _ (hcell j hj)]
      simp [List.getD_eq_getElem?_getD, hj]
    · rw [World.cell?_setCell_other _ _ _ _ (by intro h; injection h with _ h2 _; omega), hcell j hj]
      simp only [List.getD_eq_getElem?_getD]; rw [List.getElem?_set_ne (by omega)]
  · rcases Nat.lt_or_ge g w2.heap.size with hlt | hge
    · exact hlt
    · rw [Array.getElem?_eq_none hge] at hh; cases hh

set_option maxRecDepth 4000 in
set_option maxHeartbeats 800000 in
theorem core (a0 : Option Addr) (n cap0 : Nat) (Z : List Int) (ps bad : Int) (w : World)
    (hn : n ≤ 1024) (hZ : Z.length = n) (hps : 0 ≤ ps ∧ ps ≤ 255) (hbad : 0 ≤ bad ∧ bad ≤ 255) (hz : ∀ j, 0 ≤ Z.getD j 0 ∧ Z.getD j 0 ≤ 255)
    (hB : 0 < n → ∃ b off, a0 = some ⟨b, off, none⟩ ∧ b < w.heap.size ∧ ∀ j, j < n → w.cell? ⟨b, off + j, none⟩ = some (.int .u8 (Z.getD j 0))) :
    Calls Yba.prog 4 #[.slice a0 n cap0, .int .u8 ps, .int .u8 bad] w fun e w' => e = .returned (.bool true) ∧ Below w.heap.size w w' := by
  obtain ⟨i0, hi0, hz0, hz1, hz2⟩ := info_parts info5
  have HZ : Hid (∀ j, 0 ≤ Z.getD j 0 ∧ Z.getD j 0 ≤ 255) := hz
  have HB : Hid (0 < n → ∃ b off, a0 = some ⟨b, off, none⟩ ∧ b < w.heap.size ∧ ∀ j, j < n → w.cell? ⟨b, off + j, none⟩ = some (.int .u8 (Z.getD j 0))) := hB
  clear hB hz
  obtain ⟨hp0, hp1⟩ := hps
  obtain ⟨hb0, hb1⟩ := hbad
  go_enter Yba.func4, Yba.ntmps4
  go_upto_block 0 with (first
    | (at_make; refine wpList_make_own _ rfl _ _ 23 rfl w.heap.size 5 i0 (.int .u8 0) 1 Yba.underlying23 hi0 hz0 hz1 .i64 .i64 _ (n + 1) rfl rfl (by omega) (by rw [hz2]; omega) (by unfold maxLen; omega) (Nat.le_refl _) ?_; intro w1 hown1 hgrow1)
    | (at_builtin; refine wpList_append_fits _ rfl (.tmp 19) (.tmp 21) 23 rfl w.heap.size 5 i0 1 Yba.underlying23 hi0 hz1 w.heap.size 0 (n + 1) _ rfl (hown1.alloc _) ⟨w1.heap.size, 0, none⟩ 1 1 [.int .u8 97] rfl rfl (cell_one_new _ _ _) (ints_oneCell .u8 [97]) (by omega) ?_; intro w2 hown2 hgrow2))
  go_cut [7, 8, 20] (fun v _ _ wx => ∃ bs : List Int, 1 ≤ bs.length ∧ bs.length ≤ 1025 ∧ v = .slice (some ⟨w.heap.size, 0, none⟩) bs.length (n + 1) ∧ Buf w n bs wx)
  case first =>
    have B2 := Buf.start hgrow1 hgrow2 hown2
    clear hown1 hown2 hgrow1 hgrow2
    go_wp2_with fail
    go_loopw [7, 8] (fun v kk wr => ∃ (k : Nat) (bs : List Int), k ≤ n ∧ kk = .int .i64 k ∧ v = .slice (some ⟨w.heap.size, 0, none⟩) bs.length (n + 1) ∧ bs.length = (if k = 0 then 1 else k) ∧ Buf w n bs wr) (fun _ kk _ => n - (intOf kk).toNat)
    case atStart => exact ⟨0, [97], Nat.zero_le _, rfl, rfl, rfl, B2⟩
    case round =>
      obtain ⟨k, bs, hk, rfl, rfl, hlen, B⟩ := hrel
      by_cases hlt : k < n
      · obtain ⟨b, off, rfl, hbw, hBc⟩ := HB.out (by omega)
        obtain ⟨z, zb0, zb1, hcell⟩ : ∃ z : Int, 0 ≤ z ∧ z ≤ 255 ∧ wr.cell? ⟨b, off + k, none⟩ = some (.int .u8 z) :=
          ⟨Z.getD k 0, (HZ.out k).1, (HZ.out k).2, (B.below.cell (p := ⟨b, off + k, none⟩) hbw).trans (hBc k hlt)⟩
        clear hBc HB
        by_cases hk0 : k = 0
        · subst hk0
          rw [if_pos rfl] at hlen
          have hcell' : wr.cell? ⟨b, off, none⟩ = some (.int .u8 z) := hcell
          clear hcell
          obtain ⟨y, hc0⟩ := B.cell0 (by omega)
          have hf0 := B.own.frozenAt 0
          have HLEN : Hid (bs.length = 1) := hlen
          have hlen1 : bs.length ≤ 1 := by omega
          have hlen2 : 1 ≤ bs.length := by omega
          clear hlen
          go_wp2
          go_roundw
          case rel => exact ⟨1, bs.set 0 _, by omega, rfl, by simp, by simpa using HLEN.out, B.set0 _ (first_ok _ _)⟩
          case measure => simp [intOf]; omega
        · rw [if_neg hk0] at hlen
          have hkb : ((k : Int) == 0) = false := by simpa using hk0
          have HLEN : Hid (bs.length = k) := hlen
          have hlen1 : bs.length ≤ k := by omega
          have hlen2 : k ≤ bs.length := by omega
          clear hlen
          go_wp2_with (at_builtin; refine wpList_append_fits _ rfl (.tmp 39) (.tmp 47) 23 rfl w.heap.size 5 i0 1 Yba.underlying23 hi0 hz1 w.heap.size bs.length (n + 1) _ rfl (B.own.alloc _) ⟨wr.heap.size, 0, none⟩ 1 1 [.int .u8 _] rfl rfl (cell_one_new _ _ _) (ints_oneCell .u8 [_]) (by omega) ?_; intro w3 hown3 hgrow3)
          go_roundw
          case rel => exact ⟨k + 1, bs ++ [_], by omega, by go_num, by simp, by simp [HLEN.out], B.push _ (rest_ok _ (by omega) _ _) hown3 hgrow3⟩
          case measure => simp [intOf]; omega
      · go_wp2
        go_meet
        case rel => exact ⟨bs, by split at hlen <;> omega, by split at hlen <;> omega, rfl, B⟩
  case rest =>
    obtain ⟨bs, hl1, hl2, rfl, B⟩ := hcut
    rename World => W0
    clear hown1 hown2 hgrow1 hgrow2 HB HZ
    have hcv1 := B.conv
    have hs1 := sym_good B.good hl1
    have hgW : w.heap.size ≤ W0.heap.size := B.below.size
    have e1 : (convert 23 9 (.slice (some ⟨w.heap.size, 0, none⟩) bs.length (n + 1))).run Yba.prog W0 = .ok (.string (strOfNums bs)) W0 := hcv1
    have hd0 : symB (strOfNums (bs.set 0 (48 + bad % 10))) = false := sym_bad _ (by omega) (by omega) (by omega) (decide_eq_false (by omega))
    go_upto_if 68 with (first
      | (go_at_call 6; refine (symbolName_any _ _ (by rw [strOfNums_size]; unfold maxLen; simp; omega)).mono ?_; rintro e w' ⟨rfl, hw⟩; obtain rfl := hw.symm; first | rw [hs1] | rw [hd0])
      | (at_make; go_must (refine wpList_make_full _ rfl (.tmp 54) (.tmp 54) 23 rfl W0.heap.size 5 i0 (.int .u8 0) 1 Yba.underlying23 hi0 hz0 hz1 .i64 .i64 _ _ bs.length rfl rfl (by omega) (by omega) (by rw [hz2]; omega) (by unfold maxLen; omega) (Nat.le_refl _) ?_); intro w1 hown1 hgrow1)
      | (with_reducible refine wpList_copy_splice rfl (.tmp 56) (.tmp 57) 23 23 rfl 5 Yba.underlying23 size5 _ _ bs.length bs.length bs.length (n + 1) rfl rfl W0.heap.size 0 _ 5 (own_heap hown1).1 (bs.map (Value.int .u8)) (cslL bs) (fun h => ⟨rfl, B.src (Below.refl _ _) hgrow1⟩) (fitL rfl (own_heap hown1).2) (ints_oneCell _ _) W0.heap.size W0 (belowL hgrow1) (Nat.le_refl _) ?_; intro w2 HG2 hB2; obtain ⟨⟨y2, hy2⟩, hf2, hcv2, hz2s⟩ := copied HG2 (own_heap hown1).2 0 (by omega)))
    go_cut [68] (fun v wx => v = .bool false ∧ Below W0.heap.size W0 wx)
    case first =>
      go_wp2
      go_meet
      case rel => exact ⟨rfl, hB2.setCell (Nat.le_refl _) _⟩
    case rest =>
      obtain ⟨rfl, hB3⟩ := hcut
      rename World => W1
      clear hown1 hgrow1 hB2 hy2 hf2 hcv2 hz2s HG2 hd0 hcv1 e1 hs1
      obtain ⟨p, hp⟩ : ∃ p : Nat, ps % (bs.length : Int) = (p : Int) := ⟨(ps % (bs.length : Int)).toNat, by rw [Int.toNat_of_nonneg (Int.emod_nonneg _ (by omega))]⟩
      have hpl : p < bs.length := by have := Int.emod_lt_of_pos ps (show (0 : Int) < (bs.length : Int) by omega); omega
      obtain ⟨q, hq⟩ : ∃ q : Nat, bad % 15 = (q : Int) := ⟨(bad % 15).toNat, by rw [Int.toNat_of_nonneg (by omega)]⟩
      have hql : q < 15 := by omega
      have hd1 : symB (strOfNums (bs.set p (((⟨#[45, 42, 63, 123, 125, 59, 32, 58, 64, 47, 0, 128, 255, 91, 93]⟩ : ByteArray)[q]'(show q < 15 from hql)).toNat : Int))) = false := sym_bad _ hpl (byte_bd _).1 (byte_bd _).2 (by rw [Int.toNat_natCast]; exact bad_no p q hql)
      have hem := sym_empty
      have hW1 : W0.heap.size ≤ W1.heap.size := hB3.size
      go_wp2_with (first
        | (go_at_call 6; refine (symbolName_any _ _ (by first | (rw [strOfNums_size]; unfold maxLen; simp; omega) | decide)).mono ?_; rintro e w' ⟨rfl, hw⟩; obtain rfl := hw.symm; first | rw [hd1] | rw [hem])
        | (at_make; refine wpList_make_full _ rfl (.tmp 75) (.tmp 75) 23 rfl W1.heap.size 5 i0 (.int .u8 0) 1 Yba.underlying23 hi0 hz0 hz1 .i64 .i64 _ _ bs.length rfl rfl (by omega) (by omega) (by rw [hz2]; omega) (by unfold maxLen; omega) (Nat.le_refl _) ?_; intro w1 hown1 hgrow1)
        | (with_reducible refine wpList_copy_splice rfl (.tmp 77) (.tmp 78) 23 23 rfl 5 Yba.underlying23 size5 _ _ bs.length bs.length bs.length (n + 1) rfl rfl W1.heap.size 0 _ 5 (own_heap hown1).1 (bs.map (Value.int .u8)) (cslL bs) (fun h => ⟨rfl, B.src hB3 hgrow1⟩) (fitL rfl (own_heap hown1).2) (ints_oneCell _ _) W1.heap.size W1 (belowL hgrow1) (Nat.le_refl _) ?_; intro w2 HG2 hB2; obtain ⟨⟨y2, hy2⟩, hf2, hcv2, hz2s⟩ := copied HG2 (own_heap hown1).2 p hpl))
      go_ret
      exact ⟨rfl, Below.setCell (p := ⟨W1.heap.size, p, none⟩) (B.below.trans ((hB3.mono hgW).trans (hB2.mono (Nat.le_trans hgW hW1)))) (Nat.le_trans hgW hW1) _⟩
end Go.Proofs.Ybulkdepq
