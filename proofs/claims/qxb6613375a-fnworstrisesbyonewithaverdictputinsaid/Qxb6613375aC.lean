import Derived.Test.Qxb6613375aB
namespace Go.Proofs.Qxb6613375a
open Go.ChangeShapes Go.WideShapes Go.ChangeAt Go.RowKit

/-- What stands while 'ins' is filled: it owns k elements of its row 'gi', with room for len + 1; the copy of 'names' lies in row 'gz'; below w nothing has turned. -/
def Ins (w wr : World) (gz gi len k : Nat) (cur : List Value) : Prop :=
  (∃ xs, wr.ownsRow gi 9 1 (.slice (some ⟨gi, 0, none⟩) k (len + 1)) k xs) ∧ wr.heap[gz]? = some (.cells cur.toArray 9 (0, 0)) ∧ Below w.heap.size w wr ∧ gi < wr.heap.size

theorem Ins.step {w wr w1 : World} {gz gi len k : Nat} {cur : List Value} {o : Obj} {xs : List Value} (h : Ins w wr gz gi len k cur) (hne : gz ≠ gi) (hw : w.heap.size ≤ gi)
    (hown : w1.ownsRow gi 9 1 (.slice (some ⟨gi, 0, none⟩) (k + 1) (len + 1)) (k + 1) xs) (hgrow : (wr.alloc o).grownBy w1 (some gi)) : Ins w w1 gz gi len (k + 1) cur := by
  obtain ⟨_, hz, hb, hg⟩ := h
  have hzlt : gz < wr.heap.size := (Array.getElem?_eq_some_iff.1 hz).1
  refine ⟨⟨xs, hown⟩, ?_, ?_, ?_⟩
  · rw [hgrow.block gz (by simp; omega) (by simpa using hne), Below.heap_alloc _ _ _ hzlt]
    exact hz
  · exact (hb.alloc hb.size o).grown hgrow (Nat.le_trans hb.size (by simp)) (fun k hk => by cases hk; exact hw)
  · have := hgrow.size
    simp at this
    omega

theorem Ins.cell {w wr : World} {gz gi len k : Nat} {cur : List Value} (h : Ins w wr gz gi len k cur) (hs : ∀ j, j < len → ∃ s, cur[j]? = some (.string s)) (j : Nat) (hj : j < len) : ∃ s, wr.cell? ⟨gz, j, none⟩ = some (.string s) := by
  obtain ⟨s, hs⟩ := hs j hj
  exact ⟨s, by rw [cell_of_row wr gz j _ 9 (0, 0) h.2.1]; simpa using hs⟩

theorem splice_all {α : Type} (L cs : List α) (h : cs.length = L.length) : splice L 0 cs = cs := by
  simp [splice, h]

/-- The strings of a slice, as cells. -/
def strCells (len : Nat) (ss : List ByteArray) : List Value := (List.range len).map fun j => .string (ss.getD j ByteArray.empty)
theorem strCells_length (len : Nat) (ss : List ByteArray) : (strCells len ss).length = len := by simp [strCells]
theorem strCells_at (len : Nat) (ss : List ByteArray) (j : Nat) (hj : j < len) : (strCells len ss)[j]? = some (.string (ss.getD j ByteArray.empty)) := by
  simp [strCells, hj]
theorem strCells_one (len : Nat) (ss : List ByteArray) : ∀ v ∈ strCells len ss, v.oneCell' = true := by
  intro v hv
  obtain ⟨j, _, rfl⟩ := List.mem_map.1 hv
  rfl
theorem strCells_src {w w1 : World} {x0 : Addr} {len : Nat} {ss : List ByteArray} (h : Strs w (some x0) len ss) (hb : Below w.heap.size w w1) :
    0 < (strCells len ss).length → ∃ ad, some x0 = some ad ∧ ∀ j v, (strCells len ss)[j]? = some v → w1.cell? (ad.add j) = some v := by
  intro _
  refine ⟨x0, rfl, fun j v hv => ?_⟩
  have hj : j < len := by have := (List.getElem?_eq_some_iff.1 hv).1; rwa [strCells_length] at this
  obtain ⟨b, off, e, hc⟩ := h j hj
  cases e
  rw [strCells_at len ss j hj] at hv
  cases hv
  rw [Addr.add_lit, hb.cell (p := ⟨b, off + j, none⟩) (block_lt_of_cell hc)]
  exact hc

set_option maxHeartbeats 2000000 in
theorem f5_some (x0 : Addr) (len cap iN : Nat) (x : ByteArray) (ss : List ByteArray) (w : World) (hs : Strs w (some x0) len ss) (hle : iN ≤ len) :
    Calls Try.prog 5 #[.slice (some x0) len cap, .int .i64 iN, .string x] w fun e w' => e = .returned (.bool true) ∧ Below w.heap.size w w' := by
  have HS : Hid (Strs w (some x0) len ss) := hs
  clear hs
  have hnn := fun w => run_neq_slice_nil_any (P := Try.prog) w 25 9 (some x0) len cap 0 0 Try.underlying25
  go_enter Try.func5, Try.ntmps5
  go_wp2_with fail
  refine (f7_any (some x0) len cap iN x ss w HS.out).mono ?_
  rintro e w' ⟨q, rfl, rfl, hq⟩
  cases q
  · go_wp2
    go_ret
    exact ⟨rfl, Below.refl _ _⟩
  have hl : len ≤ 1048576 := hq rfl
  clear hq
  go_wp2_with fail
  · go_ret
    exact ⟨rfl, Below.refl _ _⟩
  refine (f8_any (some x0) len cap _ ss w' hl HS.out).mono ?_
  rintro e w0 ⟨⟨q, rfl⟩, rfl⟩
  cases q
  rotate_left
  · go_wp2
    go_ret
    exact ⟨rfl, Below.refl _ _⟩
  obtain ⟨i0, hi, hz0, hz1, hz2⟩ := info_parts info9
  have HI : Hid _ := hi
  have HZ0 : Hid _ := hz0
  have HZ1 : Hid _ := hz1
  have HZ2 : Hid _ := hz2
  clear hi hz0 hz1 hz2
  go_wp2_with (at_make; refine wpList_make_full _ rfl _ _ 25 rfl w0.heap.size 9 i0 _ 1 Try.underlying25 HI.out HZ0.out HZ1.out .i64 .i64 len len len rfl rfl rfl rfl (by rw [HZ2.out]; omega) (by unfold maxLen; omega) (Nat.le_refl _) ?_)
  intro w1 hown hgrow
  obtain ⟨cur, hcur, hcl⟩ : ∃ cur : List Value, w1.heap[w0.heap.size]? = some (.cells cur.toArray 9 (0, 0)) ∧ cur.length = len := by
    rcases hown.2 with ⟨h, _⟩ | ⟨g, cap', cur, e, _, hg, _, _, hsz, _⟩
    · cases h
    · cases e
      exact ⟨cur.toList, by simpa using hg, by simpa using hsz⟩
  have HB1 : Hid (Below w0.heap.size w0 w1) := (Below.refl _ _).grown hgrow (Nat.le_refl _) (fun k hk => by cases hk)
  have HG1 : Hid (w1.heap[w0.heap.size]? = some (.cells cur.toArray 9 (0, 0))) := hcur
  have HL : Hid (cur.length = len) := hcl
  clear hown hgrow hcur hcl
  go_wp2_with (refine wpList_copy_splice rfl _ _ 25 25 rfl 9 Try.underlying25 size9 (some ⟨w0.heap.size, 0, none⟩) (some x0) len len len cap rfl rfl w0.heap.size 0 cur 9 HG1.out (strCells len ss) (by rw [strCells_length]; exact (Nat.min_self len).symm) (fun h => ⟨rfl, strCells_src HS.out HB1.out h⟩) (by rw [strCells_length, HL.out]; omega) (strCells_one len ss) w0.heap.size w0 HB1.out (Nat.le_refl _) ?_)
  intro w2 HG2 hb2
  have HB2 : Hid (Below w0.heap.size w0 w2) := hb2
  have HG2 : Hid (w2.heap[w0.heap.size]? = some (.cells (strCells len ss).toArray 9 (0, 0))) := by
    have := HG2.out
    rwa [splice_all _ _ (by rw [strCells_length, HL.out])] at this
  have hs2 : w0.heap.size < w2.heap.size := (Array.getElem?_eq_some_iff.1 HG2.out).1
  clear hb2 HB1 HG1 HL HS hnn
  go_wp2_with (at_make; refine wpList_make_own _ rfl _ _ 25 rfl w2.heap.size 9 i0 _ 1 Try.underlying25 HI.out HZ0.out HZ1.out .i64 .i64 _ (len + 1) rfl rfl (by omega) (by rw [HZ2.out]; omega) (by unfold maxLen; omega) (Nat.le_refl _) ?_)
  intro w3 hown hgrow
  have H3 : Hid (Ins w0 w3 w0.heap.size w2.heap.size len 0 (strCells len ss)) := ⟨⟨_, hown⟩, (hgrow.block _ hs2 (by simp)).trans HG2.out, HB2.out.grown hgrow (by omega) (fun k hk => by cases hk), (hown.lt _ rfl).2⟩
  clear hown hgrow HB2 HG2
  have HC : Hid (∀ j, j < len → ∃ s, (strCells len ss)[j]? = some (.string s)) := fun j hj => ⟨_, strCells_at len ss j hj⟩
  generalize w2.heap.size = gi at *
  go_wp2_with fail
  go_loopw [8, 9] (fun v j wr => ∃ k : Nat, k ≤ iN ∧ j = .int .i64 k ∧ v = .slice (some ⟨gi, 0, none⟩) k (len + 1) ∧ Hid (Ins w0 wr w0.heap.size gi len k (strCells len ss))) (fun _ j _ => iN - (intOf j).toNat)
  case atStart => exact ⟨0, Nat.zero_le _, rfl, rfl, H3⟩
  case round =>
    obtain ⟨k, hk, rfl, rfl, HR⟩ := hrel
    by_cases hlt : k < iN
    · obtain ⟨s, hs⟩ := HR.out.cell HC.out k (by omega)
      have hkl : k < len := by omega
      obtain ⟨xs, hown⟩ := HR.out.1
      have HW : Hid (wr.ownsRow gi 9 1 (.slice (some ⟨gi, 0, none⟩) k (len + 1)) k xs) := hown
      clear hown
      go_wp2_with (at_builtin; refine wpList_append_fits _ rfl _ _ 25 rfl gi 9 i0 1 Try.underlying25 HI.out HZ1.out gi k (len + 1) xs rfl (World.ownsRow.alloc HW.out _) ⟨wr.heap.size, 0, none⟩ 1 1 [.string s] rfl rfl (cell_one_new _ _ _) (str_one s) (by omega) ?_)
      intro w4 hown hgrow
      have H4 : Hid (Ins w0 w4 w0.heap.size gi len (k + 1) (strCells len ss)) := HR.out.step (by omega) (by omega) hown hgrow
      clear hown hgrow HW HR hs
      go_wp2
      go_roundw
      case rel => exact ⟨k + 1, by omega, by go_num, rfl, H4⟩
      case measure => simp [intOf]; omega
    · have hke : k = iN := by omega
      subst hke
      obtain ⟨xs, hown⟩ := HR.out.1
      have HW : Hid (wr.ownsRow gi 9 1 (.slice (some ⟨gi, 0, none⟩) k (len + 1)) k xs) := hown
      clear hown
      go_wp2_with (at_builtin; refine wpList_append_fits _ rfl _ _ 25 rfl gi 9 i0 1 Try.underlying25 HI.out HZ1.out gi k (len + 1) xs rfl (World.ownsRow.alloc HW.out _) ⟨wr.heap.size, 0, none⟩ 1 1 [.string x] rfl rfl (cell_one_new _ _ _) (str_one x) (by omega) ?_)
      intro w4 hown hgrow
      have H4 : Hid (Ins w0 w4 w0.heap.size gi len (k + 1) (strCells len ss)) := HR.out.step (by omega) (by omega) hown hgrow
      clear hown hgrow HW HR
      go_wp2_with fail
      go_loopw [8, 10] (fun v j wr => ∃ q : Nat, k ≤ q ∧ q ≤ len ∧ j = .int .i64 q ∧ v = .slice (some ⟨gi, 0, none⟩) (q + 1) (len + 1) ∧ Hid (Ins w0 wr w0.heap.size gi len (q + 1) (strCells len ss))) (fun _ j _ => len - (intOf j).toNat)
      case atStart => exact ⟨k, Nat.le_refl _, hle, rfl, rfl, H4⟩
      case round =>
        obtain ⟨q, hkq, hq, rfl, rfl, HR⟩ := hrel
        by_cases hlt : q < len
        · obtain ⟨s, hs⟩ := HR.out.cell HC.out q (by omega)
          obtain ⟨xs, hown⟩ := HR.out.1
          have HW : Hid (wr.ownsRow gi 9 1 (.slice (some ⟨gi, 0, none⟩) (q + 1) (len + 1)) (q + 1) xs) := hown
          clear hown
          go_wp2_with (at_builtin; refine wpList_append_fits _ rfl _ _ 25 rfl gi 9 i0 1 Try.underlying25 HI.out HZ1.out gi (q + 1) (len + 1) xs rfl (World.ownsRow.alloc HW.out _) ⟨wr.heap.size, 0, none⟩ 1 1 [.string s] rfl rfl (cell_one_new _ _ _) (str_one s) (by omega) ?_)
          intro w5 hown hgrow
          have H5 : Hid (Ins w0 w5 w0.heap.size gi len (q + 1 + 1) (strCells len ss)) := HR.out.step (by omega) (by omega) hown hgrow
          clear hown hgrow HW HR hs
          go_wp2
          go_roundw
          case rel => exact ⟨q + 1, by omega, by omega, by go_num, rfl, H5⟩
          case measure => simp [intOf]; omega
        · have hqe : q = len := by omega
          subst hqe
          have HB5 : Hid (Below w0.heap.size w0 wr) := HR.out.2.2.1
          clear HR
          go_wp2_with fail
          refine (f9_any _ _ _ _).mono ?_
          rintro e w6 ⟨rfl, hb⟩
          have HB6 : Hid (Below w0.heap.size w0 w6) := HB5.out.trans (hb.mono HB5.out.size)
          clear hb HB5
          go_wp2_with fail
          refine (f10_any _ _ _ _ (by omega)).mono ?_
          rintro e w7 ⟨rfl, hb⟩
          have HB7 : Hid (Below w0.heap.size w0 w7) := HB6.out.trans (hb.mono HB6.out.size)
          clear hb HB6
          go_wp2_with fail
          refine (f9_any _ _ _ _).mono ?_
          rintro e w8 ⟨rfl, hb⟩
          have HB8 : Hid (Below w0.heap.size w0 w8) := HB7.out.trans (hb.mono HB7.out.size)
          clear hb HB7
          go_wp2_with fail
          refine (f10_any _ _ _ _ (by omega)).mono ?_
          rintro e w9 ⟨rfl, hb⟩
          have HB9 : Hid (Below w0.heap.size w0 w9) := HB8.out.trans (hb.mono HB8.out.size)
          clear hb HB8
          go_wp2_with fail
          all_goals go_ret
          all_goals exact ⟨rfl, HB9.out⟩

set_option maxHeartbeats 1000000 in
theorem f5_out (x0 : Addr) (len cap : Nat) (i : Int) (x : ByteArray) (ss : List ByteArray) (w : World) (hs : Strs w (some x0) len ss) (ho : i < 0 ∨ (len : Int) < i) :
    Calls Try.prog 5 #[.slice (some x0) len cap, .int .i64 i, .string x] w fun e w' => e = .returned (.bool true) ∧ Below w.heap.size w w' := by
  have HS : Hid (Strs w (some x0) len ss) := hs
  clear hs
  go_enter Try.func5, Try.ntmps5
  go_wp2_with fail
  refine (f7_any (some x0) len cap i x ss w HS.out).mono ?_
  rintro e w' ⟨q, rfl, rfl, hq⟩
  cases q
  · go_wp2
    go_ret
    exact ⟨rfl, Below.refl _ _⟩
  have hl : len ≤ 1048576 := hq rfl
  clear hq
  go_wp2_with fail
  · go_ret
    exact ⟨rfl, Below.refl _ _⟩
  refine (f8_any (some x0) len cap _ ss w' hl HS.out).mono ?_
  rintro e w0 ⟨⟨q, rfl⟩, rfl⟩
  clear HS
  cases q
  rotate_left
  · go_wp2
    go_ret
    exact ⟨rfl, Below.refl _ _⟩
  rcases ho with ho | ho
  all_goals
    go_wp2_with fail
    all_goals go_ret
    all_goals exact ⟨rfl, Below.refl _ _⟩
end Go.Proofs.Qxb6613375a
