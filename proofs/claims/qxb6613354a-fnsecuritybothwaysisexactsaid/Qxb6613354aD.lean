import Derived.Test.Qxb6613354aC
namespace Go.Proofs.Qxb6613354a
open Go.ChangeShapes Go.WideShapes Go.ChangeAt Go.RowKit
open Go.Extern.Stop (cell)

theorem info40 : (Try.prog.info? 40).map (fun i => (i.zero, i.size, i.bytes)) = some (some (.agg #[.int .i64 0, .string ⟨#[]⟩, .string ⟨#[]⟩, .string ⟨#[]⟩]), 4, 56) := by kernel_rfl

/-- The cells of one finding, and of the first n. -/
def fcell (k : Int) (m p : ByteArray) : List Value := [.int .i64 k, .string m, .string p, .string ⟨#[115, 101, 99, 117, 114, 105, 116, 121]⟩]
def finds (n : Nat) (m p : ByteArray) : List Value := (fcell 1 m p ++ fcell 2 m p).take (n * 4)

theorem f13_any (k : Int) (b : Nat) (m p : ByteArray) (w : World) (h0 : w.cell? ⟨b, 0, none⟩ = some (.string m)) (h1 : w.cell? ⟨b, 1, none⟩ = some (.string p)) (hb : b < w.heap.size) :
    Calls Try.prog 13 #[.int .i64 k, .pointer (some ⟨b, 0, none⟩)] w fun e w' => e = .returned (.agg #[.int .i64 k, .string m, .string p, .string ⟨#[115, 101, 99, 117, 114, 105, 116, 121]⟩]) ∧ Below w.heap.size w w' := by
  go_enter Try.func13, Try.ntmps13
  go_wp2
  exact bodyPost_ret (v := .agg #[.int .i64 k, .string m, .string p, .string ⟨#[115, 101, 99, 117, 114, 105, 116, 121]⟩]) (by simp [results, Try.results13, go_sem]) rfl ⟨rfl, (Below.refl _ _).alloc (Nat.le_refl _) _⟩

set_option maxHeartbeats 400000 in
theorem f10_eq (m p m' p' : ByteArray) (r r' : Bool) (c c' : Int) (xs ys : List UInt8) (hx : xs.length = 32) (hy : ys.length = 32) (he : (xs == ys) = true) (w : World) :
    Calls Try.prog 10 #[.agg (opA m p r c xs), .agg (opA m' p' r' c' ys)] w fun e w' => e = .returned (.slice none 0 0) ∧ Below w.heap.size w w' := by
  have hc := f12_any r r' c c' xs ys hx hy
  rw [he] at hc
  have HC := Hid.out (p := ∀ w, _) hc
  clear hc he
  go_enter Try.func10, Try.ntmps10
  go_wp2_with (first
    | (refine wpList_load_sec rfl _ rfl w.heap.size rfl m p r c xs hx 34 (0, 0) (heap_alloc2_old _ _ _) ?_)
    | (refine wpList_load_sec rfl _ rfl (w.heap.size + 1) rfl m' p' r' c' ys hy 34 (0, 0) (heap_alloc2_new _ _ _) ?_))
  refine (HC _).mono ?_
  rintro e w1 ⟨rfl, hb⟩
  have HB : Hid (Below w.heap.size w w1) := (((Below.refl _ _).alloc (Nat.le_refl _) _).alloc (by simp) _).trans (hb.mono (by simp; omega))
  clear hb HC
  go_wp2
  go_ret
  exact ⟨rfl, HB.out⟩

theorem owns_one (k : Int) (m p : ByteArray) {B : Nat} (w : World) (hB : B ≤ w.heap.size) :
    (w.alloc (.cells #[.int .i64 k, .string m, .string p, .string ⟨#[115, 101, 99, 117, 114, 105, 116, 121]⟩] 40)).ownsRow B 40 4 (.slice (some ⟨w.heap.size, 0, none⟩) 1 1) 1 (fcell k m p) :=
  ⟨rfl, .inr ⟨w.heap.size, 1, _, rfl, hB, heap_alloc_new w _, Nat.le_refl _, by decide, rfl, rfl⟩⟩
theorem owns_below {w w' : World} {B e size n : Nat} {v : Value} {xs : List Value} (h : w.ownsRow B e size v n xs) (hb : Below w.heap.size w w') : w'.ownsRow B e size v n xs := by
  refine ⟨h.1, ?_⟩
  rcases h.2 with hn | ⟨g, cap, cur, rfl, hB, hg, rest⟩
  · exact .inl hn
  · exact .inr ⟨g, cap, cur, rfl, hB, (hb.block g (Array.getElem?_eq_some_iff.1 hg).1).trans hg, rest⟩
theorem owns_base {w : World} {B B' e size n : Nat} {v : Value} {xs : List Value} (h : w.ownsRow B e size v n xs) (hB : B' ≤ B) : w.ownsRow B' e size v n xs := by
  refine ⟨h.1, ?_⟩
  rcases h.2 with hn | ⟨g, cap, cur, rfl, hb, rest⟩
  · exact .inl hn
  · exact .inr ⟨g, cap, cur, rfl, Nat.le_trans hB hb, rest⟩
theorem cells_new (w : World) (m p : ByteArray) : ∀ j u, (fcell 2 m p)[j]? = some u →
    (w.alloc (.cells #[.int .i64 2, .string m, .string p, .string ⟨#[115, 101, 99, 117, 114, 105, 116, 121]⟩] 40)).cell? ((⟨w.heap.size, 0, none⟩ : Addr).add j) = some u := by
  intro j u hu
  rw [Addr.add_mid, Nat.zero_add, World.cell?_alloc_at _ _ _ _ rfl, ← hu]
  simp only [fcell, List.getElem?_toArray]
theorem fcell_one (k : Int) (m p : ByteArray) : ∀ u ∈ fcell k m p, u.oneCell' = true := by
  intro u hu
  simp only [fcell, List.mem_cons, List.not_mem_nil, or_false] at hu
  rcases hu with rfl | rfl | rfl | rfl <;> rfl

set_option maxHeartbeats 1600000 in
theorem f10_ne (m p m' p' : ByteArray) (r r' : Bool) (c c' : Int) (xs ys : List UInt8) (hx : xs.length = 32) (hy : ys.length = 32) (he : (xs == ys) = false) (w : World) :
    Calls Try.prog 10 #[.agg (opA m p r c xs), .agg (opA m' p' r' c' ys)] w fun e w' => ∃ v, e = .returned v ∧ w'.ownsRow w.heap.size 40 4 v (wantF r c xs r' c' ys) (finds (wantF r c xs r' c' ys) m' p') ∧ Below w.heap.size w w' := by
  have HE : Hid _ := he
  have hc := f12_any r r' c c' xs ys hx hy
  rw [he] at hc
  have HC : Hid _ := hc
  clear hc he
  go_enter Try.func10, Try.ntmps10
  go_wp2_with (first
    | (refine wpList_load_sec rfl _ rfl w.heap.size rfl m p r c xs hx 34 (0, 0) (heap_alloc2_old _ _ _) ?_)
    | (refine wpList_load_sec rfl _ rfl (w.heap.size + 1) rfl m' p' r' c' ys hy 34 (0, 0) (heap_alloc2_new _ _ _) ?_))
  refine (HC.out _).mono ?_
  rintro e w1 ⟨rfl, hb⟩
  have HG0 : Hid (w1.heap[w.heap.size]? = some (.cells (opA m p r c xs) 34 (0, 0))) := (hb.block _ (by simp; omega)).trans (heap_alloc2_old _ _ _)
  have HG1 : Hid (w1.heap[w.heap.size + 1]? = some (.cells (opA m' p' r' c' ys) 34 (0, 0))) := (hb.block _ (by simp)).trans (heap_alloc2_new _ _ _)
  have hs1 : w.heap.size + 2 ≤ w1.heap.size := by have := hb.size; simpa using this
  have HB : Hid (Below w.heap.size w w1) := (((Below.refl _ _).alloc (Nat.le_refl _) _).alloc (by simp) _).trans (hb.mono (by simp; omega))
  clear hb HC
  go_wp2_with fail
  refine (f13_any 1 (w.heap.size + 1) m' p' w1 (op_cell0 HG1.out) (op_cell1 HG1.out) (by omega)).mono ?_
  rintro e w2 ⟨rfl, hb⟩
  have HG0 : Hid (w2.heap[w.heap.size]? = some (.cells (opA m p r c xs) 34 (0, 0))) := (hb.block _ (by omega)).trans HG0.out
  have HG1 : Hid (w2.heap[w.heap.size + 1]? = some (.cells (opA m' p' r' c' ys) 34 (0, 0))) := (hb.block _ (by omega)).trans HG1.out
  have hs2 : w.heap.size + 2 ≤ w2.heap.size := by have := hb.size; omega
  have HB : Hid (Below w.heap.size w w2) := HB.out.trans (hb.mono (by omega))
  have h05 := op_cell5 HG0.out
  have h06 := op_cell6 HG0.out
  have h15 := op_cell5 HG1.out
  have h16 := op_cell6 HG1.out
  have hq0 : w.heap.size < w2.heap.size := by omega
  have hq1 : w.heap.size + 1 < w2.heap.size := by omega
  clear hb hs1
  go_wp2_with fail
  · have w2r : r = true := by assumption
    have w2r' : r' = true := by assumption
    have w2c : (c != c') = true := by assumption
    have HW : Hid (wantF r c xs r' c' ys = 2) := by rw [Hid]; simp only [wantF, HE.out, w2r, w2r', w2c]; rfl
    clear w2r w2r' w2c
    refine (f13_any 2 (w.heap.size + 1) m' p' _ ?_ ?_ ?_).mono ?_
    · rw [World.cell?_alloc_past _ _ _ hq1]; exact op_cell0 HG1.out
    · rw [World.cell?_alloc_past _ _ _ hq1]; exact op_cell1 HG1.out
    · simp; omega
    rintro e w4 ⟨rfl, hb4⟩
    have HOWN : Hid (w4.ownsRow w.heap.size 40 4 (.slice (some ⟨w2.heap.size, 0, none⟩) 1 1) 1 (fcell 1 m' p')) := owns_below (owns_one 1 m' p' w2 (by omega)) hb4
    have HB4 : Hid (Below w.heap.size w w4) := (HB.out.alloc (by omega) _).trans (hb4.mono (by simp; omega))
    have hs4 : w.heap.size ≤ w4.heap.size := by have := hb4.size; simp at this; omega
    clear hb4 HB HG0 HG1
    obtain ⟨i0, hi, hz0, hz1, hz2⟩ := info_parts info40
    go_wp2_with (at_builtin; refine wpList_append_own _ rfl _ _ 36 rfl w.heap.size 40 i0 _ 4 56 Try.underlying36 hi hz0 hz1 hz2 rfl (by decide) _ 1 _ rfl (HOWN.out.alloc _) ⟨w4.heap.size, 0, none⟩ 1 1 (fcell 2 m' p') rfl rfl (cells_new w4 m' p') (fcell_one 2 m' p') (by decide) (by decide) (by simp; omega) ?_)
    intro v' w5 hown5 hgrow5 _
    have HO5 : Hid _ := hown5
    have HB5 : Hid (Below w.heap.size w w5) := (HB4.out.alloc (by omega) _).grown hgrow5 (by simp; omega) (fun k hk => by cases hk; show w.heap.size ≤ w2.heap.size; omega)
    clear hown5 hgrow5 hi hz0 hz1 hz2 HOWN HB4
    go_wp2
    go_ret
    refine ⟨v', rfl, ?_, HB5.out⟩
    rw [HW.out]
    exact HO5.out
  all_goals
    have HW : wantF r c xs r' c' ys = 1 := by simp only [wantF, HE.out]; simp_all
    go_ret
    refine ⟨_, rfl, ?_, HB.out.alloc (by omega) _⟩
    rw [HW]
    exact owns_one 1 m' p' w2 (by omega)

/-- What 'security' hands back. -/
theorem f10_any (m p m' p' : ByteArray) (r r' : Bool) (c c' : Int) (xs ys : List UInt8) (hx : xs.length = 32) (hy : ys.length = 32) (w : World) :
    Calls Try.prog 10 #[.agg (opA m p r c xs), .agg (opA m' p' r' c' ys)] w fun e w' => ∃ v, e = .returned v ∧ w'.ownsRow w.heap.size 40 4 v (wantF r c xs r' c' ys) (finds (wantF r c xs r' c' ys) m' p') ∧
      (wantF r c xs r' c' ys = 0 → v = .slice none 0 0) ∧ Below w.heap.size w w' := by
  cases he : (xs == ys)
  · refine (f10_ne m p m' p' r r' c c' xs ys hx hy he w).mono fun e w' h => ?_
    obtain ⟨v, h1, h2, h3⟩ := h
    refine ⟨v, h1, h2, fun h => ?_, h3⟩
    simp only [wantF, he, Bool.false_eq_true, if_false] at h
    split at h <;> cases h
  · refine (f10_eq m p m' p' r r' c c' xs ys hx hy he w).mono fun e w' h => ?_
    obtain ⟨h1, h2⟩ := h
    have hw : wantF r c xs r' c' ys = 0 := by simp only [wantF, he, if_true]
    rw [hw]
    exact ⟨_, h1, World.ownsRow_nil _ _ _ _, fun _ => rfl, h2⟩

set_option maxHeartbeats 400000 in
theorem f6_any (m p m' p' : ByteArray) (r r' : Bool) (c c' : Int) (xs ys : List UInt8) (hx : xs.length = 32) (hy : ys.length = 32) (w : World) :
    Calls Try.prog 6 #[.agg (opA m p r c xs), .agg (opA m' p' r' c' ys)] w fun e w' => ∃ v, e = .returned v ∧ w'.ownsRow w.heap.size 40 4 v (wantF r c xs r' c' ys) (finds (wantF r c xs r' c' ys) m' p') ∧
      (wantF r c xs r' c' ys = 0 → v = .slice none 0 0) ∧ Below w.heap.size w w' := by
  go_enter Try.func6, Try.ntmps6
  go_wp2_with (first
    | (refine wpList_load_op rfl _ rfl w.heap.size rfl m p r c xs hx 34 (0, 0) (heap_alloc2_old _ _ _) ?_)
    | (refine wpList_load_op rfl _ rfl (w.heap.size + 1) rfl m' p' r' c' ys hy 34 (0, 0) (heap_alloc2_new _ _ _) ?_))
  refine (f10_any m p m' p' r r' c c' xs ys hx hy _).mono ?_
  rintro e w1 ⟨v, rfl, hown, hnil, hb⟩
  have HB : Hid (Below w.heap.size w w1) := (((Below.refl _ _).alloc (Nat.le_refl _) _).alloc (by simp) _).trans (hb.mono (by simp; omega))
  have HO : Hid (w1.ownsRow w.heap.size 40 4 v (wantF r c xs r' c' ys) (finds (wantF r c xs r' c' ys) m' p')) := owns_base hown (by simp; omega)
  have HN : Hid _ := hnil
  clear hb hown hnil
  go_wp2
  go_ret
  exact ⟨v, rfl, HO.out, HN.out, HB.out⟩
end Go.Proofs.Qxb6613354a
