import Derived.Test.Qxb6613375aA
namespace Go.Proofs.Qxb6613375a
open Go.ChangeShapes Go.WideShapes Go.ChangeAt Go.RowKit

theorem info9 : (Try.prog.info? 9).map (fun i => (i.zero, i.size, i.bytes)) = some (some (.string ByteArray.empty), 1, 16) := by kernel_rfl
theorem size9 : (Try.prog.info? 9).map (·.size) = some 1 := by kernel_rfl

theorem f9_any (a : Option Addr) (n c : Nat) (w : World) :
    Calls Try.prog 9 #[.slice a n c] w fun e w' => e = .returned (.agg #[.slice a n c, .map none]) ∧ Below w.heap.size w w' := by
  go_enter Try.func9, Try.ntmps9
  go_wp2
  exact bodyPost_ret (v := .agg #[.slice a n c, .map none]) (by simp [results, Try.results9, go_sem]) rfl ⟨rfl, (Below.refl _ _).alloc (Nat.le_refl _) _⟩

theorem f10_any (a : Option Addr) (n c : Nat) (w : World) (hn : n ≤ 1048577) :
    Calls Try.prog 10 #[.agg #[.slice a n c, .map none]] w fun e w' => e = .returned (.int .i64 ((n : Int) - 1)) ∧ Below w.heap.size w w' := by
  go_enter Try.func10, Try.ntmps10
  go_wp2
  go_ret
  exact ⟨rfl, (Below.refl _ _).alloc (Nat.le_refl _) _⟩

theorem str_one (x : ByteArray) : ∀ u ∈ [Value.string x], u.oneCell' = true := by
  intro u hu
  simp only [List.mem_cons, List.not_mem_nil, or_false] at hu
  subst hu
  rfl

set_option maxHeartbeats 1000000 in
theorem f5_nil (i : Int) (x : ByteArray) (w : World) :
    Calls Try.prog 5 #[.slice none 0 0, .int .i64 i, .string x] w fun e w' => e = .returned (.bool true) ∧ Below w.heap.size w w' := by
  have hnn := fun w => run_neq_slice_nil_any (P := Try.prog) w 25 9 none 0 0 0 0 Try.underlying25
  go_enter Try.func5, Try.ntmps5
  go_wp2_with fail
  refine (f7_any none 0 0 i x [] w (fun j hj => by omega)).mono ?_
  rintro e w' ⟨q, rfl, rfl, _⟩
  cases q
  · go_wp2
    go_ret
    exact ⟨rfl, Below.refl _ _⟩
  go_wp2_with fail
  · go_ret
    exact ⟨rfl, Below.refl _ _⟩
  refine (f8_any none 0 0 _ [] w' (by omega) (fun j hj => by omega)).mono ?_
  rintro e w0 ⟨⟨q, rfl⟩, rfl⟩
  cases q
  rotate_left
  · go_wp2
    go_ret
    exact ⟨rfl, Below.refl _ _⟩
  by_cases hi0 : i = 0
  · subst hi0
    obtain ⟨i0, hi, hz0, hz1, hz2⟩ := info_parts info9
    have HI : Hid _ := hi
    have HZ0 : Hid _ := hz0
    have HZ1 : Hid _ := hz1
    have HZ2 : Hid _ := hz2
    clear hi hz0 hz1 hz2
    go_wp2_with (at_make; refine wpList_make_own _ rfl _ _ 25 rfl w0.heap.size 9 i0 _ 1 Try.underlying25 HI.out HZ0.out HZ1.out .i64 .i64 1 1 rfl rfl rfl (by rw [HZ2.out]; decide) (by decide) (Nat.le_refl _) ?_)
    intro w1 hown hgrow
    have HO1 : Hid (w1.ownsRow w0.heap.size 9 1 (.slice (some ⟨w0.heap.size, 0, none⟩) 0 1) 0 []) := hown
    have HB1 : Hid (Below w0.heap.size w0 w1) := (Below.refl _ _).grown hgrow (Nat.le_refl _) (fun k hk => by cases hk)
    clear hown hgrow
    go_wp2_with fail
    refine wp_loop_rounds 1 ?_
    rw [rounds_succ]
    go_wp2_with (at_builtin; refine wpList_append_fits _ rfl _ _ 25 rfl w0.heap.size 9 i0 1 Try.underlying25 HI.out HZ1.out w0.heap.size 0 1 [] rfl (World.ownsRow.alloc HO1.out _) ⟨w1.heap.size, 0, none⟩ 1 1 [.string x] rfl rfl (cell_one_new _ _ _) (str_one x) (by decide) ?_)
    intro w2 hown hgrow
    have HB2 : Hid (Below w0.heap.size w0 w2) := (HB1.out.alloc HB1.out.size _).grown hgrow (Nat.le_trans HB1.out.size (by simp)) (fun k hk => by cases hk; exact Nat.le_refl _)
    clear hown hgrow HB1 HO1
    go_wp2_with fail
    refine wp_loop_rounds 1 ?_
    rw [rounds_succ]
    go_wp2_with fail
    refine (f9_any _ _ _ _).mono ?_
    rintro e w3 ⟨rfl, hb⟩
    have HB3 : Hid (Below w0.heap.size w0 w3) := HB2.out.trans (hb.mono HB2.out.size)
    clear hb HB2
    go_wp2_with fail
    refine (f10_any _ _ _ _ (by omega)).mono ?_
    rintro e w4 ⟨rfl, hb⟩
    have HB4 : Hid (Below w0.heap.size w0 w4) := HB3.out.trans (hb.mono HB3.out.size)
    clear hb HB3
    go_wp2_with fail
    refine (f9_any _ _ _ _).mono ?_
    rintro e w5 ⟨rfl, hb⟩
    have HB5 : Hid (Below w0.heap.size w0 w5) := HB4.out.trans (hb.mono HB4.out.size)
    clear hb HB4
    go_wp2_with fail
    refine (f10_any _ _ _ _ (by omega)).mono ?_
    rintro e w6 ⟨rfl, hb⟩
    have HB6 : Hid (Below w0.heap.size w0 w6) := HB5.out.trans (hb.mono HB5.out.size)
    clear hb HB5
    go_wp2_with fail
    go_ret
    exact ⟨rfl, HB6.out⟩
  · go_wp2_with fail
    all_goals go_ret
    all_goals exact ⟨rfl, Below.refl _ _⟩
end Go.Proofs.Qxb6613375a
