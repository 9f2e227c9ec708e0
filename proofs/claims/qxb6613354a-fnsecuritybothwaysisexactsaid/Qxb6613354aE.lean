import Derived.Test.Qxb6613354aD
import Derived.Deep.QuietTactic
import Derived.BigQuiet
namespace Go.Proofs.Qxb6613354a
open Go.ChangeShapes Go.WideShapes Go.ChangeAt Go.RowKit
open Go.Extern.Stop (cell)

theorem f8_nil (m p : ByteArray) (w : World) :
    Calls Try.prog 8 #[.slice none 0 0, .int .i64 0, .string m, .string p] w fun e w' => e = .returned (.bool true) ∧ Below w.heap.size w w' := by
  have hq := fun w => Lib.run_eql_slice_nil (P := Try.prog) w 36 40 none 0 0 0 0 Try.underlying36
  go_enter Try.func8, Try.ntmps8
  go_wp2
  go_ret
  exact ⟨rfl, Below.refl _ _⟩

set_option maxHeartbeats 1600000 in
theorem f8_one (g cap : Nat) (m p : ByteArray) (w : World) (h0 : w.cell? ⟨g, 0, none⟩ = some (.int .i64 1)) (h1 : w.cell? ⟨g, 1, none⟩ = some (.string m)) (h2 : w.cell? ⟨g, 2, none⟩ = some (.string p))
    (h3 : w.cell? ⟨g, 3, none⟩ = some (.string ⟨#[115, 101, 99, 117, 114, 105, 116, 121]⟩)) :
    Calls Try.prog 8 #[.slice (some ⟨g, 0, none⟩) 1 cap, .int .i64 1, .string m, .string p] w fun e w' => e = .returned (.bool true) ∧ Below w.heap.size w w' := by
  go_enter Try.func8, Try.ntmps8
  go_wp2
  refine wp_loop_rounds 2 ?_
  rw [rounds_succ]
  go_wp2
  go_quiet ((go_at_call 11; exact Calls.quiet_of_same (f11_zero _)))
  go_wp2
  rw [rounds_succ]
  go_wp2
  go_ret
  exact ⟨rfl, below_drewN ((Below.refl _ _).alloc (Nat.le_refl _) _) _⟩

set_option maxHeartbeats 1600000 in
theorem f8_two (g cap : Nat) (m p : ByteArray) (w : World) (hg : g < w.heap.size) (h0 : w.cell? ⟨g, 0, none⟩ = some (.int .i64 1)) (h1 : w.cell? ⟨g, 1, none⟩ = some (.string m)) (h2 : w.cell? ⟨g, 2, none⟩ = some (.string p))
    (h3 : w.cell? ⟨g, 3, none⟩ = some (.string ⟨#[115, 101, 99, 117, 114, 105, 116, 121]⟩)) (h4 : w.cell? ⟨g, 4, none⟩ = some (.int .i64 2)) (h5 : w.cell? ⟨g, 5, none⟩ = some (.string m)) (h6 : w.cell? ⟨g, 6, none⟩ = some (.string p))
    (h7 : w.cell? ⟨g, 7, none⟩ = some (.string ⟨#[115, 101, 99, 117, 114, 105, 116, 121]⟩)) :
    Calls Try.prog 8 #[.slice (some ⟨g, 0, none⟩) 2 cap, .int .i64 2, .string m, .string p] w fun e w' => e = .returned (.bool true) ∧ Below w.heap.size w w' := by
  go_enter Try.func8, Try.ntmps8
  go_wp2
  refine wp_loop_rounds 3 ?_
  rw [rounds_succ]
  go_wp2
  go_quiet ((go_at_call 11; exact Calls.quiet_of_same (f11_zero _)))
  go_wp2
  rw [rounds_succ]
  go_wp2
  go_quiet ((go_at_call 11; exact Calls.quiet_of_same (f11_one _)))
  go_wp2
  rw [rounds_succ]
  go_wp2
  go_ret
  exact ⟨rfl, below_drewN ((below_drewN ((Below.refl _ _).alloc (Nat.le_refl _) _) _).alloc (by simp) _) _⟩

/-- The shape of a slice of n findings. -/
theorem shape1 {w : World} {B n : Nat} {v : Value} {m p : ByteArray} (h : w.ownsRow B 40 4 v n (finds n m p)) (hn : n = 1) :
    ∃ g cap, v = .slice (some ⟨g, 0, none⟩) 1 cap ∧ B ≤ g ∧ g < w.heap.size ∧ w.cell? ⟨g, 0, none⟩ = some (.int .i64 1) ∧ w.cell? ⟨g, 1, none⟩ = some (.string m) ∧ w.cell? ⟨g, 2, none⟩ = some (.string p) ∧
      w.cell? ⟨g, 3, none⟩ = some (.string ⟨#[115, 101, 99, 117, 114, 105, 116, 121]⟩) := by
  subst hn
  obtain ⟨h1, ⟨_, h2⟩ | ⟨g, cap, cur, rfl, hB, hg, hc, hm, hs, ht⟩⟩ := h
  · cases h2
  · have hcell : ∀ j u, (finds 1 m p)[j]? = some u → w.cell? ⟨g, j, none⟩ = some u := fun j u hu => by
      have := World.ownsRow.cells (w := w) (base := B) (e := 40) (size := 4) (v := .slice (some ⟨g, 0, none⟩) 1 cap) (n := 1) ⟨h1, .inr ⟨g, cap, cur, rfl, hB, hg, hc, hm, hs, ht⟩⟩ (g := g) rfl j u hu
      rwa [Addr.add_mid, Nat.zero_add] at this
    exact ⟨g, cap, rfl, hB, (Array.getElem?_eq_some_iff.1 hg).1, hcell 0 _ rfl, hcell 1 _ rfl, hcell 2 _ rfl, hcell 3 _ rfl⟩
theorem shape2 {w : World} {B n : Nat} {v : Value} {m p : ByteArray} (h : w.ownsRow B 40 4 v n (finds n m p)) (hn : n = 2) :
    ∃ g cap, v = .slice (some ⟨g, 0, none⟩) 2 cap ∧ B ≤ g ∧ g < w.heap.size ∧ w.cell? ⟨g, 0, none⟩ = some (.int .i64 1) ∧ w.cell? ⟨g, 1, none⟩ = some (.string m) ∧ w.cell? ⟨g, 2, none⟩ = some (.string p) ∧
      w.cell? ⟨g, 3, none⟩ = some (.string ⟨#[115, 101, 99, 117, 114, 105, 116, 121]⟩) ∧ w.cell? ⟨g, 4, none⟩ = some (.int .i64 2) ∧ w.cell? ⟨g, 5, none⟩ = some (.string m) ∧ w.cell? ⟨g, 6, none⟩ = some (.string p) ∧
      w.cell? ⟨g, 7, none⟩ = some (.string ⟨#[115, 101, 99, 117, 114, 105, 116, 121]⟩) := by
  subst hn
  obtain ⟨h1, ⟨_, h2⟩ | ⟨g, cap, cur, rfl, hB, hg, hc, hm, hs, ht⟩⟩ := h
  · cases h2
  · have hcell : ∀ j u, (finds 2 m p)[j]? = some u → w.cell? ⟨g, j, none⟩ = some u := fun j u hu => by
      have := World.ownsRow.cells (w := w) (base := B) (e := 40) (size := 4) (v := .slice (some ⟨g, 0, none⟩) 2 cap) (n := 2) ⟨h1, .inr ⟨g, cap, cur, rfl, hB, hg, hc, hm, hs, ht⟩⟩ (g := g) rfl j u hu
      rwa [Addr.add_mid, Nat.zero_add] at this
    exact ⟨g, cap, rfl, hB, (Array.getElem?_eq_some_iff.1 hg).1, hcell 0 _ rfl, hcell 1 _ rfl, hcell 2 _ rfl, hcell 3 _ rfl, hcell 4 _ rfl, hcell 5 _ rfl, hcell 6 _ rfl, hcell 7 _ rfl⟩

/-- 'security' through its door, case by case. -/
theorem f6_0 (m p m' p' : ByteArray) (r r' : Bool) (c c' : Int) (xs ys : List UInt8) (hx : xs.length = 32) (hy : ys.length = 32) (hn : wantF r c xs r' c' ys = 0) (w : World) :
    Calls Try.prog 6 #[.agg (opA m p r c xs), .agg (opA m' p' r' c' ys)] w fun e w' => e = .returned (.slice none 0 0) ∧ Below w.heap.size w w' :=
  (f6_any m p m' p' r r' c c' xs ys hx hy w).mono fun _ _ ⟨_, h1, _, h3, h4⟩ => ⟨by rw [h1, h3 hn], h4⟩
theorem f6_1 (m p m' p' : ByteArray) (r r' : Bool) (c c' : Int) (xs ys : List UInt8) (hx : xs.length = 32) (hy : ys.length = 32) (hn : wantF r c xs r' c' ys = 1) (w : World) :
    Calls Try.prog 6 #[.agg (opA m p r c xs), .agg (opA m' p' r' c' ys)] w fun e w' => ∃ g cap, e = .returned (.slice (some ⟨g, 0, none⟩) 1 cap) ∧ w.heap.size ≤ g ∧ g < w'.heap.size ∧ w'.cell? ⟨g, 0, none⟩ = some (.int .i64 1) ∧ w'.cell? ⟨g, 1, none⟩ = some (.string m') ∧
      w'.cell? ⟨g, 2, none⟩ = some (.string p') ∧ w'.cell? ⟨g, 3, none⟩ = some (.string ⟨#[115, 101, 99, 117, 114, 105, 116, 121]⟩) ∧ Below w.heap.size w w' :=
  (f6_any m p m' p' r r' c c' xs ys hx hy w).mono fun _ _ ⟨_, h1, h2, _, h4⟩ => by
    obtain ⟨g, cap, rfl, hB, hg, c0, c1, c2, c3⟩ := shape1 h2 hn
    exact ⟨g, cap, h1, hB, hg, c0, c1, c2, c3, h4⟩
theorem f6_2 (m p m' p' : ByteArray) (r r' : Bool) (c c' : Int) (xs ys : List UInt8) (hx : xs.length = 32) (hy : ys.length = 32) (hn : wantF r c xs r' c' ys = 2) (w : World) :
    Calls Try.prog 6 #[.agg (opA m p r c xs), .agg (opA m' p' r' c' ys)] w fun e w' => ∃ g cap, e = .returned (.slice (some ⟨g, 0, none⟩) 2 cap) ∧ w.heap.size ≤ g ∧ g < w'.heap.size ∧ w'.cell? ⟨g, 0, none⟩ = some (.int .i64 1) ∧ w'.cell? ⟨g, 1, none⟩ = some (.string m') ∧
      w'.cell? ⟨g, 2, none⟩ = some (.string p') ∧ w'.cell? ⟨g, 3, none⟩ = some (.string ⟨#[115, 101, 99, 117, 114, 105, 116, 121]⟩) ∧ w'.cell? ⟨g, 4, none⟩ = some (.int .i64 2) ∧ w'.cell? ⟨g, 5, none⟩ = some (.string m') ∧
      w'.cell? ⟨g, 6, none⟩ = some (.string p') ∧ w'.cell? ⟨g, 7, none⟩ = some (.string ⟨#[115, 101, 99, 117, 114, 105, 116, 121]⟩) ∧ Below w.heap.size w w' :=
  (f6_any m p m' p' r r' c c' xs ys hx hy w).mono fun _ _ ⟨_, h1, h2, _, h4⟩ => by
    obtain ⟨g, cap, rfl, hB, hg, c0, c1, c2, c3, c4, c5, c6, c7⟩ := shape2 h2 hn
    exact ⟨g, cap, h1, hB, hg, c0, c1, c2, c3, c4, c5, c6, c7, h4⟩

theorem wantF_comm (r r' : Bool) (c c' : Int) (xs ys : List UInt8) : wantF r' c' ys r c xs = wantF r c xs r' c' ys := by
  have h1 : (ys == xs) = (xs == ys) := Bool.eq_iff_iff.2 ⟨fun h => by have := eq_of_beq h; subst this; exact beq_self_eq_true _, fun h => by have := eq_of_beq h; subst this; exact beq_self_eq_true _⟩
  have h2 : (c' != c) = (c != c') := by rw [Bool.eq_iff_iff, bne_iff_ne, bne_iff_ne]; exact ⟨fun h e => h e.symm, fun h e => h e.symm⟩
  simp only [wantF, h1, h2, Bool.and_comm r' r]
theorem wantF_le (r r' : Bool) (c c' : Int) (xs ys : List UInt8) : wantF r c xs r' c' ys = 0 ∨ wantF r c xs r' c' ys = 1 ∨ wantF r c xs r' c' ys = 2 := by
  unfold wantF
  split
  · exact .inl rfl
  · split
    · exact .inr (.inr rfl)
    · exact .inr (.inl rfl)
end Go.Proofs.Qxb6613354a
