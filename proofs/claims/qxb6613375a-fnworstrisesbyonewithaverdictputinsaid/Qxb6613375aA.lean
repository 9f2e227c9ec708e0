import Derived.Test.Qxb6613375aRows
import Derived.WalkKit
import Derived.ProofKit
import Derived.OpenShut
import Derived.ShutString
import Derived.ChangeOld
import Derived.Below
import Derived.WalkLawsBesides
import Derived.WalkSpells
import Derived.Laws.CopyOwn
import Derived.SliceStrings
namespace Go.Proofs.Qxb6613375a
open Go.ChangeShapes Go.WideShapes Go.ChangeAt Go.RowKit

/-- It returns a bool, whichever. -/
def SomeBool (e : Ending) : Prop := ∃ q, e = .returned (.bool q)

/-- A slice of strings that came in: its elements, where it has any. -/
def Strs (w : World) (a : Option Addr) (len : Nat) (ss : List ByteArray) : Prop :=
  ∀ j, j < len → ∃ b off, a = some ⟨b, off, none⟩ ∧ w.cell? ⟨b, off + j, none⟩ = some (.string (ss.getD j ByteArray.empty))

theorem Strs.at {w : World} {a : Option Addr} {len : Nat} {ss : List ByteArray} (h : Strs w a len ss) (h0 : 0 < len) : ∃ b off, a = some ⟨b, off, none⟩ ∧ ∀ j, j < len → ∃ s, w.cell? ⟨b, off + j, none⟩ = some (.string s) := by
  obtain ⟨b, off, rfl, _⟩ := h 0 h0
  refine ⟨b, off, rfl, fun j hj => ?_⟩
  obtain ⟨b', off', e, hc⟩ := h j hj
  cases e
  exact ⟨_, hc⟩

set_option maxHeartbeats 400000 in
theorem f7_none (a : Option Addr) (cap : Nat) (i : Int) (x : ByteArray) (w : World) :
    Calls Try.prog 7 #[.slice a 0 cap, .int .i64 i, .string x] w fun e w' => SomeBool e ∧ w' = w := by
  go_enter Try.func7, Try.ntmps7
  go_wp2
  refine wp_loop_rounds 1 ?_
  rw [rounds_succ]
  go_wp2
  all_goals
    go_ret
    exact ⟨⟨_, rfl⟩, rfl⟩

set_option maxHeartbeats 400000 in
theorem f7_some (b off len cap : Nat) (i : Int) (x : ByteArray) (w : World) (hl : len ≤ 1048576) (hc : ∀ j, j < len → ∃ s, w.cell? ⟨b, off + j, none⟩ = some (.string s)) :
    Calls Try.prog 7 #[.slice (some ⟨b, off, none⟩) len cap, .int .i64 i, .string x] w fun e w' => SomeBool e ∧ w' = w := by
  have HC : Hid _ := hc
  clear hc
  go_enter Try.func7, Try.ntmps7
  go_wp2
  go_loop [7, 8] (fun n i => ∃ k : Nat, k ≤ len ∧ i = .int .i64 k ∧ ∃ t : Int, n = .int .i64 t) (fun _ i => len - (intOf i).toNat)
  case atStart => exact ⟨0, Nat.zero_le _, rfl, _, rfl⟩
  case round =>
    obtain ⟨k, hk, rfl, t, rfl⟩ := hrel
    by_cases hlt : k < len
    · obtain ⟨s, hs⟩ := HC.out k hlt
      go_wp2
      all_goals first
        | (go_ret; exact ⟨⟨_, rfl⟩, rfl⟩)
        | (go_round
           case rel => exact ⟨k + 1, by omega, by go_num, _, rfl⟩
           case measure => simp [intOf]; omega)
    · go_wp2
      all_goals
        go_ret
        exact ⟨⟨_, rfl⟩, rfl⟩

theorem f7_long (a : Option Addr) (len cap : Nat) (i : Int) (x : ByteArray) (w : World) (hl : (1048576 : Int) < (len : Int)) :
    Calls Try.prog 7 #[.slice a len cap, .int .i64 i, .string x] w fun e w' => e = .returned (.bool false) ∧ w' = w := by
  go_enter Try.func7, Try.ntmps7
  go_wp2
  go_ret
  exact ⟨rfl, rfl⟩

theorem f7_any (a : Option Addr) (len cap : Nat) (i : Int) (x : ByteArray) (ss : List ByteArray) (w : World) (h : Strs w a len ss) :
    Calls Try.prog 7 #[.slice a len cap, .int .i64 i, .string x] w fun e w' => ∃ q, e = .returned (.bool q) ∧ w' = w ∧ (q = true → len ≤ 1048576) := by
  by_cases hl : len ≤ 1048576
  · by_cases h0 : len = 0
    · subst h0
      exact (f7_none a cap i x w).mono fun e w' ⟨⟨q, h1⟩, h2⟩ => ⟨q, h1, h2, fun _ => by omega⟩
    · obtain ⟨b, off, rfl, hc⟩ := h.at (by omega)
      exact (f7_some b off len cap i x w hl hc).mono fun e w' ⟨⟨q, h1⟩, h2⟩ => ⟨q, h1, h2, fun _ => hl⟩
  · exact (f7_long a len cap i x w (by omega)).mono fun e w' ⟨h1, h2⟩ => ⟨false, h1, h2, fun h => by cases h⟩

set_option maxHeartbeats 400000 in
theorem f8_none (a : Option Addr) (cap : Nat) (bound : Int) (w : World) :
    Calls Try.prog 8 #[.slice a 0 cap, .slice none 0 0, .int .i64 bound] w fun e w' => SomeBool e ∧ w' = w := by
  go_enter Try.func8, Try.ntmps8
  go_wp2
  refine wp_loop_rounds 1 ?_
  rw [rounds_succ]
  go_wp2
  refine wp_loop_rounds 1 ?_
  rw [rounds_succ]
  go_wp2
  go_ret
  exact ⟨⟨_, rfl⟩, rfl⟩

set_option maxHeartbeats 400000 in
theorem f8_some (b off len cap : Nat) (bound : Int) (w : World) (hl : len ≤ 1048576) (hc : ∀ j, j < len → ∃ s, w.cell? ⟨b, off + j, none⟩ = some (.string s)) :
    Calls Try.prog 8 #[.slice (some ⟨b, off, none⟩) len cap, .slice none 0 0, .int .i64 bound] w fun e w' => SomeBool e ∧ w' = w := by
  have HC : Hid _ := hc
  clear hc
  go_enter Try.func8, Try.ntmps8
  go_wp2
  go_loop [7, 8] (fun n i => ∃ k : Nat, k ≤ len ∧ i = .int .i64 k ∧ ∃ t : Int, n = .int .i64 t) (fun _ i => len - (intOf i).toNat)
  case atStart => exact ⟨0, Nat.zero_le _, rfl, _, rfl⟩
  case round =>
    obtain ⟨k, hk, rfl, t, rfl⟩ := hrel
    by_cases hlt : k < len
    · obtain ⟨s, hs⟩ := HC.out k hlt
      go_wp2
      all_goals first
        | (go_ret; exact ⟨⟨_, rfl⟩, rfl⟩)
        | (go_round
           case rel => exact ⟨k + 1, by omega, by go_num, _, rfl⟩
           case measure => simp [intOf]; omega)
    · go_wp2
      refine wp_loop_rounds 1 ?_
      rw [rounds_succ]
      go_wp2
      go_ret
      exact ⟨⟨_, rfl⟩, rfl⟩

theorem f8_any (a : Option Addr) (len cap : Nat) (bound : Int) (ss : List ByteArray) (w : World) (hl : len ≤ 1048576) (h : Strs w a len ss) :
    Calls Try.prog 8 #[.slice a len cap, .slice none 0 0, .int .i64 bound] w fun e w' => SomeBool e ∧ w' = w := by
  by_cases h0 : len = 0
  · subst h0
    exact f8_none a cap bound w
  · obtain ⟨b, off, rfl, hc⟩ := h.at (by omega)
    exact f8_some b off len cap bound w hl hc
end Go.Proofs.Qxb6613375a
