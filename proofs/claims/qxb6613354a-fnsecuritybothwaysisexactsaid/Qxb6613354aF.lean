import Derived.Test.Qxb6613354aE
namespace Go.Proofs.Qxb6613354a
open Go.ChangeShapes Go.WideShapes Go.ChangeAt Go.RowKit
open Go.Extern.Stop (cell)

/-- A whole aggregate stored into the block that was laid last. -/
theorem wpList_store_new {P : Program} {ops : Array Oper} {rest : List Oper} {o : Oper} {a : Act} {w : World} {Q : Exit → Act → World → Prop} (hgd : o.guard = none) (ty : TypeId) (x y : Operand) (ho : o.op = .store ty x y)
    (cells : Array Value) (hx : a.eval x = .pointer (some ⟨w.heap.size, 0, none⟩)) (hy : a.eval y = .agg cells)
    (t : TypeId) (old : Array Value) (hi : (P.info? ty).map (·.size) = some cells.size)
    (hold : old.size = cells.size) (h1 : cells.all (·.oneCell') = true)
    (h : wpList P ops Q rest (a.put o.dst undef) (w.alloc (.cells cells t))) : wpList P ops Q (o :: rest) a (w.alloc (.cells old t)) :=
  wpList_store_row hgd ty x y ho w.heap.size cells hx hy t old (heap_alloc_new _ _) hi hold h1 (by rw [setRow_alloc w _ rfl]; exact h)

set_option maxHeartbeats 1600000 in
theorem f3_long (a b : ByteArray) (r : Bool) (c : Int) (xs : List UInt8) (a' b' : ByteArray) (r' : Bool) (c' : Int) (ys : List UInt8) (hx : xs.length = 32) (hy : ys.length = 32)
    (hl : (4096 : Int) < (a.size : Int) ∨ (4096 : Int) < (b.size : Int) ∨ (4096 : Int) < (a'.size : Int) ∨ (4096 : Int) < (b'.size : Int)) (w : World) :
    Calls Try.prog 3 #[.string a, .string b, .bool r, .int .u8 c, .agg (keyA xs), .string a', .string b', .bool r', .int .u8 c', .agg (keyA ys)] w fun e w' => e = .returned (.bool true) ∧ Below w.heap.size w w' := by
  go_enter Try.func3, Try.ntmps3
  go_wp2_with (first
    | (refine wpList_load_arr rfl _ rfl w.heap.size rfl xs hx 22 (0, 0) (heap_alloc2_old _ _ _) ?_)
    | (refine wpList_load_arr rfl _ rfl (w.heap.size + 1) rfl ys hy 22 (0, 0) (heap_alloc2_new _ _ _) ?_))
  refine (f4_any a b r c xs a' b' r' c' ys _).mono ?_
  rintro e w1 ⟨⟨q, rfl⟩, hb⟩
  have HB : Hid (Below w.heap.size w w1) := (((Below.refl _ _).alloc (Nat.le_refl _) _).alloc (by simp) _).trans (hb.mono (by simp; omega))
  clear hb
  cases q
  · go_wp2
    go_ret
    exact ⟨rfl, HB.out⟩
  · rcases hl with hl | hl | hl | hl
    all_goals
      go_wp2_with fail
      all_goals
        go_ret
        exact ⟨rfl, HB.out⟩

end Go.Proofs.Qxb6613354a
