import Derived.Test.Qxb6613354aB
namespace Go.Proofs.Qxb6613354a
open Go.ChangeShapes Go.WideShapes Go.ChangeAt Go.RowKit
open Go.Extern.Stop (cell)

theorem range_sec {w : World} {b : Nat} {r : Bool} {c : Int} {xs : List UInt8} {t : TypeId} {fr : Nat × Nat} (h : w.heap[b]? = some (.cells (secA r c xs) t fr)) : w.rangeAt b 2 (xs.map cell) := by
  intro j v hv
  rw [cell_of_row w b (2 + j) _ t fr h]
  simp only [secA, sec, List.getElem?_toArray]
  rw [show 2 + j = j + 1 + 1 by omega, List.getElem?_cons_succ, List.getElem?_cons_succ]
  exact hv
theorem range_op {w : World} {b : Nat} {m p : ByteArray} {r : Bool} {c : Int} {xs : List UInt8} {t : TypeId} {fr : Nat × Nat} (h : w.heap[b]? = some (.cells (opA m p r c xs) t fr)) : w.rangeAt b 5 (sec r c xs) := by
  intro j v hv
  rw [cell_of_row w b (5 + j) _ t fr h]
  simp only [opA, opL, List.getElem?_toArray]
  rw [List.getElem?_append_right (by simp), List.getElem?_append_left (by simpa using (List.getElem?_eq_some_iff.1 hv).1)]
  simpa using hv
theorem op_cell0 {w : World} {b : Nat} {m p : ByteArray} {r : Bool} {c : Int} {xs : List UInt8} {t : TypeId} {fr : Nat × Nat} (h : w.heap[b]? = some (.cells (opA m p r c xs) t fr)) : w.cell? ⟨b, 0, none⟩ = some (.string m) := by
  rw [cell_of_row w b 0 _ t fr h]; rfl
theorem op_cell1 {w : World} {b : Nat} {m p : ByteArray} {r : Bool} {c : Int} {xs : List UInt8} {t : TypeId} {fr : Nat × Nat} (h : w.heap[b]? = some (.cells (opA m p r c xs) t fr)) : w.cell? ⟨b, 1, none⟩ = some (.string p) := by
  rw [cell_of_row w b 1 _ t fr h]; rfl
theorem op_cell5 {w : World} {b : Nat} {m p : ByteArray} {r : Bool} {c : Int} {xs : List UInt8} {t : TypeId} {fr : Nat × Nat} (h : w.heap[b]? = some (.cells (opA m p r c xs) t fr)) : w.cell? ⟨b, 5, none⟩ = some (.bool r) := by
  rw [cell_of_row w b 5 _ t fr h]; rfl
theorem op_cell6 {w : World} {b : Nat} {m p : ByteArray} {r : Bool} {c : Int} {xs : List UInt8} {t : TypeId} {fr : Nat × Nat} (h : w.heap[b]? = some (.cells (opA m p r c xs) t fr)) : w.cell? ⟨b, 6, none⟩ = some (.int .u8 c) := by
  rw [cell_of_row w b 6 _ t fr h]; rfl

/-- A load of a key out of a Security's box. -/
theorem wpList_load_key {ops : Array Oper} {rest : List Oper} {o : Oper} {a : Act} {w : World} {Q : Exit → Act → World → Prop} (hgd : o.guard = none) (x : Operand) (ho : o.op = .load 28 x)
    (b : Nat) (hx : a.eval x = .pointer (some ⟨b, 2, none⟩)) (r : Bool) (c : Int) (xs : List UInt8) (hl : xs.length = 32) (t : TypeId) (fr : Nat × Nat) (hg : w.heap[b]? = some (.cells (secA r c xs) t fr))
    (h : wpList Try.prog ops Q rest (a.put o.dst (.agg (keyA xs))) w) : wpList Try.prog ops Q (o :: rest) a w :=
  wpList_load_mid hgd 28 x ho b 2 hx (xs.map cell) _ (range_sec hg) Try.underlying28 rfl (by rw [List.length_map, hl]; exact size28) h
/-- A load of a Security out of an Operation's box. -/
theorem wpList_load_sec {ops : Array Oper} {rest : List Oper} {o : Oper} {a : Act} {w : World} {Q : Exit → Act → World → Prop} (hgd : o.guard = none) (x : Operand) (ho : o.op = .load 30 x)
    (b : Nat) (hx : a.eval x = .pointer (some ⟨b, 5, none⟩)) (m p : ByteArray) (r : Bool) (c : Int) (xs : List UInt8) (hl : xs.length = 32) (t : TypeId) (fr : Nat × Nat) (hg : w.heap[b]? = some (.cells (opA m p r c xs) t fr))
    (h : wpList Try.prog ops Q rest (a.put o.dst (.agg (secA r c xs))) w) : wpList Try.prog ops Q (o :: rest) a w :=
  wpList_load_mid hgd 30 x ho b 5 hx (sec r c xs) _ (range_op hg) Try.underlying30 rfl (by have := secA_size r c hl; simp only [secA, List.size_toArray] at this; rw [this]; exact size30) h
/-- A load of a whole Operation. -/
theorem wpList_load_op {ops : Array Oper} {rest : List Oper} {o : Oper} {a : Act} {w : World} {Q : Exit → Act → World → Prop} (hgd : o.guard = none) (x : Operand) (ho : o.op = .load 34 x)
    (b : Nat) (hx : a.eval x = .pointer (some ⟨b, 0, none⟩)) (m p : ByteArray) (r : Bool) (c : Int) (xs : List UInt8) (hl : xs.length = 32) (t : TypeId) (fr : Nat × Nat) (hg : w.heap[b]? = some (.cells (opA m p r c xs) t fr))
    (h : wpList Try.prog ops Q rest (a.put o.dst (.agg (opA m p r c xs))) w) : wpList Try.prog ops Q (o :: rest) a w :=
  wpList_load_row hgd 34 x ho b hx t (opA m p r c xs) fr _ hg Try.underlying34 rfl (by rw [opA_size m p r c hl]; exact size34) h
/-- A load of a whole key. -/
theorem wpList_load_arr {ops : Array Oper} {rest : List Oper} {o : Oper} {a : Act} {w : World} {Q : Exit → Act → World → Prop} (hgd : o.guard = none) (x : Operand) (ho : o.op = .load 22 x)
    (b : Nat) (hx : a.eval x = .pointer (some ⟨b, 0, none⟩)) (xs : List UInt8) (hl : xs.length = 32) (t : TypeId) (fr : Nat × Nat) (hg : w.heap[b]? = some (.cells (keyA xs) t fr))
    (h : wpList Try.prog ops Q rest (a.put o.dst (.agg (keyA xs))) w) : wpList Try.prog ops Q (o :: rest) a w :=
  wpList_load_row hgd 22 x ho b hx t (keyA xs) fr _ hg Try.underlying22 rfl (by rw [keyA_size hl]; exact size22) h

theorem guard28 : Try.prog.eqGuardType Try.prog.depth 28 = false := by kernel_rfl
theorem guard22 : Try.prog.eqGuardType Try.prog.depth 22 = false := by kernel_rfl

set_option maxHeartbeats 400000 in
theorem f12_any (r r' : Bool) (c c' : Int) (xs ys : List UInt8) (hx : xs.length = 32) (hy : ys.length = 32) (w : World) :
    Calls Try.prog 12 #[.agg (secA r c xs), .agg (secA r' c' ys)] w fun e w' => e = .returned (.bool (xs == ys)) ∧ Below w.heap.size w w' := by
  go_enter Try.func12, Try.ntmps12
  go_wp2_with (first
    | (refine wpList_load_key rfl _ rfl w.heap.size rfl r c xs hx 30 (0, 0) (heap_alloc2_old _ _ _) ?_)
    | (refine wpList_load_key rfl _ rfl (w.heap.size + 1) rfl r' c' ys hy 30 (0, 0) (heap_alloc2_new _ _ _) ?_)
    | (refine wpList_eqA rfl 28 _ _ 28 rfl (keyA xs) (keyA ys) rfl rfl guard28 (xs == ys) (eq28 xs ys hx hy) ?_))
  go_ret
  exact ⟨rfl, ((Below.refl _ _).alloc (Nat.le_refl _) _).alloc (by simp) _⟩

def wantF (r : Bool) (c : Int) (xs : List UInt8) (r' : Bool) (c' : Int) (ys : List UInt8) : Nat :=
  if xs == ys then 0 else if r && r' && (c != c') then 2 else 1

set_option maxHeartbeats 400000 in
theorem f7_any (r r' : Bool) (c c' : Int) (xs ys : List UInt8) (hx : xs.length = 32) (hy : ys.length = 32) (w : World) :
    Calls Try.prog 7 #[.bool r, .int .u8 c, .agg (keyA xs), .bool r', .int .u8 c', .agg (keyA ys)] w fun e w' => e = .returned (.int .i64 (wantF r c xs r' c' ys)) ∧ Below w.heap.size w w' := by
  go_enter Try.func7, Try.ntmps7
  go_wp2_with (first
    | (refine wpList_load_arr rfl _ rfl w.heap.size rfl xs hx 22 (0, 0) (heap_alloc2_old _ _ _) ?_)
    | (refine wpList_load_arr rfl _ rfl (w.heap.size + 1) rfl ys hy 22 (0, 0) (heap_alloc2_new _ _ _) ?_)
    | (refine wpList_eqA rfl 22 _ _ 22 rfl (keyA xs) (keyA ys) rfl rfl guard22 (xs == ys) (eq22 xs ys hx hy) ?_))
  all_goals go_ret
  all_goals refine ⟨?_, ((Below.refl _ _).alloc (Nat.le_refl _) _).alloc (by simp) _⟩
  all_goals simp_all [wantF]

theorem f11_zero (w : World) : Calls Try.prog 11 #[.int .i64 0] w fun e w' => e = .returned (.int .i64 1) ∧ w' = w := by
  go_enter Try.func11, Try.ntmps11
  go_wp2
  go_ret
  exact ⟨rfl, rfl⟩
theorem f11_one (w : World) : Calls Try.prog 11 #[.int .i64 1] w fun e w' => e = .returned (.int .i64 2) ∧ w' = w := by
  go_enter Try.func11, Try.ntmps11
  go_wp2
  go_ret
  exact ⟨rfl, rfl⟩

set_option maxHeartbeats 1000000 in
theorem f4_any (a b : ByteArray) (r : Bool) (c : Int) (xs : List UInt8) (a' b' : ByteArray) (r' : Bool) (c' : Int) (ys : List UInt8) (w : World) :
    Calls Try.prog 4 #[.string a, .string b, .bool r, .int .u8 c, .agg (keyA xs), .string a', .string b', .bool r', .int .u8 c', .agg (keyA ys)] w fun e w' => (∃ q, e = .returned (.bool q)) ∧ Below w.heap.size w w' := by
  go_enter Try.func4, Try.ntmps4
  go_wp2
  all_goals go_ret
  all_goals exact ⟨⟨_, rfl⟩, ((Below.refl _ _).alloc (Nat.le_refl _) _).alloc (by simp) _⟩

end Go.Proofs.Qxb6613354a
