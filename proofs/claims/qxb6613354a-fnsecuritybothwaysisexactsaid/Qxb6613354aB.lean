import Derived.Test.Qxb6613354aA
namespace Go.Proofs.Qxb6613354a
open Go.ChangeShapes Go.WideShapes Go.ChangeAt Go.RowKit
open Go.Extern.Stop (cell)

theorem below_setRow {B : Nat} {a w : World} (h : Below B a w) (g : Nat) (hg : B ≤ g) (cs : Array Value) : Below B a (w.setRow g cs) :=
  h.trans ⟨rfl, rfl, rfl, by simp, fun k hk => setRow_other w g k cs (by omega)⟩
theorem setRow_alloc (w : World) (g : Nat) (hg : g = w.heap.size) (cs cs' : Array Value) (t : TypeId) : (w.alloc (.cells cs t)).setRow g cs' = w.alloc (.cells cs' t) := by
  subst hg
  unfold World.setRow World.alloc
  congr 1
  apply Array.ext
  · simp
  · intro i h1 h2
    simp only [Array.getElem_modify, Array.getElem_push]
    split
    · rename_i e; subst e; simp
    · split
      · rfl
      · rename_i e1 e2; simp at h2; omega

theorem wpList_build3 {P : Program} {ops : Array Oper} {rest : List Oper} {o : Oper} {a : Act} {w : World} {Q : Exit → Act → World → Prop} (hg : o.guard = none) (t : TypeId) (i0 i1 i2 : Nat) (x0 x1 x2 : Operand)
    (ho : o.op = .build t #[(i0, x0), (i1, x1), (i2, x2)]) (v0 v1 v2 : Value) (h0 : a.eval x0 = v0) (h1 : a.eval x1 = v1) (h2 : a.eval x2 = v2)
    (cells : Array Value) (hf : P.built t [(i0, v0), (i1, v1), (i2, v2)] = some cells)
    (h : wpList P ops Q rest (a.put o.dst (.agg cells)) w) : wpList P ops Q (o :: rest) a w :=
  wpList_buildTo hg t _ ho _ rfl cells (by simp [h0, h1, h2, hf]) h

set_option maxHeartbeats 400000 in
theorem f9_any (r : Bool) (c : Int) (xs : List UInt8) (hx : xs.length = 32) (w : World) :
    Calls Try.prog 9 #[.bool r, .int .u8 c, .agg (keyA xs)] w fun e w' => e = .returned (.agg (secA r c xs)) ∧ Below w.heap.size w w' := by
  have hI22 : (Try.prog.info? 22).map (·.size) = some (keyA xs).size := by rw [keyA_size hx]; exact size22
  have hI30 : (Try.prog.info? 30).map (·.size) = some (secA r c xs).size := by rw [secA_size r c hx]; exact size30
  have hold : (secA false 0 zeroKey).size = (secA r c xs).size := by rw [secA_size r c hx, secA_size false 0 zeroKey_length]
  have HI22 : Hid _ := hI22
  have HI30 : Hid _ := hI30
  have HO : Hid _ := hold
  clear hI22 hI30 hold
  go_enter Try.func9, Try.ntmps9
  go_wp2_with (first
    | (refine wpList_alloc_agg rfl 30 rfl _ zero30 ?_)
    | (refine wpList_load_row rfl 22 _ rfl w.heap.size rfl 22 (keyA xs) (0, 0) _ (heap_alloc2_old _ _ _) Try.underlying22 rfl HI22.out ?_)
    | (refine wpList_build3 rfl 30 0 1 2 _ _ _ rfl _ _ _ rfl rfl rfl (secA r c xs) (built30 r c xs hx) ?_)
    | (refine wpList_store_row rfl 30 _ _ rfl (w.heap.size + 1) (secA r c xs) rfl rfl 30 (secA false 0 zeroKey) (heap_alloc2_new _ _ _) HI30.out HO.out (secA_one r c xs) ?_))
  refine bodyPost_ret (results_cell_row rfl _ _ (w.heap.size + 1) 30 (secA r c xs) (0, 0) _ rfl (setRow_heap _ _ (secA false 0 zeroKey) _ 30 _ (heap_alloc2_new _ _ _)) Try.underlying30 rfl HI30.out) rfl ⟨rfl, ?_⟩
  exact below_setRow (((Below.refl _ _).alloc (Nat.le_refl _) _).alloc (by simp) _) _ (by omega) _

set_option maxHeartbeats 400000 in
theorem f5_any (m p : ByteArray) (r : Bool) (c : Int) (xs : List UInt8) (hx : xs.length = 32) (w : World) :
    Calls Try.prog 5 #[.string m, .string p, .bool r, .int .u8 c, .agg (keyA xs)] w fun e w' => e = .returned (.agg (opA m p r c xs)) ∧ Below w.heap.size w w' := by
  have HI22 : Hid ((Try.prog.info? 22).map (·.size) = some (keyA xs).size) := by rw [Hid, keyA_size hx]; exact size22
  have HI34 : Hid ((Try.prog.info? 34).map (·.size) = some (opA m p r c xs).size) := by rw [Hid, opA_size m p r c hx]; exact size34
  have HO : Hid ((opA ByteArray.empty ByteArray.empty false 0 zeroKey).size = (opA m p r c xs).size) := by rw [Hid, opA_size m p r c hx, opA_size _ _ false 0 zeroKey_length]
  go_enter Try.func5, Try.ntmps5
  go_wp2_with (first
    | (refine wpList_alloc_agg rfl 34 rfl _ zero34 ?_)
    | (refine wpList_load_row rfl 22 _ rfl w.heap.size rfl 22 (keyA xs) (0, 0) _ (heap_alloc2_old _ _ _) Try.underlying22 rfl HI22.out ?_))
  refine (f9_any r c xs hx _).mono ?_
  rintro e w1 ⟨rfl, hb⟩
  have HG : Hid (w1.heap[w.heap.size + 1]? = some (.cells (opA ByteArray.empty ByteArray.empty false 0 zeroKey) 34 (0, 0))) := (hb.block _ (by simp)).trans (heap_alloc2_new _ _ _)
  have HB : Hid (Below w.heap.size w w1) := (((Below.refl _ _).alloc (Nat.le_refl _) _).alloc (by simp) _).trans (hb.mono (by simp; omega))
  clear hb
  go_wp2_with (first
    | (refine wpList_build3 rfl 34 0 1 5 _ _ _ rfl _ _ _ rfl rfl rfl (opA m p r c xs) (built34 m p r c xs hx) ?_)
    | (refine wpList_store_row rfl 34 _ _ rfl (w.heap.size + 1) (opA m p r c xs) rfl rfl 34 (opA ByteArray.empty ByteArray.empty false 0 zeroKey) HG.out HI34.out HO.out (opA_one m p r c xs) ?_))
  refine bodyPost_ret (results_cell_row rfl _ _ (w.heap.size + 1) 34 (opA m p r c xs) (0, 0) _ rfl (setRow_heap _ _ (opA ByteArray.empty ByteArray.empty false 0 zeroKey) _ 34 _ HG.out) Try.underlying34 rfl HI34.out) rfl ⟨rfl, ?_⟩
  exact below_setRow HB.out _ (by omega) _

theorem eq28 (xs ys : List UInt8) (hx : xs.length = 32) (hy : ys.length = 32) (w : World) : (binOp .eql 28 (.agg (keyA xs)) (.agg (keyA ys))).run Try.prog w = .ok (.bool (xs == ys)) w :=
  run_eql_bytes w 28 5 32 Try.underlying28 Try.underlying5 (fun _ => by kernel_rfl) xs ys hx hy
theorem eq22 (xs ys : List UInt8) (hx : xs.length = 32) (hy : ys.length = 32) (w : World) : (binOp .eql 22 (.agg (keyA xs)) (.agg (keyA ys))).run Try.prog w = .ok (.bool (xs == ys)) w :=
  run_eql_bytes w 22 5 32 Try.underlying22 Try.underlying5 (fun _ => by kernel_rfl) xs ys hx hy
theorem wpList_eqA {P : Program} {ops : Array Oper} {rest : List Oper} {o : Oper} {a : Act} {w : World} {Q : Exit → Act → World → Prop} (hg : o.guard = none) (t : TypeId) (x y : Operand) (u : TypeId)
    (ho : o.op = .binOp .eql t x y u) (cs ds : Array Value) (hx : a.eval x = .agg cs) (hy : a.eval y = .agg ds) (hm : P.eqGuardType P.depth t = false) (b : Bool) (hb : ∀ w, (Go.binOp .eql t (.agg cs) (.agg ds)).run P w = .ok (.bool b) w)
    (h : wpList P ops Q rest (a.put o.dst (.bool b)) w) : wpList P ops Q (o :: rest) a w :=
  wpList_plain hg fun K hK => by
    unfold Oper.wp execOp
    simp only [ho, hx, hy, Sem.run_bind, run_eqGuard_agg w .eql t x y cs ds hm, Result.andThen_ok, hb]
    exact hK _ _ h
end Go.Proofs.Qxb6613354a
