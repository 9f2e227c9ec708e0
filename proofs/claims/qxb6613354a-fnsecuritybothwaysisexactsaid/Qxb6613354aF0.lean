import Derived.Test.Qxb6613354aF
namespace Go.Proofs.Qxb6613354a
open Go.ChangeShapes Go.WideShapes Go.ChangeAt Go.RowKit
open Go.Extern.Stop (cell)

set_option maxHeartbeats 4000000 in
theorem f3_0 (a b : ByteArray) (r : Bool) (c : Int) (xs : List UInt8) (a' b' : ByteArray) (r' : Bool) (c' : Int) (ys : List UInt8) (hx : xs.length = 32) (hy : ys.length = 32) (hn : wantF r c xs r' c' ys = 0)
    (l1 : (a.size : Int) ≤ 4096) (l2 : (b.size : Int) ≤ 4096) (l3 : (a'.size : Int) ≤ 4096) (l4 : (b'.size : Int) ≤ 4096) (w : World) :
    Calls Try.prog 3 #[.string a, .string b, .bool r, .int .u8 c, .agg (keyA xs), .string a', .string b', .bool r', .int .u8 c', .agg (keyA ys)] w fun e w' => e = .returned (.bool true) ∧ Below w.heap.size w w' := by
  have HI1 : Hid ((Try.prog.info? 34).map (·.size) = some (opA a b r c xs).size) := by rw [Hid, opA_size a b r c hx]; exact size34
  have HI2 : Hid ((Try.prog.info? 34).map (·.size) = some (opA a' b' r' c' ys).size) := by rw [Hid, opA_size a' b' r' c' hy]; exact size34
  have HO1 : Hid ((opA ByteArray.empty ByteArray.empty false 0 zeroKey).size = (opA a b r c xs).size) := by rw [Hid, opA_size a b r c hx, opA_size _ _ false 0 zeroKey_length]
  have HO2 : Hid ((opA ByteArray.empty ByteArray.empty false 0 zeroKey).size = (opA a' b' r' c' ys).size) := by rw [Hid, opA_size a' b' r' c' hy, opA_size _ _ false 0 zeroKey_length]
  have HN : Hid _ := hn
  have HM : Hid (wantF r' c' ys r c xs = 0) := (wantF_comm r r' c c' xs ys).trans hn
  have hf7 := f7_any r r' c c' xs ys hx hy
  rw [hn] at hf7
  have HF7 : Hid _ := hf7
  clear hn hf7
  go_enter Try.func3, Try.ntmps3
  go_wp2_with (first
    | (refine wpList_load_arr rfl _ rfl w.heap.size rfl xs hx 22 (0, 0) (heap_alloc2_old _ _ _) ?_)
    | (refine wpList_load_arr rfl _ rfl (w.heap.size + 1) rfl ys hy 22 (0, 0) (heap_alloc2_new _ _ _) ?_))
  refine (f4_any a b r c xs a' b' r' c' ys _).mono ?_
  rintro e w1 ⟨⟨q, rfl⟩, hb⟩
  have HB1 : Hid (Below w.heap.size w w1) := (((Below.refl _ _).alloc (Nat.le_refl _) _).alloc (by simp) _).trans (hb.mono (by simp; omega))
  have HA1 : Hid (w1.heap[w.heap.size]? = some (.cells (keyA xs) 22 (0, 0))) := (hb.block _ (by simp; omega)).trans (heap_alloc2_old _ _ _)
  have HK1 : Hid (w1.heap[w.heap.size + 1]? = some (.cells (keyA ys) 22 (0, 0))) := (hb.block _ (by simp)).trans (heap_alloc2_new _ _ _)
  have HS1 : w.heap.size + 1 < w1.heap.size := by have := hb.size; simp at this; omega
  clear hb
  cases q
  · go_wp2
    go_ret
    exact ⟨rfl, HB1.out⟩
  go_wp2_with (refine wpList_load_arr rfl _ rfl w.heap.size rfl xs hx 22 (0, 0) HA1.out ?_)
  refine (f5_any a b r c xs hx w1).mono ?_
  rintro e w2 ⟨rfl, hb⟩
  have HB2 : Hid (Below w.heap.size w w2) := HB1.out.trans (hb.mono (by omega))
  have HA2 : Hid (w2.heap[w.heap.size]? = some (.cells (keyA xs) 22 (0, 0))) := (hb.block _ (by omega)).trans HA1.out
  have HK2 : Hid (w2.heap[w.heap.size + 1]? = some (.cells (keyA ys) 22 (0, 0))) := (hb.block _ (by omega)).trans HK1.out
  have HS2 : w.heap.size + 1 < w2.heap.size := by have := hb.size; omega
  clear hb HB1 HA1 HK1 HS1
  go_wp2_with (first
    | (refine wpList_alloc_agg rfl 34 rfl _ zero34 ?_)
    | (refine wpList_store_new rfl 34 _ _ rfl (opA a b r c xs) rfl rfl 34 (opA ByteArray.empty ByteArray.empty false 0 zeroKey) HI1.out HO1.out (opA_one a b r c xs) ?_)
    | (refine wpList_load_arr rfl _ rfl (w.heap.size + 1) rfl ys hy 22 (0, 0) ((Below.heap_alloc _ _ _ HS2).trans HK2.out) ?_))
  refine (f5_any a' b' r' c' ys hy _).mono ?_
  rintro e w3 ⟨rfl, hb⟩
  have HB3 : Hid (Below w.heap.size w w3) := (HB2.out.alloc (by omega) _).trans (hb.mono (by simp; omega))
  have HA3 : Hid (w3.heap[w.heap.size]? = some (.cells (keyA xs) 22 (0, 0))) := (hb.block _ (by simp; omega)).trans ((Below.heap_alloc _ _ _ (by omega)).trans HA2.out)
  have HK3 : Hid (w3.heap[w.heap.size + 1]? = some (.cells (keyA ys) 22 (0, 0))) := (hb.block _ (by simp; omega)).trans ((Below.heap_alloc _ _ _ (by omega)).trans HK2.out)
  have HP3 : Hid (w3.heap[w2.heap.size]? = some (.cells (opA a b r c xs) 34 (0, 0))) := (hb.block _ (by simp)).trans (heap_alloc_new _ _)
  have HS3 : w2.heap.size < w3.heap.size := by have := hb.size; simp at this; omega
  clear hb HB2 HA2 HK2
  generalize w2.heap.size = b1 at *
  go_wp2_with (first
    | (refine wpList_alloc_agg rfl 34 rfl _ zero34 ?_)
    | (refine wpList_store_new rfl 34 _ _ rfl (opA a' b' r' c' ys) rfl rfl 34 (opA ByteArray.empty ByteArray.empty false 0 zeroKey) HI2.out HO2.out (opA_one a' b' r' c' ys) ?_)
    | (refine wpList_load_op rfl _ rfl b1 rfl a b r c xs hx 34 (0, 0) ((Below.heap_alloc _ _ _ HS3).trans HP3.out) ?_)
    | (refine wpList_load_op rfl _ rfl w3.heap.size rfl a' b' r' c' ys hy 34 (0, 0) (heap_alloc_new _ _) ?_))
  refine (f6_0 a b a' b' r r' c c' xs ys hx hy HN.out _).mono ?_
  rintro e w5 ⟨rfl, hb⟩
  have HB5 : Hid (Below w.heap.size w w5) := (HB3.out.alloc (by omega) _).trans (hb.mono (by simp; omega))
  have HA5 : Hid (w5.heap[w.heap.size]? = some (.cells (keyA xs) 22 (0, 0))) := (hb.block _ (by simp; omega)).trans ((Below.heap_alloc _ _ _ (by omega)).trans HA3.out)
  have HK5 : Hid (w5.heap[w.heap.size + 1]? = some (.cells (keyA ys) 22 (0, 0))) := (hb.block _ (by simp; omega)).trans ((Below.heap_alloc _ _ _ (by omega)).trans HK3.out)
  have HP5 : Hid (w5.heap[b1]? = some (.cells (opA a b r c xs) 34 (0, 0))) := (hb.block _ (by simp; omega)).trans ((Below.heap_alloc _ _ _ (by omega)).trans HP3.out)
  have HQ5 : Hid (w5.heap[w3.heap.size]? = some (.cells (opA a' b' r' c' ys) 34 (0, 0))) := (hb.block _ (by simp)).trans (heap_alloc_new _ _)
  have HS5 : w3.heap.size < w5.heap.size := by have := hb.size; simp at this; omega
  clear hb HB3 HA3 HK3 HP3
  generalize w3.heap.size = b2 at *
  go_wp2_with (first
    | (refine wpList_load_op rfl _ rfl b1 rfl a b r c xs hx 34 (0, 0) HP5.out ?_)
    | (refine wpList_load_op rfl _ rfl b2 rfl a' b' r' c' ys hy 34 (0, 0) HQ5.out ?_))
  refine (f6_0 a' b' a b r' r c' c ys xs hy hx HM.out _).mono ?_
  rintro e w6 ⟨rfl, hb⟩
  have HB6 : Hid (Below w.heap.size w w6) := HB5.out.trans (hb.mono (by omega))
  have HA6 : Hid (w6.heap[w.heap.size]? = some (.cells (keyA xs) 22 (0, 0))) := (hb.block _ (by omega)).trans HA5.out
  have HK6 : Hid (w6.heap[w.heap.size + 1]? = some (.cells (keyA ys) 22 (0, 0))) := (hb.block _ (by omega)).trans HK5.out
  clear hb HB5 HA5 HK5 HP5 HQ5
  go_wp2_with fail
  refine wp_loop_rounds 1 ?_
  rw [rounds_succ]
  go_wp2_with (first
    | (refine wpList_load_arr rfl _ rfl w.heap.size rfl xs hx 22 (0, 0) HA6.out ?_)
    | (refine wpList_load_arr rfl _ rfl (w.heap.size + 1) rfl ys hy 22 (0, 0) HK6.out ?_))
  refine (HF7.out _).mono ?_
  rintro e w7 ⟨rfl, hb⟩
  have HB7 : Hid (Below w.heap.size w w7) := HB6.out.trans (hb.mono (by have := HB6.out.size; omega))
  clear hb HB6 HA6 HK6
  go_wp2_with fail
  refine (f8_nil a' b' _).mono ?_
  rintro e w8 ⟨rfl, hb⟩
  have HB8 : Hid (Below w.heap.size w w8) := HB7.out.trans (hb.mono HB7.out.size)
  clear hb HB7
  go_wp2_with fail
  refine (f8_nil a b _).mono ?_
  rintro e w9 ⟨rfl, hb⟩
  have HB9 : Hid (Below w.heap.size w w9) := HB8.out.trans (hb.mono HB8.out.size)
  clear hb HB8
  go_wp2_with fail
  go_ret
  exact ⟨rfl, HB9.out⟩
end Go.Proofs.Qxb6613354a
