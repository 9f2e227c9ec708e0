import Derived.Test.Qxb6613439aC
namespace Go.Proofs.Qxb6613439a
open Go.ChangeShapes Go.WideShapes Go.ChangeAt Go.RowKit

theorem Bytes.alloc {w : World} {data : Value} {zs : List Int} (h : Bytes w data zs) (o : Obj) : Bytes (w.alloc o) data zs := by
  rcases h with h | ⟨g, h1, h2⟩
  · exact .inl h
  · exact .inr ⟨g, h1, fun j hj => by rw [World.cell?_alloc_past _ _ _ (block_lt_of_cell (h2 j hj))]; exact h2 j hj⟩
theorem Bytes.grown {w w' : World} {data err : Value} {zs : List Int} {d a : Nat} {t : TypeId} (h : Bytes w data zs) (hd : w.heap[d]? = some (.cells (decA data a err) t (0, 0))) (hg : w.grownBy w' (some d)) : Bytes w' data zs := by
  rcases h with h | ⟨g, h1, h2⟩
  · exact .inl h
  · refine .inr ⟨g, h1, fun j hj => ?_⟩
    refine hg.cell (h2 j hj) ?_
    intro e
    have e' : g = d := by simpa using e
    subst e'
    have c0 := (cells_dec hd).1
    rw [h2 0 (by omega), h1] at c0
    cases c0

/-- The early returns. -/
theorem f3_long (a : Option Addr) (len cap : Nat) (i j : Int) (w : World) (hl : (1048576 : Int) < (len : Int)) :
    Calls Try.prog 3 #[.slice a len cap, .int .i64 i, .int .i64 j] w fun e w' => e = .returned (.bool true) ∧ Below w.heap.size w w' := by
  go_enter Try.func3, Try.ntmps3
  go_wp2_with fail
  refine (f4_long a len cap i j w hl).mono ?_
  rintro e w' ⟨rfl, rfl⟩
  go_wp2
  go_ret
  exact ⟨rfl, Below.refl _ _⟩
theorem f3_out (a : Option Addr) (len cap : Nat) (i j : Int) (w : World) (hl : (len : Int) ≤ 1048576) (ho : i < 0 ∨ j < i ∨ (len : Int) < j) :
    Calls Try.prog 3 #[.slice a len cap, .int .i64 i, .int .i64 j] w fun e w' => e = .returned (.bool true) ∧ Below w.heap.size w w' := by
  go_enter Try.func3, Try.ntmps3
  go_wp2_with fail
  refine (f4_short a len cap i j w hl).mono ?_
  rintro e w' ⟨rfl, rfl⟩
  rcases ho with ho | ho | ho
  all_goals
    go_wp2_with fail
    all_goals go_ret
    all_goals exact ⟨rfl, Below.refl _ _⟩

set_option maxHeartbeats 2000000 in
theorem f3_in (a : Option Addr) (len cap at_ s : Nat) (zs : List Int) (w : World) (hn : zs.length = len) (hl : len ≤ 1048576) (h0 : a = none → len = 0 ∧ cap = 0) (hc : Came w a zs) (has : at_ ≤ s) (hs : s ≤ len) :
    Calls Try.prog 3 #[.slice a len cap, .int .i64 at_, .int .i64 s] w fun e w' => e = .returned (.bool true) ∧ Below w.heap.size w w' := by
  have HC : Hid (Came w a zs) := hc
  have HN : Hid (zs.length = len) := hn
  have H0 : Hid (a = none → len = 0 ∧ cap = 0) := h0
  have d1 : decide (s < at_) = false := decide_eq_false (by omega)
  have d2 : decide (len < s) = false := decide_eq_false (by omega)
  have d3 : decide ((1048576 : Int) < (len : Int)) = false := decide_eq_false (by omega)
  have d4 : decide ((at_ : Int) < 0) = false := decide_eq_false (by omega)
  clear hc hn h0
  go_enter Try.func3, Try.ntmps3
  go_wp2_with fail
  refine (f4_short a len cap at_ s w (by omega)).mono ?_
  rintro e w0 ⟨rfl, hw⟩
  rw [hw]
  clear hw w0
  go_wp2_with fail
  go_loop [7] (fun i => ∃ k : Nat, at_ ≤ k ∧ k ≤ s ∧ i = .int .i64 k ∧ Hid (∀ j, at_ ≤ j → j < k → isSp (zs.getD j 0) = true)) (fun i => s - (intOf i).toNat)
  case atStart => exact ⟨at_, Nat.le_refl _, has, rfl, fun j h1 h2 => by omega⟩
  case round =>
    obtain ⟨k, hak, hks, rfl, HR⟩ := hrel
    by_cases hlt : k < s
    · obtain ⟨b, off, e, hcl⟩ := HC.out.at (by rw [HN.out]; omega)
      have hkl : k < len := by omega
      obtain ⟨q, hqd⟩ : ∃ q, q = zs.getD k 0 := ⟨_, rfl⟩
      have HQD : Hid (q = zs.getD k 0) := hqd
      have hcell : w.cell? ⟨b, off + k, none⟩ = some (.int .u8 q) := by rw [hqd]; exact hcl k (by rw [HN.out]; exact hkl)
      clear hqd hcl HC H0
      subst e
      cases hsp : isSp q
      · have HF : Hid (Calls Try.prog 5 #[.int .u8 q] w fun e w' => e = .returned (.bool false) ∧ w' = w) := by
          have h1 := f5_any q w
          rwa [hsp] at h1
        clear hsp
        go_wp2_with fail
        refine HF.out.mono ?_
        rintro e w' ⟨rfl, hw'⟩
        rw [hw']
        clear hw' w'
        go_wp2
        go_ret
        exact ⟨rfl, Below.refl _ _⟩
      · have HF : Hid (Calls Try.prog 5 #[.int .u8 q] w fun e w' => e = .returned (.bool true) ∧ w' = w) := by
          have h1 := f5_any q w
          rwa [hsp] at h1
        have HK : Hid (∀ j, at_ ≤ j → j < k + 1 → isSp (zs.getD j 0) = true) := by
          intro j h1 h2
          by_cases hjk : j < k
          · exact HR.out j h1 hjk
          · obtain rfl : j = k := by omega
            rw [← HQD.out]; exact hsp
        clear hsp
        go_wp2_with fail
        refine HF.out.mono ?_
        rintro e w' ⟨rfl, hw'⟩
        rw [hw']
        clear hw' w'
        go_wp2
        go_round
        case rel => exact ⟨k + 1, by omega, by omega, by go_num, HK⟩
        case measure => simp [intOf]; omega
    · have hke : k = s := by omega
      subst hke
      go_wp2_with fail
      refine (f6_any a len cap zs w HN.out hl H0.out HC.out).mono ?_
      rintro e w1 ⟨ga, rfl, hby, hb, _⟩
      rw [HN.out] at hby ⊢
      have HB1 : Hid (Below w.heap.size w w1) := hb
      have HY1 : Hid (Bytes w1 (.slice ga len len) zs) := hby
      have HS1 : Hid (w.heap.size ≤ w1.heap.size) := hb.size
      clear hb hby HC H0 d1 d2 d3 d4
      -- the first decoder
      go_wp2_with fail
      refine (f7_any ga len len at_ w1).mono ?_
      rintro e w2 ⟨rfl, rfl⟩
      have HD2 : Hid ((w1.alloc (.cells (decA (.slice ga len len) at_ .nilIface) 35)).heap[w1.heap.size]? = some (.cells (decA (.slice ga len len) at_ .nilIface) 35 (0, 0))) := heap_alloc_new _ _
      have HY2 : Hid (Bytes (w1.alloc (.cells (decA (.slice ga len len) at_ .nilIface) 35)) (.slice ga len len) zs) := HY1.out.alloc _
      have HB2 : Hid (Below w.heap.size w (w1.alloc (.cells (decA (.slice ga len len) at_ .nilIface) 35))) := HB1.out.alloc HS1.out _
      generalize w1.alloc (.cells (decA (.slice ga len len) at_ .nilIface) 35) = w2 at *
      clear HB1 HY1
      generalize w1.heap.size = e1 at *
      go_wp2_with fail
      refine (f8_any e1 at_ (.slice ga len len) zs w2 (by rw [HN.out]; exact hl) (by rw [HN.out]; omega) HY2.out HD2.out).mono ?_
      rintro e w3 ⟨p, hp, rfl, hd, hg⟩
      have HP : Hid (IsPeek zs at_ p) := hp
      have HD3 : Hid (w3.heap[e1]? = some (.cells (decA (.slice ga len len) p .nilIface) 35 (0, 0))) := hd
      have HY3 : Hid (Bytes w3 (.slice ga len len) zs) := HY2.out.grown HD2.out hg
      have HB3 : Hid (Below w.heap.size w w3) := HB2.out.grown hg HB2.out.size (fun k hk => by cases hk; exact HS1.out)
      clear hp hd hg HD2 HY2 HB2 w2
      go_wp2_with fail
      refine (f9_any e1 p (.slice ga len len) .nilIface w3 HD3.out).mono ?_
      rintro e w' ⟨rfl, hw'⟩
      rw [hw']
      clear hw' w'
      -- peek again
      go_wp2_with fail
      refine (f8_any e1 p (.slice ga len len) zs w3 (by rw [HN.out]; exact hl) HP.out.2.1 HY3.out HD3.out).mono ?_
      rintro e w4 ⟨p', hp', rfl, hd, hg⟩
      obtain rfl : p = p' := HP.out.self.uniq hp'
      have HD4 : Hid (w4.heap[e1]? = some (.cells (decA (.slice ga len len) p .nilIface) 35 (0, 0))) := hd
      have HY4 : Hid (Bytes w4 (.slice ga len len) zs) := HY3.out.grown HD3.out hg
      have HB4 : Hid (Below w.heap.size w w4) := HB3.out.grown hg HB3.out.size (fun k hk => by cases hk; exact HS1.out)
      clear hp' hd hg HD3 HY3 HB3
      go_wp2_with fail
      refine (f9_any e1 p (.slice ga len len) .nilIface w4 HD4.out).mono ?_
      rintro e w' ⟨rfl, hw'⟩
      rw [hw']
      clear hw' w'
      -- the second decoder
      go_wp2_with fail
      refine (f7_any ga len len k w4).mono ?_
      rintro e w5 ⟨rfl, rfl⟩
      have he14 : e1 < w4.heap.size := (Array.getElem?_eq_some_iff.1 HD4.out).1
      have HE5 : Hid ((w4.alloc (.cells (decA (.slice ga len len) k .nilIface) 35)).heap[w4.heap.size]? = some (.cells (decA (.slice ga len len) k .nilIface) 35 (0, 0))) := heap_alloc_new _ _
      have HD5 : Hid ((w4.alloc (.cells (decA (.slice ga len len) k .nilIface) 35)).heap[e1]? = some (.cells (decA (.slice ga len len) p .nilIface) 35 (0, 0))) := (Below.heap_alloc _ _ _ he14).trans HD4.out
      have HY5 : Hid (Bytes (w4.alloc (.cells (decA (.slice ga len len) k .nilIface) 35)) (.slice ga len len) zs) := HY4.out.alloc _
      have HB5 : Hid (Below w.heap.size w (w4.alloc (.cells (decA (.slice ga len len) k .nilIface) 35))) := HB4.out.alloc HB4.out.size _
      have HS4 : Hid (w.heap.size ≤ w4.heap.size) := HB4.out.size
      generalize w4.alloc (.cells (decA (.slice ga len len) k .nilIface) 35) = w5 at *
      clear HD4 HY4 HB4
      generalize w4.heap.size = e2 at *
      go_wp2_with fail
      refine (f8_any e2 k (.slice ga len len) zs w5 (by rw [HN.out]; exact hl) (by rw [HN.out]; omega) HY5.out HE5.out).mono ?_
      rintro e w6 ⟨p', hp', rfl, hd, hg⟩
      obtain rfl : p = p' := (HP.out.later has (by rw [HN.out]; exact hs) HR.out).uniq hp'
      have HE6 : Hid (w6.heap[e2]? = some (.cells (decA (.slice ga len len) p .nilIface) 35 (0, 0))) := hd
      have HD6 : Hid (w6.heap[e1]? = some (.cells (decA (.slice ga len len) p .nilIface) 35 (0, 0))) := (hg.block e1 (Array.getElem?_eq_some_iff.1 HD5.out).1 (by simp; omega)).trans HD5.out
      have HY6 : Hid (Bytes w6 (.slice ga len len) zs) := HY5.out.grown HE5.out hg
      have HB6 : Hid (Below w.heap.size w w6) := HB5.out.grown hg HB5.out.size (fun k hk => by cases hk; exact HS4.out)
      clear hp' hd hg HD5 HE5 HY5 HB5 HR
      go_wp2_with fail
      refine (f9_any e2 p (.slice ga len len) .nilIface w6 HE6.out).mono ?_
      rintro e w' ⟨rfl, hw'⟩
      rw [hw']
      clear hw' w'
      -- the answer
      go_wp2_with fail
      refine (f10_any (.slice ga len len) at_ p zs w6 (by rw [HN.out]; exact hl) HP.out HY6.out).mono ?_
      rintro e w' ⟨rfl, hw'⟩
      rw [hw']
      clear hw' w'
      go_wp2_with fail
      refine (f11_nil e1 p (.slice ga len len) w6 HD6.out).mono ?_
      rintro e w' ⟨rfl, hw'⟩
      rw [hw']
      clear hw' w'
      go_wp2_with fail
      refine (f11_nil e2 p (.slice ga len len) w6 HE6.out).mono ?_
      rintro e w' ⟨rfl, hw'⟩
      rw [hw']
      clear hw' w'
      go_wp2_with fail
      go_ret
      exact ⟨rfl, HB6.out⟩
end Go.Proofs.Qxb6613439a
