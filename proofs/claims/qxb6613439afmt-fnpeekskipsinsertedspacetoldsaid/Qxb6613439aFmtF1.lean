import Derived.Test.Qxb6613439aFmtE
namespace Go.Proofs.Qxb6613439aFmt
open Go.ChangeShapes Go.WideShapes Go.ChangeAt Go.RowKit
open Go.Extern.Stop Go.Stop Go.Extern

set_option maxHeartbeats 4000000 in
theorem f3_true (F : Interp) (a b : Option Addr) (len cap m cap2 at_ : Nat) (zs ws : List Int) (w : World) (hF : F.answers w.tape) (hn : zs.length = len) (hm : ws.length = m) (hl : (len : Int) + (m : Int) ≤ 1048576) (h0 : a = none → len = 0 ∧ cap = 0) (hc : Came w a zs)
    (k0 : b = none → m = 0 ∧ cap2 = 0) (kc : Came w b ws) (hat : at_ ≤ len) :
    Calls Tryf.prog 3 #[.slice a len cap, .int .i64 at_, .slice b m cap2, .bool true] w fun e w' => e = .returned (.bool true) ∧ Below w.heap.size w w' := by
  have HF : Hid (F.answers w.tape) := hF
  clear hF
  have HC : Hid (Came w a zs) := hc
  have HN : Hid (zs.length = len) := hn
  have H0 : Hid (a = none → len = 0 ∧ cap = 0) := h0
  have KC : Hid (Came w b ws) := kc
  have HM : Hid (ws.length = m) := hm
  have K0 : Hid (b = none → m = 0 ∧ cap2 = 0) := k0
  have d1 : decide ((1048576 : Int) < (len : Int)) = false := decide_eq_false (by omega)
  have d2 : decide (len < at_) = false := decide_eq_false (by omega)
  have d3 : decide ((at_ : Int) < 0) = false := decide_eq_false (by omega)
  have d4 : decide ((1048576 : Int) - (len : Int) < (m : Int)) = false := decide_eq_false (by omega)
  clear hc hn h0 kc hm k0
  go_enter Tryf.func3, Tryf.ntmps3
  go_wp2_with fail
  refine (f4_short a b len cap m cap2 at_ true w (by omega) (by omega) hl).mono ?_
  rintro e w0 ⟨rfl, hw⟩
  rw [hw]
  clear hw w0
  go_wp2_with fail
  go_loop [9] (fun i => ∃ k : Nat, k ≤ m ∧ i = .int .i64 k ∧ Hid (∀ j, j < k → isSp (ws.getD j 0) = true)) (fun i => m - (intOf i).toNat)
  case atStart => exact ⟨0, Nat.zero_le _, rfl, fun j h1 => by omega⟩
  case round =>
    obtain ⟨k, hkm, rfl, HR⟩ := hrel
    by_cases hlt : k < m
    · obtain ⟨bb, off, e, hcl⟩ := KC.out.at (by rw [HM.out]; omega)
      obtain ⟨q, hqd⟩ : ∃ q, q = ws.getD k 0 := ⟨_, rfl⟩
      have HQD : Hid (q = ws.getD k 0) := hqd
      have hcell : w.cell? ⟨bb, off + k, none⟩ = some (.int .u8 q) := by rw [hqd]; exact hcl k (by rw [HM.out]; exact hlt)
      clear hqd hcl HC H0 KC K0
      subst e
      cases hsp : isSp q
      · have HFc : Hid (Calls Tryf.prog 5 #[.int .u8 q] w fun e w' => e = .returned (.bool false) ∧ w' = w) := by
          have h1 := f5_any q w
          rwa [hsp] at h1
        clear hsp
        go_wp2_with fail
        refine HFc.out.mono ?_
        rintro e w' ⟨rfl, hw'⟩
        rw [hw']
        clear hw' w'
        go_wp2
        go_ret
        exact ⟨rfl, Below.refl _ _⟩
      · have HFc : Hid (Calls Tryf.prog 5 #[.int .u8 q] w fun e w' => e = .returned (.bool true) ∧ w' = w) := by
          have h1 := f5_any q w
          rwa [hsp] at h1
        have HK : Hid (∀ j, j < k + 1 → isSp (ws.getD j 0) = true) := by
          intro j h2
          by_cases hjk : j < k
          · exact HR.out j hjk
          · obtain rfl : j = k := by omega
            rw [← HQD.out]; exact hsp
        clear hsp
        go_wp2_with fail
        refine HFc.out.mono ?_
        rintro e w' ⟨rfl, hw'⟩
        rw [hw']
        clear hw' w'
        go_wp2
        go_round
        case rel => exact ⟨k + 1, by omega, by go_num, HK⟩
        case measure => simp [intOf]; omega
    · have hke : k = m := by omega
      subst hke
      go_wp2_with fail
      refine (f6_any a len cap zs w HN.out (by omega) H0.out HC.out).mono ?_
      rintro e w1 ⟨ga, rfl, hby, hb, hgb⟩
      rw [HN.out] at hby ⊢
      have HB1 : Hid (Below w.heap.size w w1) := hb
      have HY1 : Hid (Bytes w1 (.slice ga len len) zs) := hby
      have HG1 : Hid (∀ g, ga = some g → w.heap.size ≤ g.block ∧ g.block < w1.heap.size) := hgb
      have hs1 : w.heap.size ≤ w1.heap.size := hb.size
      clear hb hby hgb HC H0 d1 d2 d3 d4
      obtain ⟨i0, hi, hz0, hz1, hz2⟩ := info_parts info5
      have HI : Hid (Tryf.prog.info? 5 = some i0) := hi
      have HZ0 : Hid (i0.zero = some (.int .u8 0)) := hz0
      have HZ1 : Hid (i0.size = 1) := hz1
      have HZ2 : Hid (i0.bytes = 1) := hz2
      clear hi hz0 hz1 hz2
      go_wp2_with (at_make; refine wpList_make_own _ rfl _ _ 22 rfl w1.heap.size 5 i0 _ 1 Tryf.underlying22 HI.out HZ0.out HZ1.out .i64 .i64 _ (len + k) rfl rfl (by omega) (by rw [HZ2.out]; omega) (by unfold maxLen; omega) (Nat.le_refl _) ?_)
      intro w2 hown hgrow
      have HO2 : Hid (w2.ownsRow w1.heap.size 5 1 (.slice (some ⟨w1.heap.size, 0, none⟩) 0 (len + k)) 0 []) := hown
      have HB2 : Hid (Below w.heap.size w w2) := HB1.out.grown hgrow hs1 (fun k hk => by cases hk)
      have HY2 : Hid (Bytes w2 (.slice ga len len) zs) := HY1.out.none_ hgrow
      clear hown hgrow HB1 HY1
      rcases bytes_shape HY2.out HN.out with ⟨rfl, rfl, rfl⟩ | ⟨g, rfl, hz⟩
      · obtain rfl : at_ = 0 := by omega
        go_wp2_with (at_builtin; refine wpList_append_fits_any _ rfl (.tmp 61) (.tmp 64) 22 rfl w1.heap.size 5 i0 1 Tryf.underlying22 HI.out HZ1.out w1.heap.size 0 _ [] rfl HO2.out none 0 0 [] rfl rfl (fun _ => ⟨rfl, rfl⟩) (fun _ h => by cases h) (fun u hu => by cases hu) (by omega) ?_)
        intro w3 hown hgrow
        try simp only [Nat.zero_add, Nat.add_zero, List.nil_append] at hown
        have HO3 : Hid (w3.ownsRow w1.heap.size 5 1 (.slice (some ⟨w1.heap.size, 0, none⟩) 0 k) 0 []) := hown
        have HB3 : Hid (Below w.heap.size w w3) := HB2.out.grown hgrow HB2.out.size (fun k hk => by cases hk; exact hs1)
        clear hown hgrow HO2 HB2 HY2
        go_wp2_with (at_builtin; refine wpList_append_fits_any _ rfl (.tmp 66) (.tmp 67) 22 rfl w1.heap.size 5 i0 1 Tryf.underlying22 HI.out HZ1.out w1.heap.size 0 k _ rfl HO3.out b k cap2 (mids ws) rfl (mids_length ws HM.out) K0.out (src_came (came_below KC.out HB3.out)) (mids_one ws) (by omega) ?_)
        intro w4 hown hgrow
        try simp only [Nat.zero_add, List.nil_append] at hown
        have HO4 : Hid (w4.ownsRow w1.heap.size 5 1 (.slice (some ⟨w1.heap.size, 0, none⟩) k k) k (mids ws)) := hown
        have HB4 : Hid (Below w.heap.size w w4) := HB3.out.grown hgrow HB3.out.size (fun k hk => by cases hk; exact hs1)
        clear hown hgrow HO3 HB3 KC K0
        go_wp2_with (at_builtin; refine wpList_append_fits_any _ rfl (.tmp 69) (.tmp 72) 22 rfl w1.heap.size 5 i0 1 Tryf.underlying22 HI.out HZ1.out w1.heap.size k k _ rfl HO4.out none 0 0 [] rfl rfl (fun _ => ⟨rfl, rfl⟩) (fun _ h => by cases h) (fun u hu => by cases hu) (by omega) ?_)
        intro w5 hown hgrow
        try simp only [Nat.add_zero, List.append_nil] at hown ⊢
        have HY5 : Hid (Bytes w5 (.slice none 0 0) []) := .inl ⟨rfl, rfl⟩
        have HW5 : Hid (Bytes w5 (.slice (some ⟨w1.heap.size, 0, none⟩) k k) (insAt [] ws 0)) := made_bytes (B := w1.heap.size) (Nat.le_refl _) (by simp [HM.out]) (by simpa [front, back] using hown)
        have HB5 : Hid (Below w.heap.size w w5) := HB4.out.grown hgrow HB4.out.size (fun k hk => by cases hk; exact hs1)
        have own_lt : w1.heap.size < w5.heap.size := (hown.lt _ rfl).2
        clear hown hgrow HO4 HB4
        have hg25 : w1.heap.size < w5.heap.size := own_lt
        have hg2w : w.heap.size ≤ w1.heap.size := hs1
        generalize w1.heap.size = g2 at *
        go_wp2_with fail
        refine (f7_any none 0 0 0 w5).mono ?_
        rintro e w6 ⟨rfl, rfl⟩
        have he5 : Hid (w.heap.size ≤ w5.heap.size) := HB5.out.size
        have HD6 : Hid ((w5.alloc (.cells (decA (.slice none 0 0) 0 .nilIface) 36)).heap[w5.heap.size]? = some (.cells (decA (.slice none 0 0) 0 .nilIface) 36 (0, 0))) := heap_alloc_new _ _
        have HY6 : Hid (Bytes (w5.alloc (.cells (decA (.slice none 0 0) 0 .nilIface) 36)) (.slice none 0 0) []) := HY5.out.alloc _
        have HW6 : Hid (Bytes (w5.alloc (.cells (decA (.slice none 0 0) 0 .nilIface) 36)) (.slice (some ⟨g2, 0, none⟩) k k) (insAt [] ws 0)) := HW5.out.alloc _
        have HB6 : Hid (Below w.heap.size w (w5.alloc (.cells (decA (.slice none 0 0) 0 .nilIface) 36))) := HB5.out.alloc HB5.out.size _
        generalize w5.alloc (.cells (decA (.slice none 0 0) 0 .nilIface) 36) = w6 at *
        clear HY5 HW5 HB5
        generalize w5.heap.size = e1 at *
        go_wp2_with fail
        refine (f8_fail F e1 0 (.slice none 0 0) w6 (by rw [HB6.out.tape]; exact HF.out) HD6.out).mono ?_
        rintro e w7 ⟨rfl, pv, hd, hg⟩
        have HD7 : Hid (w7.heap[e1]? = some (.cells (decA (.slice none 0 0) 0 (.iface 43 pv)) 36 (0, 0))) := hd
        have HB7 : Hid (Below w.heap.size w w7) := HB6.out.grown hg HB6.out.size (fun k hk => by cases hk; exact he5.out)
        clear hd hg HD6 HY6 HW6 HB6 w6
        go_wp2_with fail
        refine (f9_err e1 0 (.slice none 0 0) pv w7 HD7.out).mono ?_
        rintro e w' ⟨rfl, nq, hw'⟩
        have HD8 : Hid (w'.heap[e1]? = some (.cells (decA (.slice none 0 0) 0 (.iface 43 pv)) 36 (0, 0))) := by rw [hw']; exact HD7.out
        have HB8 : Hid (Below w.heap.size w w') := by rw [hw']; exact below_drewN HB7.out nq
        clear hw' HD7 HB7 w7
        go_wp2_with fail
        refine (f9_any e1 0 (.slice none 0 0) (.iface 43 pv) w' HD8.out).mono ?_
        rintro e w7 ⟨rfl, hw'⟩
        rw [hw']
        clear hw' w7
        go_wp2_with fail
        refine (f7_any (some ⟨g2, 0, none⟩) k k 0 w').mono ?_
        rintro e w9 ⟨rfl, rfl⟩
        have he17 : e1 < w'.heap.size := (Array.getElem?_eq_some_iff.1 HD8.out).1
        have he7 : Hid (w.heap.size ≤ w'.heap.size) := HB8.out.size
        have HE9 : Hid ((w'.alloc (.cells (decA (.slice (some ⟨g2, 0, none⟩) k k) 0 .nilIface) 36)).heap[w'.heap.size]? = some (.cells (decA (.slice (some ⟨g2, 0, none⟩) k k) 0 .nilIface) 36 (0, 0))) := heap_alloc_new _ _
        have HD9 : Hid ((w'.alloc (.cells (decA (.slice (some ⟨g2, 0, none⟩) k k) 0 .nilIface) 36)).heap[e1]? = some (.cells (decA (.slice none 0 0) 0 (.iface 43 pv)) 36 (0, 0))) := (Below.heap_alloc _ _ _ he17).trans HD8.out
        have HB9 : Hid (Below w.heap.size w (w'.alloc (.cells (decA (.slice (some ⟨g2, 0, none⟩) k k) 0 .nilIface) 36))) := HB8.out.alloc HB8.out.size _
        generalize w'.alloc (.cells (decA (.slice (some ⟨g2, 0, none⟩) k k) 0 .nilIface) 36) = w9 at *
        clear HD8 HB8
        generalize w'.heap.size = e2 at *
        go_wp2_with fail
        refine (f8_fail F e2 0 (.slice (some ⟨g2, 0, none⟩) k k) w9 (by rw [HB9.out.tape]; exact HF.out) HE9.out).mono ?_
        rintro e w10 ⟨rfl, pv2, hd, hg⟩
        have HE10 : Hid (w10.heap[e2]? = some (.cells (decA (.slice (some ⟨g2, 0, none⟩) k k) 0 (.iface 43 pv2)) 36 (0, 0))) := hd
        have HD10 : Hid (w10.heap[e1]? = some (.cells (decA (.slice none 0 0) 0 (.iface 43 pv)) 36 (0, 0))) := (hg.block e1 (Array.getElem?_eq_some_iff.1 HD9.out).1 (by simp; omega)).trans HD9.out
        have HB10 : Hid (Below w.heap.size w w10) := HB9.out.grown hg HB9.out.size (fun k hk => by cases hk; exact he7.out)
        clear hd hg HD9 HE9 HB9
        go_wp2_with fail
        refine (f9_err e2 0 (.slice (some ⟨g2, 0, none⟩) k k) pv2 w10 HE10.out).mono ?_
        rintro e w11 ⟨rfl, nq2, hw'⟩
        have HD11 : Hid (w11.heap[e1]? = some (.cells (decA (.slice none 0 0) 0 (.iface 43 pv)) 36 (0, 0))) := by rw [hw']; exact HD10.out
        have HE11 : Hid (w11.heap[e2]? = some (.cells (decA (.slice (some ⟨g2, 0, none⟩) k k) 0 (.iface 43 pv2)) 36 (0, 0))) := by rw [hw']; exact HE10.out
        have HB11 : Hid (Below w.heap.size w w11) := by rw [hw']; exact below_drewN HB10.out nq2
        clear hw' HD10 HE10 HB10 w10
        go_wp2_with fail
        refine (f9_any e2 0 (.slice (some ⟨g2, 0, none⟩) k k) (.iface 43 pv2) w11 HE11.out).mono ?_
        rintro e w7 ⟨rfl, hw'⟩
        rw [hw']
        clear hw' w7
        go_wp2_with fail
        refine (f11_err (.slice none 0 0) 0 w11).mono ?_
        rintro e w7 ⟨rfl, hw'⟩
        rw [hw']
        clear hw' w7
        go_wp2_with fail
        refine (f12_err e1 0 (.slice none 0 0) pv w11 HD11.out).mono ?_
        rintro e w7 ⟨rfl, hw'⟩
        rw [hw']
        clear hw' w7
        go_wp2_with fail
        refine (f12_err e2 0 (.slice (some ⟨g2, 0, none⟩) k k) pv2 w11 HE11.out).mono ?_
        rintro e w7 ⟨rfl, hw'⟩
        rw [hw']
        clear hw' w7
        go_wp2_with fail
        go_ret
        exact ⟨rfl, HB11.out⟩
      · by_cases hfull : at_ = len
        · subst hfull
          have HZ : Hid (∀ j, j < at_ → w2.cell? ⟨g, j, none⟩ = some (.int .u8 (zs.getD j 0))) := hz
          have hgl : g < w1.heap.size := (HG1.out _ rfl).2
          have hgw : w.heap.size ≤ g := (HG1.out _ rfl).1
          clear hz
          go_wp2_with (at_builtin; refine wpList_append_fits_any _ rfl (.tmp 61) (.tmp 64) 22 rfl w1.heap.size 5 i0 1 Tryf.underlying22 HI.out HZ1.out w1.heap.size 0 (at_ + k) [] rfl HO2.out (some ⟨g, 0, none⟩) at_ at_ (front zs at_) rfl (front_length zs at_ (by rw [HN.out]; omega)) (fun h => by cases h) (src_take HN.out (by omega) HZ.out) (front_one zs at_) (by omega) ?_)
          intro w3 hown hgrow
          try simp only [Nat.zero_add, List.nil_append] at hown
          have HO3 : Hid (w3.ownsRow w1.heap.size 5 1 (.slice (some ⟨w1.heap.size, 0, none⟩) at_ (at_ + k)) at_ (front zs at_)) := hown
          have HB3 : Hid (Below w.heap.size w w3) := HB2.out.grown hgrow HB2.out.size (fun k hk => by cases hk; exact hs1)
          have HY3 : Hid (Bytes w3 (.slice (some ⟨g, 0, none⟩) at_ at_) zs) := HY2.out.other hgrow (fun g' _ _ e => by first | (cases e; done) | (cases e; omega))
          clear hown hgrow HO2 HB2 HY2 HZ
          go_wp2_with (at_builtin; refine wpList_append_fits_any _ rfl (.tmp 66) (.tmp 67) 22 rfl w1.heap.size 5 i0 1 Tryf.underlying22 HI.out HZ1.out w1.heap.size at_ (at_ + k) _ rfl HO3.out b k cap2 (mids ws) rfl (mids_length ws HM.out) K0.out (src_came (came_below KC.out HB3.out)) (mids_one ws) (by omega) ?_)
          intro w4 hown hgrow
          have HO4 : Hid (w4.ownsRow w1.heap.size 5 1 (.slice (some ⟨w1.heap.size, 0, none⟩) (at_ + k) (at_ + k)) (at_ + k) (front zs at_ ++ mids ws)) := hown
          have HB4 : Hid (Below w.heap.size w w4) := HB3.out.grown hgrow HB3.out.size (fun k hk => by cases hk; exact hs1)
          have HY4 : Hid (Bytes w4 (.slice (some ⟨g, 0, none⟩) at_ at_) zs) := HY3.out.other hgrow (fun g' _ _ e => by first | (cases e; done) | (cases e; omega))
          clear hown hgrow HO3 HB3 HY3 KC K0
          have HZ4 : Hid (∀ j, j < at_ → w4.cell? ⟨g, j, none⟩ = some (.int .u8 (zs.getD j 0))) := by
            rcases bytes_shape HY4.out HN.out with ⟨h, _⟩ | ⟨g', e, hz⟩
            · cases h
            · cases e
              exact hz
          go_wp2_with (at_builtin; refine wpList_append_fits_any _ rfl (.tmp 69) (.tmp 72) 22 rfl w1.heap.size 5 i0 1 Tryf.underlying22 HI.out HZ1.out w1.heap.size (at_ + k) (at_ + k) _ rfl HO4.out (some ⟨g, 0, none⟩) 0 0 [] rfl rfl (fun h => by cases h) (fun _ _ _ _ hu => by cases hu) (fun u hu => by cases hu) (by omega) ?_)
          intro w5 hown hgrow
          try simp only [Nat.add_zero, List.append_nil] at hown
          have HO5 : Hid (w5.ownsRow w1.heap.size 5 1 (.slice (some ⟨w1.heap.size, 0, none⟩) (at_ + k) (at_ + k)) (at_ + k) (front zs at_ ++ mids ws ++ back zs at_)) := by
            rw [back_end zs at_ HN.out, List.append_nil]
            exact hown
          have HY5 : Hid (Bytes w5 (.slice (some ⟨g, 0, none⟩) at_ at_) zs) := HY4.out.other hgrow (fun g' _ _ e => by first | (cases e; done) | (cases e; omega))
          have HW5 : Hid (Bytes w5 (.slice (some ⟨w1.heap.size, 0, none⟩) (at_ + k) (at_ + k)) (insAt zs ws at_)) := made_bytes (by rw [HN.out]; omega) (by rw [HN.out, HM.out]) HO5.out
          have HB5 : Hid (Below w.heap.size w w5) := HB4.out.grown hgrow HB4.out.size (fun k hk => by cases hk; exact hs1)
          have own_lt : w1.heap.size < w5.heap.size := (HO5.out.lt _ rfl).2
          clear hown hgrow HO4 HB4 HY4 HZ4 HO5
          have hg25 : w1.heap.size < w5.heap.size := own_lt
          have hg2w : w.heap.size ≤ w1.heap.size := hs1
          generalize w1.heap.size = g2 at *
          go_wp2_with fail
          refine (f7_any (some ⟨g, 0, none⟩) at_ at_ at_ w5).mono ?_
          rintro e w6 ⟨rfl, rfl⟩
          have he5 : Hid (w.heap.size ≤ w5.heap.size) := HB5.out.size
          have HD6 : Hid ((w5.alloc (.cells (decA (.slice (some ⟨g, 0, none⟩) at_ at_) at_ .nilIface) 36)).heap[w5.heap.size]? = some (.cells (decA (.slice (some ⟨g, 0, none⟩) at_ at_) at_ .nilIface) 36 (0, 0))) := heap_alloc_new _ _
          have HY6 : Hid (Bytes (w5.alloc (.cells (decA (.slice (some ⟨g, 0, none⟩) at_ at_) at_ .nilIface) 36)) (.slice (some ⟨g, 0, none⟩) at_ at_) zs) := HY5.out.alloc _
          have HW6 : Hid (Bytes (w5.alloc (.cells (decA (.slice (some ⟨g, 0, none⟩) at_ at_) at_ .nilIface) 36)) (.slice (some ⟨g2, 0, none⟩) (at_ + k) (at_ + k)) (insAt zs ws at_)) := HW5.out.alloc _
          have HB6 : Hid (Below w.heap.size w (w5.alloc (.cells (decA (.slice (some ⟨g, 0, none⟩) at_ at_) at_ .nilIface) 36))) := HB5.out.alloc HB5.out.size _
          generalize w5.alloc (.cells (decA (.slice (some ⟨g, 0, none⟩) at_ at_) at_ .nilIface) 36) = w6 at *
          clear HY5 HW5 HB5
          generalize w5.heap.size = e1 at *
          go_wp2_with fail
          refine (f8_fail F e1 at_ (.slice (some ⟨g, 0, none⟩) at_ at_) w6 (by rw [HB6.out.tape]; exact HF.out) HD6.out).mono ?_
          rintro e w7 ⟨rfl, pv, hd, hg⟩
          have HD7 : Hid (w7.heap[e1]? = some (.cells (decA (.slice (some ⟨g, 0, none⟩) at_ at_) at_ (.iface 43 pv)) 36 (0, 0))) := hd
          have HB7 : Hid (Below w.heap.size w w7) := HB6.out.grown hg HB6.out.size (fun k hk => by cases hk; exact he5.out)
          clear hd hg HD6 HY6 HW6 HB6 w6
          go_wp2_with fail
          refine (f9_err e1 at_ (.slice (some ⟨g, 0, none⟩) at_ at_) pv w7 HD7.out).mono ?_
          rintro e w' ⟨rfl, nq, hw'⟩
          have HD8 : Hid (w'.heap[e1]? = some (.cells (decA (.slice (some ⟨g, 0, none⟩) at_ at_) at_ (.iface 43 pv)) 36 (0, 0))) := by rw [hw']; exact HD7.out
          have HB8 : Hid (Below w.heap.size w w') := by rw [hw']; exact below_drewN HB7.out nq
          clear hw' HD7 HB7 w7
          go_wp2_with fail
          refine (f9_any e1 at_ (.slice (some ⟨g, 0, none⟩) at_ at_) (.iface 43 pv) w' HD8.out).mono ?_
          rintro e w7 ⟨rfl, hw'⟩
          rw [hw']
          clear hw' w7
          go_wp2_with fail
          refine (f7_any (some ⟨g2, 0, none⟩) (at_ + k) (at_ + k) at_ w').mono ?_
          rintro e w9 ⟨rfl, rfl⟩
          have he17 : e1 < w'.heap.size := (Array.getElem?_eq_some_iff.1 HD8.out).1
          have he7 : Hid (w.heap.size ≤ w'.heap.size) := HB8.out.size
          have HE9 : Hid ((w'.alloc (.cells (decA (.slice (some ⟨g2, 0, none⟩) (at_ + k) (at_ + k)) at_ .nilIface) 36)).heap[w'.heap.size]? = some (.cells (decA (.slice (some ⟨g2, 0, none⟩) (at_ + k) (at_ + k)) at_ .nilIface) 36 (0, 0))) := heap_alloc_new _ _
          have HD9 : Hid ((w'.alloc (.cells (decA (.slice (some ⟨g2, 0, none⟩) (at_ + k) (at_ + k)) at_ .nilIface) 36)).heap[e1]? = some (.cells (decA (.slice (some ⟨g, 0, none⟩) at_ at_) at_ (.iface 43 pv)) 36 (0, 0))) := (Below.heap_alloc _ _ _ he17).trans HD8.out
          have HB9 : Hid (Below w.heap.size w (w'.alloc (.cells (decA (.slice (some ⟨g2, 0, none⟩) (at_ + k) (at_ + k)) at_ .nilIface) 36))) := HB8.out.alloc HB8.out.size _
          generalize w'.alloc (.cells (decA (.slice (some ⟨g2, 0, none⟩) (at_ + k) (at_ + k)) at_ .nilIface) 36) = w9 at *
          clear HD8 HB8
          generalize w'.heap.size = e2 at *
          go_wp2_with fail
          refine (f8_fail F e2 at_ (.slice (some ⟨g2, 0, none⟩) (at_ + k) (at_ + k)) w9 (by rw [HB9.out.tape]; exact HF.out) HE9.out).mono ?_
          rintro e w10 ⟨rfl, pv2, hd, hg⟩
          have HE10 : Hid (w10.heap[e2]? = some (.cells (decA (.slice (some ⟨g2, 0, none⟩) (at_ + k) (at_ + k)) at_ (.iface 43 pv2)) 36 (0, 0))) := hd
          have HD10 : Hid (w10.heap[e1]? = some (.cells (decA (.slice (some ⟨g, 0, none⟩) at_ at_) at_ (.iface 43 pv)) 36 (0, 0))) := (hg.block e1 (Array.getElem?_eq_some_iff.1 HD9.out).1 (by simp; omega)).trans HD9.out
          have HB10 : Hid (Below w.heap.size w w10) := HB9.out.grown hg HB9.out.size (fun k hk => by cases hk; exact he7.out)
          clear hd hg HD9 HE9 HB9
          go_wp2_with fail
          refine (f9_err e2 at_ (.slice (some ⟨g2, 0, none⟩) (at_ + k) (at_ + k)) pv2 w10 HE10.out).mono ?_
          rintro e w11 ⟨rfl, nq2, hw'⟩
          have HD11 : Hid (w11.heap[e1]? = some (.cells (decA (.slice (some ⟨g, 0, none⟩) at_ at_) at_ (.iface 43 pv)) 36 (0, 0))) := by rw [hw']; exact HD10.out
          have HE11 : Hid (w11.heap[e2]? = some (.cells (decA (.slice (some ⟨g2, 0, none⟩) (at_ + k) (at_ + k)) at_ (.iface 43 pv2)) 36 (0, 0))) := by rw [hw']; exact HE10.out
          have HB11 : Hid (Below w.heap.size w w11) := by rw [hw']; exact below_drewN HB10.out nq2
          clear hw' HD10 HE10 HB10 w10
          go_wp2_with fail
          refine (f9_any e2 at_ (.slice (some ⟨g2, 0, none⟩) (at_ + k) (at_ + k)) (.iface 43 pv2) w11 HE11.out).mono ?_
          rintro e w7 ⟨rfl, hw'⟩
          rw [hw']
          clear hw' w7
          go_wp2_with fail
          refine (f11_err (.slice (some ⟨g, 0, none⟩) at_ at_) at_ w11).mono ?_
          rintro e w7 ⟨rfl, hw'⟩
          rw [hw']
          clear hw' w7
          go_wp2_with fail
          refine (f12_err e1 at_ (.slice (some ⟨g, 0, none⟩) at_ at_) pv w11 HD11.out).mono ?_
          rintro e w7 ⟨rfl, hw'⟩
          rw [hw']
          clear hw' w7
          go_wp2_with fail
          refine (f12_err e2 at_ (.slice (some ⟨g2, 0, none⟩) (at_ + k) (at_ + k)) pv2 w11 HE11.out).mono ?_
          rintro e w7 ⟨rfl, hw'⟩
          rw [hw']
          clear hw' w7
          go_wp2_with fail
          go_ret
          exact ⟨rfl, HB11.out⟩
        · have hne : ¬ len = at_ := by omega
          have HZ : Hid (∀ j, j < len → w2.cell? ⟨g, j, none⟩ = some (.int .u8 (zs.getD j 0))) := hz
          have hgl : g < w1.heap.size := (HG1.out _ rfl).2
          have hgw : w.heap.size ≤ g := (HG1.out _ rfl).1
          clear hz
          go_wp2_with (at_builtin; refine wpList_append_fits_any _ rfl (.tmp 61) (.tmp 64) 22 rfl w1.heap.size 5 i0 1 Tryf.underlying22 HI.out HZ1.out w1.heap.size 0 (len + k) [] rfl HO2.out (some ⟨g, 0, none⟩) at_ len (front zs at_) rfl (front_length zs at_ (by rw [HN.out]; omega)) (fun h => by cases h) (src_take HN.out (by omega) HZ.out) (front_one zs at_) (by omega) ?_)
          intro w3 hown hgrow
          try simp only [Nat.zero_add, List.nil_append] at hown
          have HO3 : Hid (w3.ownsRow w1.heap.size 5 1 (.slice (some ⟨w1.heap.size, 0, none⟩) at_ (len + k)) at_ (front zs at_)) := hown
          have HB3 : Hid (Below w.heap.size w w3) := HB2.out.grown hgrow HB2.out.size (fun k hk => by cases hk; exact hs1)
          have HY3 : Hid (Bytes w3 (.slice (some ⟨g, 0, none⟩) len len) zs) := HY2.out.other hgrow (fun g' _ _ e => by first | (cases e; done) | (cases e; omega))
          clear hown hgrow HO2 HB2 HY2 HZ
          go_wp2_with (at_builtin; refine wpList_append_fits_any _ rfl (.tmp 66) (.tmp 67) 22 rfl w1.heap.size 5 i0 1 Tryf.underlying22 HI.out HZ1.out w1.heap.size at_ (len + k) _ rfl HO3.out b k cap2 (mids ws) rfl (mids_length ws HM.out) K0.out (src_came (came_below KC.out HB3.out)) (mids_one ws) (by omega) ?_)
          intro w4 hown hgrow
          have HO4 : Hid (w4.ownsRow w1.heap.size 5 1 (.slice (some ⟨w1.heap.size, 0, none⟩) (at_ + k) (len + k)) (at_ + k) (front zs at_ ++ mids ws)) := hown
          have HB4 : Hid (Below w.heap.size w w4) := HB3.out.grown hgrow HB3.out.size (fun k hk => by cases hk; exact hs1)
          have HY4 : Hid (Bytes w4 (.slice (some ⟨g, 0, none⟩) len len) zs) := HY3.out.other hgrow (fun g' _ _ e => by first | (cases e; done) | (cases e; omega))
          clear hown hgrow HO3 HB3 HY3 KC K0
          have HZ4 : Hid (∀ j, j < len → w4.cell? ⟨g, j, none⟩ = some (.int .u8 (zs.getD j 0))) := by
            rcases bytes_shape HY4.out HN.out with ⟨h, _⟩ | ⟨g', e, hz⟩
            · cases h
            · cases e
              exact hz
          go_wp2_with (at_builtin; refine wpList_append_fits_any _ rfl (.tmp 69) (.tmp 72) 22 rfl w1.heap.size 5 i0 1 Tryf.underlying22 HI.out HZ1.out w1.heap.size (at_ + k) (len + k) _ rfl HO4.out (some ⟨g, at_, none⟩) (len - at_) (len - at_) (back zs at_) rfl (back_length zs at_ HN.out) (fun h => by cases h) (src_drop HN.out HZ4.out) (back_one zs at_) (by omega) ?_)
          intro w5 hown hgrow
          rw [show at_ + k + (len - at_) = len + k by omega] at hown ⊢
          have HO5 : Hid (w5.ownsRow w1.heap.size 5 1 (.slice (some ⟨w1.heap.size, 0, none⟩) (len + k) (len + k)) (len + k) (front zs at_ ++ mids ws ++ back zs at_)) := by
            first | exact hown | (rw [List.append_assoc]; exact hown)
          have HY5 : Hid (Bytes w5 (.slice (some ⟨g, 0, none⟩) len len) zs) := HY4.out.other hgrow (fun g' _ _ e => by first | (cases e; done) | (cases e; omega))
          have HW5 : Hid (Bytes w5 (.slice (some ⟨w1.heap.size, 0, none⟩) (len + k) (len + k)) (insAt zs ws at_)) := made_bytes (by rw [HN.out]; omega) (by rw [HN.out, HM.out]) HO5.out
          have HB5 : Hid (Below w.heap.size w w5) := HB4.out.grown hgrow HB4.out.size (fun k hk => by cases hk; exact hs1)
          have own_lt : w1.heap.size < w5.heap.size := (HO5.out.lt _ rfl).2
          clear hown hgrow HO4 HB4 HY4 HZ4 HO5
          have hg25 : w1.heap.size < w5.heap.size := own_lt
          have hg2w : w.heap.size ≤ w1.heap.size := hs1
          generalize w1.heap.size = g2 at *
          go_wp2_with fail
          refine (f7_any (some ⟨g, 0, none⟩) len len at_ w5).mono ?_
          rintro e w6 ⟨rfl, rfl⟩
          have he5 : Hid (w.heap.size ≤ w5.heap.size) := HB5.out.size
          have HD6 : Hid ((w5.alloc (.cells (decA (.slice (some ⟨g, 0, none⟩) len len) at_ .nilIface) 36)).heap[w5.heap.size]? = some (.cells (decA (.slice (some ⟨g, 0, none⟩) len len) at_ .nilIface) 36 (0, 0))) := heap_alloc_new _ _
          have HY6 : Hid (Bytes (w5.alloc (.cells (decA (.slice (some ⟨g, 0, none⟩) len len) at_ .nilIface) 36)) (.slice (some ⟨g, 0, none⟩) len len) zs) := HY5.out.alloc _
          have HW6 : Hid (Bytes (w5.alloc (.cells (decA (.slice (some ⟨g, 0, none⟩) len len) at_ .nilIface) 36)) (.slice (some ⟨g2, 0, none⟩) (len + k) (len + k)) (insAt zs ws at_)) := HW5.out.alloc _
          have HB6 : Hid (Below w.heap.size w (w5.alloc (.cells (decA (.slice (some ⟨g, 0, none⟩) len len) at_ .nilIface) 36))) := HB5.out.alloc HB5.out.size _
          generalize w5.alloc (.cells (decA (.slice (some ⟨g, 0, none⟩) len len) at_ .nilIface) 36) = w6 at *
          clear HY5 HW5 HB5
          generalize w5.heap.size = e1 at *
          go_wp2_with fail
          refine (f8_fail F e1 at_ (.slice (some ⟨g, 0, none⟩) len len) w6 (by rw [HB6.out.tape]; exact HF.out) HD6.out).mono ?_
          rintro e w7 ⟨rfl, pv, hd, hg⟩
          have HD7 : Hid (w7.heap[e1]? = some (.cells (decA (.slice (some ⟨g, 0, none⟩) len len) at_ (.iface 43 pv)) 36 (0, 0))) := hd
          have HB7 : Hid (Below w.heap.size w w7) := HB6.out.grown hg HB6.out.size (fun k hk => by cases hk; exact he5.out)
          clear hd hg HD6 HY6 HW6 HB6 w6
          go_wp2_with fail
          refine (f9_err e1 at_ (.slice (some ⟨g, 0, none⟩) len len) pv w7 HD7.out).mono ?_
          rintro e w' ⟨rfl, nq, hw'⟩
          have HD8 : Hid (w'.heap[e1]? = some (.cells (decA (.slice (some ⟨g, 0, none⟩) len len) at_ (.iface 43 pv)) 36 (0, 0))) := by rw [hw']; exact HD7.out
          have HB8 : Hid (Below w.heap.size w w') := by rw [hw']; exact below_drewN HB7.out nq
          clear hw' HD7 HB7 w7
          go_wp2_with fail
          refine (f9_any e1 at_ (.slice (some ⟨g, 0, none⟩) len len) (.iface 43 pv) w' HD8.out).mono ?_
          rintro e w7 ⟨rfl, hw'⟩
          rw [hw']
          clear hw' w7
          go_wp2_with fail
          refine (f7_any (some ⟨g2, 0, none⟩) (len + k) (len + k) at_ w').mono ?_
          rintro e w9 ⟨rfl, rfl⟩
          have he17 : e1 < w'.heap.size := (Array.getElem?_eq_some_iff.1 HD8.out).1
          have he7 : Hid (w.heap.size ≤ w'.heap.size) := HB8.out.size
          have HE9 : Hid ((w'.alloc (.cells (decA (.slice (some ⟨g2, 0, none⟩) (len + k) (len + k)) at_ .nilIface) 36)).heap[w'.heap.size]? = some (.cells (decA (.slice (some ⟨g2, 0, none⟩) (len + k) (len + k)) at_ .nilIface) 36 (0, 0))) := heap_alloc_new _ _
          have HD9 : Hid ((w'.alloc (.cells (decA (.slice (some ⟨g2, 0, none⟩) (len + k) (len + k)) at_ .nilIface) 36)).heap[e1]? = some (.cells (decA (.slice (some ⟨g, 0, none⟩) len len) at_ (.iface 43 pv)) 36 (0, 0))) := (Below.heap_alloc _ _ _ he17).trans HD8.out
          have HB9 : Hid (Below w.heap.size w (w'.alloc (.cells (decA (.slice (some ⟨g2, 0, none⟩) (len + k) (len + k)) at_ .nilIface) 36))) := HB8.out.alloc HB8.out.size _
          generalize w'.alloc (.cells (decA (.slice (some ⟨g2, 0, none⟩) (len + k) (len + k)) at_ .nilIface) 36) = w9 at *
          clear HD8 HB8
          generalize w'.heap.size = e2 at *
          go_wp2_with fail
          refine (f8_fail F e2 at_ (.slice (some ⟨g2, 0, none⟩) (len + k) (len + k)) w9 (by rw [HB9.out.tape]; exact HF.out) HE9.out).mono ?_
          rintro e w10 ⟨rfl, pv2, hd, hg⟩
          have HE10 : Hid (w10.heap[e2]? = some (.cells (decA (.slice (some ⟨g2, 0, none⟩) (len + k) (len + k)) at_ (.iface 43 pv2)) 36 (0, 0))) := hd
          have HD10 : Hid (w10.heap[e1]? = some (.cells (decA (.slice (some ⟨g, 0, none⟩) len len) at_ (.iface 43 pv)) 36 (0, 0))) := (hg.block e1 (Array.getElem?_eq_some_iff.1 HD9.out).1 (by simp; omega)).trans HD9.out
          have HB10 : Hid (Below w.heap.size w w10) := HB9.out.grown hg HB9.out.size (fun k hk => by cases hk; exact he7.out)
          clear hd hg HD9 HE9 HB9
          go_wp2_with fail
          refine (f9_err e2 at_ (.slice (some ⟨g2, 0, none⟩) (len + k) (len + k)) pv2 w10 HE10.out).mono ?_
          rintro e w11 ⟨rfl, nq2, hw'⟩
          have HD11 : Hid (w11.heap[e1]? = some (.cells (decA (.slice (some ⟨g, 0, none⟩) len len) at_ (.iface 43 pv)) 36 (0, 0))) := by rw [hw']; exact HD10.out
          have HE11 : Hid (w11.heap[e2]? = some (.cells (decA (.slice (some ⟨g2, 0, none⟩) (len + k) (len + k)) at_ (.iface 43 pv2)) 36 (0, 0))) := by rw [hw']; exact HE10.out
          have HB11 : Hid (Below w.heap.size w w11) := by rw [hw']; exact below_drewN HB10.out nq2
          clear hw' HD10 HE10 HB10 w10
          go_wp2_with fail
          refine (f9_any e2 at_ (.slice (some ⟨g2, 0, none⟩) (len + k) (len + k)) (.iface 43 pv2) w11 HE11.out).mono ?_
          rintro e w7 ⟨rfl, hw'⟩
          rw [hw']
          clear hw' w7
          go_wp2_with fail
          refine (f11_err (.slice (some ⟨g, 0, none⟩) len len) at_ w11).mono ?_
          rintro e w7 ⟨rfl, hw'⟩
          rw [hw']
          clear hw' w7
          go_wp2_with fail
          refine (f12_err e1 at_ (.slice (some ⟨g, 0, none⟩) len len) pv w11 HD11.out).mono ?_
          rintro e w7 ⟨rfl, hw'⟩
          rw [hw']
          clear hw' w7
          go_wp2_with fail
          refine (f12_err e2 at_ (.slice (some ⟨g2, 0, none⟩) (len + k) (len + k)) pv2 w11 HE11.out).mono ?_
          rintro e w7 ⟨rfl, hw'⟩
          rw [hw']
          clear hw' w7
          go_wp2_with fail
          go_ret
          exact ⟨rfl, HB11.out⟩
end Go.Proofs.Qxb6613439aFmt
