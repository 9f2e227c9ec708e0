import Derived.Test.Qxb6613913aI1
namespace Go.Proofs.Qxb6613913a
open Go.ChangeShapes Go.WideShapes Go.ChangeAt Go.RowKit

/-! ### The law -/
def Yes (w : World) (e : Ending) (w' : World) : Prop := e = .returned (.bool true) ∧ Below w.heap.size w w'
theorem yes (w : World) : Yes w (.returned (.bool true)) w := ⟨rfl, Below.refl _ _⟩
theorem yes_drew (w : World) (n : Nat) : Yes w (.returned (.bool true)) (w.drewN n) := ⟨rfl, ⟨rfl, rfl, rfl, Nat.le_refl _, fun _ _ => rfl⟩⟩

set_option maxHeartbeats 3200000 in
set_option maxRecDepth 1000000 in
theorem f3_any (K O sh : ByteArray) (a b : Option Addr) (n cap m cp : Nat) (ss tt : List ByteArray) (w : World) (hn : ss.length = n) (hm : tt.length = m) (h0 : a = none → n = 0 ∧ cap = 0)
    (hK : K.size ≤ maxLen) (hO : O.size ≤ maxLen) (hsh : sh.size ≤ maxLen) (hss : ∀ k, k < n → (ss.getD k ByteArray.empty).size ≤ maxLen) (htt : ∀ k, k < m → (tt.getD k ByteArray.empty).size ≤ maxLen)
    (ha : Strs w a ss) (hb : Strs w b tt) :
    Calls Try.prog 3 #[.string K, .slice a n cap, .slice b m cp, .string O, .string sh] w fun e w' => Yes w e w' := by
  have HN : Hid (ss.length = n) := hn
  have HM : Hid (tt.length = m) := hm
  have H0 : Hid (a = none → n = 0 ∧ cap = 0) := h0
  have HZ : Hid ((K.size ≤ maxLen ∧ O.size ≤ maxLen ∧ sh.size ≤ maxLen) ∧ (∀ k, k < n → (ss.getD k ByteArray.empty).size ≤ maxLen) ∧ ∀ k, k < m → (tt.getD k ByteArray.empty).size ≤ maxLen) := ⟨⟨hK, hO, hsh⟩, hss, htt⟩
  have HA : Hid (Strs w a ss) := ha
  have HB : Hid (Strs w b tt) := hb
  have HY : Hid (Yes w (.returned (.bool true)) w) := yes w
  clear hn hm h0 hK hO hsh hss htt ha hb
  go_enter Try.func3, Try.ntmps3
  go_wp2_with fail
  refine (f4_any K O sh a b n cap m cp ss tt w HN.out HM.out HA.out HB.out).mono ?_
  rintro e w' ⟨q, rfl, hw', hq⟩
  rw [hw']
  clear hw' w'
  cases q
  · clear hq
    go_wp2
    go_ret
    exact HY.out
  · obtain ⟨hl, hml⟩ := hq rfl
    clear hq
    by_cases c1 : (4096 : Int) < (n : Int)
    · go_wp2
      go_ret
      exact HY.out
    · have c1' : decide ((4096 : Int) < (n : Int)) = false := decide_eq_false c1
      by_cases c2 : (4096 : Int) < (m : Int)
      · go_wp2
        go_ret
        exact HY.out
      · have c2' : decide ((4096 : Int) < (m : Int)) = false := decide_eq_false c2
        by_cases c3 : (1048576 : Int) < (K.size : Int)
        · go_wp2
          go_ret
          exact HY.out
        · have c3' : decide ((1048576 : Int) < (K.size : Int)) = false := decide_eq_false c3
          by_cases c4 : (1048576 : Int) < (O.size : Int)
          · go_wp2
            go_ret
            exact HY.out
          · have c4' : decide ((1048576 : Int) < (O.size : Int)) = false := decide_eq_false c4
            by_cases c5 : (1048576 : Int) < (sh.size : Int)
            · go_wp2
              go_ret
              exact HY.out
            · have c5' : decide ((1048576 : Int) < (sh.size : Int)) = false := decide_eq_false c5
              go_wp2_with fail
              refine (f5_any a n cap _ ss w HN.out hl HA.out).mono ?_
              rintro e w' ⟨⟨q1, rfl⟩, hw'⟩
              rw [hw']
              clear hw' w'
              by_cases c6 : (1048576 : Int) < q1
              · go_wp2
                go_ret
                exact HY.out
              · have c6' : decide ((1048576 : Int) < q1) = false := decide_eq_false c6
                go_wp2_with fail
                refine (f5_any b m cp _ tt w HM.out hml HB.out).mono ?_
                rintro e w' ⟨⟨q2, rfl⟩, hw'⟩
                rw [hw']
                clear hw' w'
                by_cases c7 : (1048576 : Int) < q2
                · go_wp2
                  go_ret
                  exact HY.out
                · have c7' : decide ((1048576 : Int) < q2) = false := decide_eq_false c7
                  cases c8 : (K.toList == O.toList)
                  · go_wp2_with fail
                    refine (f6_any a n cap ss w HN.out hl HA.out).mono ?_
                    rintro e w1 ⟨q, nq, rfl, hq, hw1⟩
                    cases q
                    · have HY1 : Hid (Yes w (.returned (.bool true)) w1) := by rw [hw1]; exact yes_drew w nq
                      clear hq hw1
                      go_wp2
                      go_ret
                      exact HY1.out
                    · have HRIS : Hid (Rising ss) := hq rfl
                      have HB1 : Hid (Below w.heap.size w w1) := by rw [hw1]; exact (yes_drew w nq).2
                      have HKO : Hid (K ≠ O) := fun e => by rw [e] at c8; simp at c8
                      clear hq hw1
                      go_wp2_with fail
                      refine (f8_any a n cap ss w1 HN.out hl H0.out (HA.out.all HB1.out)).mono ?_
                      intro e w2 hcl
                      obtain ⟨A, cc, rfl, hC⟩ := cloned_row (by rw [HN.out]; exact hl) hcl
                      have HC : Hid (CloneD w1 ss A cc w2) := hC
                      clear hcl hC
                      rw [HN.out]
                      go_wp2_with fail
                      refine (f7_node A n cc w2).mono ?_
                      rintro e w3 ⟨d, rfl, hd, hw3⟩
                      have HD : Hid (d = w2.heap.size ∧ w3 = w2.alloc (.cells (nodeA (.slice A n cc)) 48)) := ⟨hd, hw3⟩
                      clear hd hw3
                      go_wp2_with fail
                      refine (f7_node _ 1 1 _).mono ?_
                      rintro e w5 ⟨d2, rfl, hd2, hw5⟩
                      have HD2 : Hid (d2 = (w3.alloc (.cells #[.string sh] 9)).heap.size ∧ w5 = (w3.alloc (.cells #[.string sh] 9)).alloc (.cells (nodeA (.slice (some ⟨w3.heap.size, 0, none⟩) 1 1)) 48)) := ⟨hd2, hw5⟩
                      clear hd2 hw5
                      have HB6 : Hid (Below w.heap.size w (w5.alloc (.cells #[.string sh] 9))) := by
                        have b12 := HC.out.1.size
                        have b2 : Below w.heap.size w w2 := HB1.out.trans (HC.out.1.mono HB1.out.size)
                        have b3 : Below w.heap.size w w3 := by rw [HD.out.2]; exact b2.alloc b2.size _
                        have b5 : Below w.heap.size w w5 := by
                          rw [HD2.out.2]
                          have b4 := b3.alloc b3.size (.cells #[.string sh] 9)
                          exact b4.alloc b4.size _
                        exact b5.alloc b5.size _
                      go_wp2_with fail
                      refine (f10_any K O sh a n cap w5.heap.size ss (w5.alloc (.cells #[.string sh] 9)) HN.out hl HKO.out HZ.out.1.1 HZ.out.1.2.1 HZ.out.1.2.2 HRIS.out.nodup HZ.out.2.1 (HA.out.all HB6.out) (by simp)).mono ?_
                      rintro e w7 ⟨bO, rfl, hI, hB7⟩
                      have HI : Hid (Index w7 bO K O (hasB ss) (hasB [sh]) (cnt ss sh) (fun k => k < (w5.alloc (.cells #[.string sh] 9)).heap.size) ∧ Below (w5.alloc (.cells #[.string sh] 9)).heap.size (w5.alloc (.cells #[.string sh] 9)) w7) := ⟨hI, hB7⟩
                      clear hI hB7
                      go_wp2_with fail
                      refine (f9_any K O _ _ (some bO) w7 HZ.out.1.1 HZ.out.1.2.1).mono ?_
                      rintro e w8 ⟨gp, rfl, hc8, hgp, hB8⟩
                      obtain ⟨r2, E, hst⟩ : ∃ r2 E, Start K O sh ss w d d2 r2 E gp bO w8 := ⟨_, _, start HRIS.out (by rw [HN.out]; exact hl) HB1.out HC.out HD.out.1 (by rw [HN.out]; exact HD.out.2) rfl HD2.out.1 HD2.out.2 rfl HI.out.1 HI.out.2 hc8 hgp hB8⟩
                      have HST : Hid (Start K O sh ss w d d2 r2 E gp bO w8) := hst
                      clear hst hc8 hgp hB8 HI HB6 HD2 HD HC HB1 H0
                      go_wp2
                      go_loopw [15] (fun i wr => ∃ k : Nat, k ≤ m ∧ i = .int .i64 k ∧ Hid (St (prot w.heap.size d E gp) d gp bO K O sh wr (keptS ss (tt.take k)) ∧ Fr (prot w.heap.size d E gp) w8 wr)) (fun i _ => m - (intOf i).toNat)
                      case atStart =>
                        refine ⟨0, Nat.zero_le _, rfl, ?_, Fr.refl _ _⟩
                        have e : keptS ss (tt.take 0) = ss := by simp [keptS, hasB]
                        rw [e]
                        exact HST.out.1
                      case round =>
                        obtain ⟨k, hk, rfl, HR⟩ := hrel
                        have HBR : Hid (Below w.heap.size w wr) := HST.out.2.1.trans (HR.out.2.to_below fun k hk => .inl hk)
                        by_cases hlt : k < m
                        · obtain ⟨s, hs⟩ : ∃ s, s = tt.getD k ByteArray.empty := ⟨_, rfl⟩
                          obtain ⟨bb, off, e, hbl, hc⟩ := HB.out.at (by rw [HM.out]; omega)
                          have hcell : wr.cell? ⟨bb, off + k, none⟩ = some (.string s) := by
                            rw [HBR.out.cell (p := ⟨bb, off + k, none⟩) hbl, hs]
                            exact hc k (by rw [HM.out]; exact hlt)
                          have H11 : Hid (Calls Try.prog 11 #[.pointer (some ⟨gp, 0, none⟩), .string K, .pointer (some ⟨d, 0, none⟩), .string s] wr fun e w' => Unl (prot w.heap.size d E gp) d gp bO K O sh s (keptS ss (tt.take k)) wr e w') :=
                            f11_any HR.out.1 (.inr (.inr rfl)) (by rw [hs]; exact HZ.out.2.2 k hlt) HKO.out HZ.out.1.1
                          have HKT : Hid (keptS ss (tt.take (k + 1)) = keptS (keptS ss (tt.take k)) [s]) := by rw [Hid, hs]; exact kept_take (by rw [HM.out]; exact hlt)
                          have hbl' : bb < wr.heap.size := block_lt_of_cell hcell
                          clear hs hc
                          subst e
                          go_wp2_with fail
                          refine H11.out.mono ?_
                          rintro e w9 ⟨rfl, hs9, hf9⟩
                          have H9 : Hid (St (prot w.heap.size d E gp) d gp bO K O sh w9 (keptS ss (tt.take (k + 1))) ∧ Fr (prot w.heap.size d E gp) w8 w9) := ⟨by rw [HKT.out]; exact hs9, HR.out.2.trans hf9⟩
                          clear hs9 hf9 H11
                          go_wp2
                          go_roundw
                          case rel => exact ⟨k + 1, by omega, by go_num, H9⟩
                          case measure => simp [intOf]; omega
                        · obtain ⟨L, hL⟩ : ∃ L, L = keptS ss tt := ⟨_, rfl⟩
                          have HS : Hid (St (prot w.heap.size d E gp) d gp bO K O sh wr L ∧ Fr (prot w.heap.size d E gp) w8 wr) := by
                            have := HR.out
                            rw [List.take_of_length_le (by rw [HM.out]; omega), ← hL] at this
                            exact this
                          have HL : Hid (L = keptS ss tt) := hL
                          clear hL HR
                          go_wp2_with fail
                          refine (f12_any a b n cap m cp ss tt wr HN.out HM.out hl hml (HA.out.all HBR.out) (HB.out.all HBR.out)).mono ?_
                          intro e wx hwo
                          obtain ⟨A1, cp1, rfl, hchk⟩ := chk_of HST.out HS.out.1 HS.out.2 HL.out hwo
                          obtain ⟨Pr, hPr⟩ : ∃ Pr, Pr = prot w.heap.size d E gp := ⟨_, rfl⟩
                          obtain ⟨row, hrow⟩ : ∃ row, row = wr.heap.size := ⟨_, rfl⟩
                          rw [← hrow, ← hPr] at hchk
                          rw [← hrow]
                          obtain ⟨j, hj⟩ : ∃ j, j = L.length := ⟨_, rfl⟩
                          rw [← hj, HN.out]
                          have HJ : Hid (L.length = j) := hj.symm
                          have HCK : Hid (Chk K O sh L w d d2 r2 gp bO row Pr A1 cp1 wx) := hchk
                          have hjl : j ≤ 1048576 := by rw [hj]; exact hchk.2.2.2.2.2.2
                          clear hwo hchk hrow hj HS HST HBR hPr
                          go_wp2_with fail
                          refine (f14_any d _ wx HCK.out.1.1).mono ?_
                          rintro e w' ⟨rfl, hw'⟩
                          rw [hw', HJ.out]
                          clear hw' w'
                          go_wp2_with fail
                          refine (f13_any A1 (some ⟨row, 0, none⟩) j cp1 n L wx HJ.out hjl HCK.out.1.2 HCK.out.2.1).mono ?_
                          rintro e wy ⟨rfl, nq1, hwy⟩
                          have HCY : Hid (Chk K O sh L w d d2 r2 gp bO row Pr A1 cp1 wy) := by rw [hwy]; exact HCK.out.mono (below_drewN _ _)
                          clear hwy HCK
                          go_wp2_with fail
                          refine (f14_any d2 _ wy HCY.out.2.2.1.1).mono ?_
                          rintro e w' ⟨rfl, hw'⟩
                          rw [hw']
                          clear hw' w'
                          have HCZ : Hid (Chk K O sh L w d d2 r2 gp bO row Pr A1 cp1 (wy.alloc (.cells #[.string sh] 9))) := HCY.out.mono ((Below.refl _ _).alloc (Nat.le_refl _) _)
                          go_wp2_with fail
                          refine (f13_any (some ⟨r2, 0, none⟩) (some ⟨wy.heap.size, 0, none⟩) 1 1 1 [sh] _ rfl (by omega) (strs_one HCZ.out.2.2.1.2) (strs_one (by simp))).mono ?_
                          rintro e wv ⟨rfl, nq2, hwv⟩
                          have HCV : Hid (Chk K O sh L w d d2 r2 gp bO row Pr A1 cp1 wv) := by rw [hwv]; exact HCZ.out.mono (below_drewN _ _)
                          clear hwv HCZ HCY
                          go_wp2_with fail
                          refine (f15_any gp _ wv HCV.out.2.2.2.1).mono ?_
                          rintro e w' ⟨rfl, hw'⟩
                          rw [hw']
                          clear hw' w'
                          have HIX : Hid (Index wv bO K O (hasB L) (hasB [sh]) (cnt L sh) Pr) := HCV.out.2.2.2.2.1
                          have HBV : Hid (Below w.heap.size w wv) := HCV.out.2.2.2.2.2.1
                          go_wp2
                          go_loop [18, 19, 20, 21, 22] (fun i _ _ _ _ => ∃ k : Nat, k ≤ n ∧ i = .int .i64 k) (fun i _ _ _ _ => n - (intOf i).toNat)
                          case atStart => exact ⟨0, Nat.zero_le _, rfl⟩
                          case round =>
                            obtain ⟨k2, hk2, rfl⟩ := hrel
                            by_cases hlt2 : k2 < n
                            · obtain ⟨x, hx⟩ : ∃ x, x = ss.getD k2 ByteArray.empty := ⟨_, rfl⟩
                              obtain ⟨bb, off, e, hbl, hc⟩ := HA.out.at (by rw [HN.out]; omega)
                              have hcell : wv.cell? ⟨bb, off + k2, none⟩ = some (.string x) := by
                                rw [HBV.out.cell (p := ⟨bb, off + k2, none⟩) hbl, hx]
                                exact hc k2 (by rw [HN.out]; exact hlt2)
                              have hbl' : bb < wv.heap.size := block_lt_of_cell hcell
                              obtain ⟨u, bm, l1, l2, l3, l4, l5⟩ := looks HIX.out (x := x) (by rw [hx]; exact HZ.out.2.1 k2 hlt2) HZ.out.1.1 HZ.out.1.2.1
                              have hmem : x ∈ ss := by rw [hx]; simp [List.getD, show k2 < ss.length by rw [HN.out]; exact hlt2]
                              have hLx : hasB L x = !hasB tt x := by rw [HL.out]; exact hasB_kept hmem
                              have h16 := f16_any b m cp x tt wv HM.out hml (HB.out.all HBV.out)
                              have hqx : hasB [sh] x = (x.toList == sh.toList) := (hasB_single sh x).trans Bool.beq_comm
                              rw [hLx, hqx] at l1 l5
                              rw [hLx] at l3
                              clear l4 hLx hqx hmem hx hc
                              subst e
                              cases ht : hasB tt x
                              · rw [ht] at l1 l3 l5 h16
                                have H16 : Hid (Calls Try.prog 16 #[.slice b m cp, .string x] wv fun e w' => e = .returned (.bool false) ∧ w' = wv) := h16
                                clear h16 ht
                                cases hq : (x.toList == sh.toList)
                                · rw [hq] at l1 l5
                                  go_wp2_with fail
                                  refine H16.out.mono ?_
                                  rintro e w' ⟨rfl, hw'⟩
                                  rw [hw']
                                  clear hw' w'
                                  go_wp2
                                  go_round
                                  case rel => exact ⟨k2 + 1, by omega, by go_num⟩
                                  case measure => simp [intOf]; omega
                                · rw [hq] at l1 l5
                                  go_wp2_with fail
                                  refine H16.out.mono ?_
                                  rintro e w' ⟨rfl, hw'⟩
                                  rw [hw']
                                  clear hw' w'
                                  go_wp2
                                  go_round
                                  case rel => exact ⟨k2 + 1, by omega, by go_num⟩
                                  case measure => simp [intOf]; omega
                              · rw [ht] at l1 l3 l5 h16
                                have H16 : Hid (Calls Try.prog 16 #[.slice b m cp, .string x] wv fun e w' => e = .returned (.bool true) ∧ w' = wv) := h16
                                clear h16 ht
                                cases hq : (x.toList == sh.toList)
                                · rw [hq] at l1 l5
                                  go_wp2_with fail
                                  refine H16.out.mono ?_
                                  rintro e w' ⟨rfl, hw'⟩
                                  rw [hw']
                                  clear hw' w'
                                  go_wp2
                                  go_round
                                  case rel => exact ⟨k2 + 1, by omega, by go_num⟩
                                  case measure => simp [intOf]; omega
                                · rw [hq] at l1 l5
                                  go_wp2_with fail
                                  refine H16.out.mono ?_
                                  rintro e w' ⟨rfl, hw'⟩
                                  rw [hw']
                                  clear hw' w'
                                  go_wp2
                                  go_round
                                  case rel => exact ⟨k2 + 1, by omega, by go_num⟩
                                  case measure => simp [intOf]; omega
                            · obtain ⟨u, bm, l1, l2, l3, l4, l5⟩ := looks HIX.out (x := sh) HZ.out.1.2.2 HZ.out.1.1 HZ.out.1.2.1
                              have hss : hasB [sh] sh = true := by rw [hasB_single]; exact beq_self_eq_true _
                              have l31 := HIX.out.len
                              have hcnt : cnt L sh = j + if hasB L sh then 0 else 1 := by unfold cnt; rw [HJ.out]
                              have h16a := f16_any a n cap sh ss wv HN.out hl (HA.out.all HBV.out)
                              have h16w := f16_any (some ⟨row, 0, none⟩) j n sh L wv HJ.out hjl HCV.out.2.1
                              have hwr : IntKind.i64.wrap ((j : Int) + 1) = (j : Int) + 1 := by rw [IntKind.wrap_i64]; omega
                              have HYV : Hid (Yes w (.returned (.bool true)) wv) := ⟨rfl, HBV.out⟩
                              have himp : hasB ss sh = false → hasB L sh = false := fun h => by rw [HL.out]; exact hasB_kept_none h
                              rw [hss] at l4 l5
                              rw [hcnt] at l31
                              clear l1 l3 hcnt hss
                              cases hs : hasB ss sh
                              · rw [himp hs] at l5 l31 h16w
                                rw [hs] at h16a
                                have H16A : Hid (Calls Try.prog 16 #[.slice a n cap, .string sh] wv fun e w' => e = .returned (.bool false) ∧ w' = wv) := h16a
                                have H16W : Hid (Calls Try.prog 16 #[.slice (some ⟨row, 0, none⟩) j n, .string sh] wv fun e w' => e = .returned (.bool false) ∧ w' = wv) := h16w
                                clear h16a h16w himp hs
                                go_wp2_with fail
                                refine H16A.out.mono ?_
                                rintro e w' ⟨rfl, hw'⟩
                                rw [hw']
                                clear hw' w'
                                go_wp2_with fail
                                refine H16W.out.mono ?_
                                rintro e w' ⟨rfl, hw'⟩
                                rw [hw']
                                clear hw' w'
                                go_wp2
                                go_ret
                                exact HYV.out
                              · rw [hs] at h16a
                                have H16A : Hid (Calls Try.prog 16 #[.slice a n cap, .string sh] wv fun e w' => e = .returned (.bool true) ∧ w' = wv) := h16a
                                clear h16a himp hs
                                cases hs2 : hasB L sh
                                · rw [hs2] at l5 l31 h16w
                                  have H16W : Hid (Calls Try.prog 16 #[.slice (some ⟨row, 0, none⟩) j n, .string sh] wv fun e w' => e = .returned (.bool false) ∧ w' = wv) := h16w
                                  clear h16w hs2
                                  go_wp2_with fail
                                  refine H16A.out.mono ?_
                                  rintro e w' ⟨rfl, hw'⟩
                                  rw [hw']
                                  clear hw' w'
                                  go_wp2_with fail
                                  refine H16W.out.mono ?_
                                  rintro e w' ⟨rfl, hw'⟩
                                  rw [hw']
                                  clear hw' w'
                                  go_wp2
                                  go_ret
                                  exact HYV.out
                                · rw [hs2] at l5 l31 h16w
                                  have H16W : Hid (Calls Try.prog 16 #[.slice (some ⟨row, 0, none⟩) j n, .string sh] wv fun e w' => e = .returned (.bool true) ∧ w' = wv) := h16w
                                  clear h16w hs2
                                  go_wp2_with fail
                                  refine H16A.out.mono ?_
                                  rintro e w' ⟨rfl, hw'⟩
                                  rw [hw']
                                  clear hw' w'
                                  go_wp2_with fail
                                  refine H16W.out.mono ?_
                                  rintro e w' ⟨rfl, hw'⟩
                                  rw [hw']
                                  clear hw' w'
                                  go_wp2
                                  go_ret
                                  exact HYV.out
                  · go_wp2
                    go_ret
                    exact HY.out
end Go.Proofs.Qxb6613913a
