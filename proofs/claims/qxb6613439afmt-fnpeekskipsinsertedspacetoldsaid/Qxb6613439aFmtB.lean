import Derived.Test.Qxb6613439aFmtA
namespace Go.Proofs.Qxb6613439aFmt
open Go.ChangeShapes Go.WideShapes Go.ChangeAt Go.RowKit

/-! ### peek -/
set_option maxHeartbeats 800000 in
theorem f12_hit (d g a n : Nat) (zs : List Int) (w : World) (hn : zs.length = n) (ha : a < n) (hc : 32 < zs.getD a 0)
    (hd : w.heap[d]? = some (.cells (decA (.slice (some ⟨g, 0, none⟩) n n) a .nilIface) 36 (0, 0)))
    (hz : ∀ j, j < n → w.cell? ⟨g, j, none⟩ = some (.int .u8 (zs.getD j 0))) :
    Calls Tryf.prog 14 #[.pointer (some ⟨d, 0, none⟩)] w fun e w' => Peeked (.slice (some ⟨g, 0, none⟩) n n) zs a d w e w' := by
  have HD : Hid (w.heap[d]? = some (.cells (decA (.slice (some ⟨g, 0, none⟩) n n) a .nilIface) 36 (0, 0))) := hd
  obtain ⟨c0, c1, c2, _⟩ := cells_dec hd
  have HP : Hid (IsPeek zs a a) := ⟨Nat.le_refl _, by omega, fun i h1 h2 => by omega, fun _ => by simp only [isSp, decide_eq_false_iff_not]; omega⟩
  obtain ⟨c, hcd⟩ : ∃ c, c = zs.getD a 0 := ⟨_, rfl⟩
  have HCD : Hid (c = zs.getD a 0) := hcd
  have hcell : w.cell? ⟨g, a, none⟩ = some (.int .u8 c) := by rw [hcd]; exact hz a ha
  have hc' : (32 : Int) < c := by rw [hcd]; exact hc
  have hlt : (a : Int) < (n : Int) := by omega
  clear hcd hc hz hd hn
  go_enter Tryf.func14, Tryf.ntmps14
  go_wp2
  go_quiet (fail)
  go_wp2
  go_quiet (fail)
  go_wp2
  go_ret
  exact peeked_drew (peeked_stay (w := w.drewN _) HD.out HP.out _ c HCD.out)

set_option maxHeartbeats 800000 in
theorem f12_low (d g a n : Nat) (zs : List Int) (w : World) (hn : zs.length = n) (hl : n ≤ 1048576) (ha : a < n) (hc : ¬ 32 < zs.getD a 0)
    (hd : w.heap[d]? = some (.cells (decA (.slice (some ⟨g, 0, none⟩) n n) a .nilIface) 36 (0, 0)))
    (hz : ∀ j, j < n → w.cell? ⟨g, j, none⟩ = some (.int .u8 (zs.getD j 0))) :
    Calls Tryf.prog 14 #[.pointer (some ⟨d, 0, none⟩)] w fun e w' => Peeked (.slice (some ⟨g, 0, none⟩) n n) zs a d w e w' := by
  have HD : Hid (w.heap[d]? = some (.cells (decA (.slice (some ⟨g, 0, none⟩) n n) a .nilIface) 36 (0, 0))) := hd
  have HZ : Hid (∀ j, j < n → w.cell? ⟨g, j, none⟩ = some (.int .u8 (zs.getD j 0))) := hz
  have HN : Hid (zs.length = n) := hn
  obtain ⟨c0, c1, c2, _⟩ := cells_dec hd
  obtain ⟨c, hcd⟩ : ∃ c, c = zs.getD a 0 := ⟨_, rfl⟩
  have hcell : w.cell? ⟨g, a, none⟩ = some (.int .u8 c) := by rw [hcd]; exact hz a ha
  have hc' : decide ((32 : Int) < c) = false := by rw [hcd]; exact decide_eq_false hc
  have hlt : (a : Int) < (n : Int) := by omega
  clear hcd hc hz hd hn
  go_enter Tryf.func14, Tryf.ntmps14
  go_wp2
  go_quiet (fail)
  go_wp2_with fail
  refine (f13_mid d g a n zs (w.drewN nq) HN.out hl ha HD.out HZ.out).mono ?_
  rintro e w' hp
  obtain ⟨p, h1, rfl, h3, h4⟩ := peeked_drew hp
  have HQ : Hid (Peeked (.slice (some ⟨g, 0, none⟩) n n) zs a d w (.returned (.int .u8 (zs.getD p 0))) w') := ⟨p, h1, rfl, h3, h4⟩
  clear hp h1 h3 h4
  go_wp2
  go_ret
  exact HQ.out

set_option maxHeartbeats 800000 in
theorem f12_end (d n : Nat) (ga : Option Addr) (zs : List Int) (w : World) (hn : zs.length = n) (hl : n ≤ 1048576) (hg : ga = none ∧ n = 0 ∨ ∃ g, ga = some ⟨g, 0, none⟩)
    (hd : w.heap[d]? = some (.cells (decA (.slice ga n n) n .nilIface) 36 (0, 0))) :
    Calls Tryf.prog 14 #[.pointer (some ⟨d, 0, none⟩)] w fun e w' => Peeked (.slice ga n n) zs n d w e w' := by
  have HD : Hid (w.heap[d]? = some (.cells (decA (.slice ga n n) n .nilIface) 36 (0, 0))) := hd
  have HG : Hid (ga = none ∧ n = 0 ∨ ∃ g, ga = some ⟨g, 0, none⟩) := hg
  have HN : Hid (zs.length = n) := hn
  obtain ⟨c0, c1, c2, _⟩ := cells_dec hd
  clear hd hn hg
  go_enter Tryf.func14, Tryf.ntmps14
  go_wp2
  go_quiet (fail)
  go_wp2_with fail
  refine (f13_end d n ga zs (w.drewN nq) HN.out hl HG.out HD.out).mono ?_
  rintro e w' hp
  obtain ⟨p, h1, rfl, h3, h4⟩ := peeked_drew hp
  have HQ : Hid (Peeked (.slice ga n n) zs n d w (.returned (.int .u8 (zs.getD p 0))) w') := ⟨p, h1, rfl, h3, h4⟩
  clear hp h1 h3 h4
  go_wp2
  go_ret
  exact HQ.out

theorem f12_any (d a : Nat) (data : Value) (zs : List Int) (w : World) (hl : zs.length ≤ 1048576) (ha : a ≤ zs.length) (hb : Bytes w data zs)
    (hd : w.heap[d]? = some (.cells (decA data a .nilIface) 36 (0, 0))) :
    Calls Tryf.prog 14 #[.pointer (some ⟨d, 0, none⟩)] w fun e w' => Peeked data zs a d w e w' := by
  rcases hb with ⟨rfl, rfl⟩ | ⟨g, rfl, hz⟩
  · obtain rfl : a = 0 := by simpa using ha
    exact f12_end d 0 none [] w rfl (by omega) (.inl ⟨rfl, rfl⟩) hd
  · by_cases hlt : a < zs.length
    · by_cases hc : 32 < zs.getD a 0
      · exact f12_hit d g a zs.length zs w rfl hlt hc hd hz
      · exact f12_low d g a zs.length zs w rfl hl hlt hc hd hz
    · obtain rfl : a = zs.length := by omega
      exact f12_end d zs.length (some ⟨g, 0, none⟩) zs w rfl hl (.inr ⟨g, rfl⟩) hd

theorem f8_any (d a : Nat) (data : Value) (zs : List Int) (w : World) (hl : zs.length ≤ 1048576) (ha : a ≤ zs.length) (hb : Bytes w data zs)
    (hd : w.heap[d]? = some (.cells (decA data a .nilIface) 36 (0, 0))) :
    Calls Tryf.prog 9 #[.pointer (some ⟨d, 0, none⟩)] w fun e w' => Peeked data zs a d w e w' := by
  have HC : Hid (Calls Tryf.prog 14 #[.pointer (some ⟨d, 0, none⟩)] w fun e w' => Peeked data zs a d w e w') := f12_any d a data zs w hl ha hb hd
  clear hl ha hb hd
  go_enter Tryf.func9, Tryf.ntmps9
  go_wp2_with fail
  refine (HC.out).mono ?_
  rintro e w' ⟨p, h1, rfl, h3, h4⟩
  have HQ : Hid (Peeked data zs a d w (.returned (.int .u8 (zs.getD p 0))) w') := ⟨p, h1, rfl, h3, h4⟩
  clear h1 h3 h4
  go_wp2
  go_ret
  exact HQ.out

/-! ### ZZat, ZZfailed, ZZnewDecoder -/
theorem f9_any (d a : Nat) (data err : Value) (w : World) (hd : w.heap[d]? = some (.cells (decA data a err) 36 (0, 0))) :
    Calls Tryf.prog 10 #[.pointer (some ⟨d, 0, none⟩)] w fun e w' => e = .returned (.int .i64 a) ∧ w' = w := by
  obtain ⟨_, c1, _, _⟩ := cells_dec hd
  clear hd
  go_enter Tryf.func10, Tryf.ntmps10
  go_wp2
  go_ret
  exact ⟨rfl, rfl⟩

theorem f11_nil (d a : Nat) (data : Value) (w : World) (hd : w.heap[d]? = some (.cells (decA data a .nilIface) 36 (0, 0))) :
    Calls Tryf.prog 12 #[.pointer (some ⟨d, 0, none⟩)] w fun e w' => e = .returned (.bool false) ∧ w' = w := by
  obtain ⟨_, _, c2, _⟩ := cells_dec hd
  clear hd
  go_enter Tryf.func12, Tryf.ntmps12
  go_wp2
  go_ret
  exact ⟨rfl, rfl⟩

theorem f7_any (ga : Option Addr) (n c a : Nat) (w : World) :
    Calls Tryf.prog 7 #[.slice ga n c, .int .i64 a] w fun e w' => e = .returned (.pointer (some ⟨w.heap.size, 0, none⟩)) ∧ w' = w.alloc (.cells (decA (.slice ga n c) a .nilIface) 36) := by
  go_enter Tryf.func7, Tryf.ntmps7
  go_wp2
  go_ret
  exact ⟨rfl, rfl⟩
end Go.Proofs.Qxb6613439aFmt
