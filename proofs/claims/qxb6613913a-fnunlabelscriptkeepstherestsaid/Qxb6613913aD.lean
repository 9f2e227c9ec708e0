import Derived.Test.Qxb6613913aC
namespace Go.Proofs.Qxb6613913a
open Go.ChangeShapes Go.WideShapes Go.ChangeAt Go.RowKit

/-! ### equalStrs on equal lists -/
def TrueDrew (w : World) (e : Ending) (w' : World) : Prop := e = .returned (.bool true) ∧ ∃ nq, w' = w.drewN nq
theorem f13_none (a b : Option Addr) (c d : Nat) (w : World) : Calls Try.prog 13 #[.slice a 0 c, .slice b 0 d] w fun e w' => TrueDrew w e w' := by
  go_enter Try.func13, Try.ntmps13
  go_wp2
  refine wp_loop_rounds 1 ?_
  rw [rounds_succ]
  go_wp2
  go_ret
  exact ⟨rfl, 0, rfl⟩
set_option maxHeartbeats 800000 in
theorem f13_some (b1 o1 b2 o2 n c d : Nat) (ss : List ByteArray) (w : World) (hl : n ≤ 1048576)
    (h1 : ∀ j, j < n → w.cell? ⟨b1, o1 + j, none⟩ = some (.string (ss.getD j ByteArray.empty))) (h2 : ∀ j, j < n → w.cell? ⟨b2, o2 + j, none⟩ = some (.string (ss.getD j ByteArray.empty))) :
    Calls Try.prog 13 #[.slice (some ⟨b1, o1, none⟩) n c, .slice (some ⟨b2, o2, none⟩) n d] w fun e w' => TrueDrew w e w' := by
  have H1 : Hid (∀ j, j < n → w.cell? ⟨b1, o1 + j, none⟩ = some (.string (ss.getD j ByteArray.empty))) := h1
  have H2 : Hid (∀ j, j < n → w.cell? ⟨b2, o2 + j, none⟩ = some (.string (ss.getD j ByteArray.empty))) := h2
  clear h1 h2
  go_enter Try.func13, Try.ntmps13
  go_wp2
  go_loopw [5] (fun i wr => ∃ k : Nat, k ≤ n ∧ i = .int .i64 k ∧ ∃ nq, wr = w.drewN nq) (fun i _ => n - (intOf i).toNat)
  case atStart => exact ⟨0, Nat.zero_le _, rfl, 0, rfl⟩
  case round =>
    obtain ⟨k, hk, rfl, nq0, rfl⟩ := hrel
    by_cases hlt : k < n
    · obtain ⟨s, hs⟩ : ∃ s, s = ss.getD k ByteArray.empty := ⟨_, rfl⟩
      have g1 := H1.out k hlt
      have g2 := H2.out k hlt
      rw [← hs] at g1 g2
      clear hs
      have hkn : (k : Int) < (n : Int) := by omega
      go_wp2
      go_quiet (fail)
      go_wp2
      go_roundw
      case rel => exact ⟨k + 1, by omega, by go_num, _, rfl⟩
      case measure => simp [intOf]; omega
    · go_wp2
      go_ret
      exact ⟨rfl, _, rfl⟩
theorem f13_any (a b : Option Addr) (n c d : Nat) (ss : List ByteArray) (w : World) (hn : ss.length = n) (hl : n ≤ 1048576) (ha : Strs w a ss) (hb : Strs w b ss) :
    Calls Try.prog 13 #[.slice a n c, .slice b n d] w fun e w' => TrueDrew w e w' := by
  by_cases h0 : n = 0
  · subst h0
    exact f13_none a b c d w
  · obtain ⟨b1, o1, rfl, _, h1⟩ := ha.at (by omega)
    obtain ⟨b2, o2, rfl, _, h2⟩ := hb.at (by omega)
    exact f13_some b1 o1 b2 o2 n c d ss w hl (fun j hj => h1 j (by omega)) (fun j hj => h2 j (by omega))

/-! ### without -/
def keptS (ss tt : List ByteArray) : List ByteArray := ss.filter fun s => !hasB tt s
theorem keptS_snoc {ss tt : List ByteArray} {k : Nat} (hk : k < ss.length) : keptS (ss.take (k + 1)) tt = keptS (ss.take k) tt ++ (if hasB tt (ss.getD k ByteArray.empty) then [] else [ss.getD k ByteArray.empty]) := by
  unfold keptS
  rw [List.take_succ_eq_append_getElem hk, List.filter_append]
  have e : ss.getD k ByteArray.empty = ss[k] := by simp [List.getD, hk]
  rw [e]
  cases h : hasB tt ss[k] <;> simp [h]
theorem keptS_le (ss tt : List ByteArray) (k : Nat) : (keptS (ss.take k) tt).length ≤ k := by
  unfold keptS
  exact Nat.le_trans (List.length_filter_le _ _) (List.length_take_le _ _)

def Without (ss tt : List ByteArray) (w : World) (e : Ending) (w' : World) : Prop :=
  e = .returned (.slice (some ⟨w.heap.size, 0, none⟩) (keptS ss tt).length ss.length) ∧ w'.ownsRow w.heap.size 9 1 (.slice (some ⟨w.heap.size, 0, none⟩) (keptS ss tt).length ss.length) (keptS ss tt).length ((keptS ss tt).map Value.string) ∧ Below w.heap.size w w'
theorem str_one (x : ByteArray) : ∀ u ∈ [Value.string x], u.oneCell' = true := by
  intro u hu
  simp only [List.mem_cons, List.not_mem_nil, or_false] at hu
  subst hu
  rfl
/-- What stands while 'out' is filled. -/
def Out (w wr : World) (n : Nat) (L : List ByteArray) : Prop := wr.ownsRow w.heap.size 9 1 (.slice (some ⟨w.heap.size, 0, none⟩) L.length n) L.length (L.map Value.string) ∧ Below w.heap.size w wr
set_option maxHeartbeats 1600000 in
theorem f12_any (a b : Option Addr) (n c m d : Nat) (ss tt : List ByteArray) (w : World) (hn : ss.length = n) (hm : tt.length = m) (hl : n ≤ 1048576) (hml : m ≤ 1048576) (ha : Strs w a ss) (hb : Strs w b tt) :
    Calls Try.prog 12 #[.slice a n c, .slice b m d] w fun e w' => Without ss tt w e w' := by
  have HA : Hid (Strs w a ss) := ha
  have HB : Hid (Strs w b tt) := hb
  have HN : Hid (ss.length = n) := hn
  have HM : Hid (tt.length = m) := hm
  clear ha hb hn hm
  obtain ⟨i0, hi, hz0, hz1, hz2⟩ := info_parts info9
  have HI : Hid (Try.prog.info? 9 = some i0) := hi
  have HZ0 : Hid (i0.zero = some (.string ByteArray.empty)) := hz0
  have HZ1 : Hid (i0.size = 1) := hz1
  have HZ2 : Hid (i0.bytes = 16) := hz2
  clear hi hz0 hz1 hz2
  go_enter Try.func12, Try.ntmps12
  go_wp2_with (at_make; refine wpList_make_own _ rfl _ _ 22 rfl w.heap.size 9 i0 _ 1 Try.underlying22 HI.out HZ0.out HZ1.out .i64 .i64 _ n rfl rfl rfl (by rw [HZ2.out]; omega) (by unfold maxLen; omega) (Nat.le_refl _) ?_)
  intro w1 hown hgrow
  have HO : Hid (Out w w1 n (keptS (ss.take 0) tt)) := by
    refine ⟨?_, (Below.refl _ _).grown hgrow (Nat.le_refl _) (fun k hk => by cases hk)⟩
    have e : keptS (ss.take 0) tt = [] := by simp [keptS]
    rw [e]
    exact hown
  clear hown hgrow
  go_wp2_with fail
  go_loopw [5, 6] (fun v i wr => ∃ k : Nat, k ≤ n ∧ i = .int .i64 k ∧ v = .slice (some ⟨w.heap.size, 0, none⟩) (keptS (ss.take k) tt).length n ∧ Hid (Out w wr n (keptS (ss.take k) tt))) (fun _ i _ => n - (intOf i).toNat)
  case atStart => exact ⟨0, Nat.zero_le _, rfl, rfl, HO⟩
  case round =>
    obtain ⟨k, hk, rfl, rfl, HR⟩ := hrel
    by_cases hlt : k < n
    · obtain ⟨s, hs⟩ : ∃ s, s = ss.getD k ByteArray.empty := ⟨_, rfl⟩
      have HSN : Hid (keptS (ss.take (k + 1)) tt = keptS (ss.take k) tt ++ (if hasB tt s then [] else [s])) := by rw [Hid, hs]; exact keptS_snoc (by rw [HN.out]; exact hlt)
      obtain ⟨bb, off, e, hbl, hc⟩ := HA.out.at (by rw [HN.out]; omega)
      have hcell : wr.cell? ⟨bb, off + k, none⟩ = some (.string s) := by
        rw [HR.out.2.cell (p := ⟨bb, off + k, none⟩) hbl, hs]
        exact hc k (by rw [HN.out]; exact hlt)
      have h16 := f16_any b m d s tt wr HM.out hml (HB.out.all HR.out.2)
      have hle := keptS_le ss tt k
      have hbl' : bb < wr.heap.size := Nat.lt_of_lt_of_le hbl HR.out.2.size
      clear hs hc HA HB
      subst e
      cases hh : hasB tt s
      · rw [hh] at h16
        have H16 : Hid (Calls Try.prog 16 #[.slice b m d, .string s] wr fun e w' => e = .returned (.bool false) ∧ w' = wr) := h16
        have HK : Hid (keptS (ss.take (k + 1)) tt = keptS (ss.take k) tt ++ [s]) := by have := HSN.out; rw [hh] at this; exact this
        clear h16 hh HSN
        go_wp2_with fail
        refine H16.out.mono ?_
        rintro e w' ⟨rfl, hw'⟩
        rw [hw']
        clear hw' w'
        go_wp2_with (at_builtin; refine wpList_append_fits _ rfl _ _ 22 rfl w.heap.size 9 i0 1 Try.underlying22 HI.out HZ1.out w.heap.size (keptS (ss.take k) tt).length n _ rfl (World.ownsRow.alloc HR.out.1 _) ⟨wr.heap.size, 0, none⟩ 1 1 [.string s] rfl rfl (cell_one_new _ _ _) (str_one s) (by omega) ?_)
        intro w2 hown hgrow
        have HB2 : Hid (Below w.heap.size w w2) := (HR.out.2.alloc HR.out.2.size _).grown hgrow (Nat.le_trans HR.out.2.size (by simp)) (fun k hk => by cases hk; exact Nat.le_refl _)
        have H2 : Hid (Out w w2 n (keptS (ss.take k) tt ++ [s])) := by
          refine ⟨?_, HB2.out⟩
          rw [List.length_append, List.map_append]
          exact hown
        clear hown hgrow HR
        go_wp2
        go_roundw
        case rel => exact ⟨k + 1, by omega, by go_num, by rw [HK.out, List.length_append]; rfl, by rw [HK.out]; exact H2⟩
        case measure => simp [intOf]; omega
      · rw [hh] at h16
        have H16 : Hid (Calls Try.prog 16 #[.slice b m d, .string s] wr fun e w' => e = .returned (.bool true) ∧ w' = wr) := h16
        have HK : Hid (keptS (ss.take (k + 1)) tt = keptS (ss.take k) tt) := by have := HSN.out; rw [hh] at this; rw [Hid]; simpa using this
        clear h16 hh HSN
        go_wp2_with fail
        refine H16.out.mono ?_
        rintro e w' ⟨rfl, hw'⟩
        rw [hw']
        clear hw' w'
        go_wp2
        go_roundw
        case rel => exact ⟨k + 1, by omega, by go_num, by rw [HK.out], by rw [HK.out]; exact HR⟩
        case measure => simp [intOf]; omega
    · have hke : k = n := by omega
      have HF : Hid (Without ss tt w (.returned (.slice (some ⟨w.heap.size, 0, none⟩) (keptS (ss.take k) tt).length n)) wr) := by
        have e : ss.take k = ss := List.take_of_length_le (by rw [HN.out]; omega)
        have h1 := HR.out
        rw [e] at h1 ⊢
        refine ⟨by rw [HN.out], ?_, h1.2⟩
        rw [HN.out]
        exact h1.1
      go_wp2
      go_ret
      exact HF.out
end Go.Proofs.Qxb6613913a
