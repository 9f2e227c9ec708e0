import Derived.Test.Qxb6613913aA
namespace Go.Proofs.Qxb6613913a
open Go.ChangeShapes Go.WideShapes Go.ChangeAt Go.RowKit

theorem info9 : (Try.prog.info? 9).map (fun i => (i.zero, i.size, i.bytes)) = some (some (.string ByteArray.empty), 1, 16) := by kernel_rfl

/-! ### addBytes -/
def SomeInt (e : Ending) : Prop := ∃ q, e = .returned (.int .i64 q)
theorem f5_none (a : Option Addr) (cap : Nat) (t : Int) (w : World) :
    Calls Try.prog 5 #[.slice a 0 cap, .int .i64 t] w fun e w' => SomeInt e ∧ w' = w := by
  go_enter Try.func5, Try.ntmps5
  go_wp2
  refine wp_loop_rounds 1 ?_
  rw [rounds_succ]
  go_wp2
  go_ret
  exact ⟨⟨_, rfl⟩, rfl⟩
set_option maxHeartbeats 400000 in
theorem f5_some (b off n cap : Nat) (t : Int) (ss : List ByteArray) (w : World) (hl : n ≤ 1048576) (hc : ∀ j, j < n → w.cell? ⟨b, off + j, none⟩ = some (.string (ss.getD j ByteArray.empty))) :
    Calls Try.prog 5 #[.slice (some ⟨b, off, none⟩) n cap, .int .i64 t] w fun e w' => SomeInt e ∧ w' = w := by
  have HC : Hid (∀ j, j < n → w.cell? ⟨b, off + j, none⟩ = some (.string (ss.getD j ByteArray.empty))) := hc
  clear hc
  go_enter Try.func5, Try.ntmps5
  go_wp2
  go_loop [1, 5] (fun v i => ∃ k : Nat, k ≤ n ∧ i = .int .i64 k ∧ ∃ u : Int, v = .int .i64 u) (fun _ i => n - (intOf i).toNat)
  case atStart => exact ⟨0, Nat.zero_le _, rfl, _, rfl⟩
  case round =>
    obtain ⟨k, hk, rfl, u, rfl⟩ := hrel
    by_cases hlt : k < n
    · obtain ⟨s, hcell⟩ : ∃ s, w.cell? ⟨b, off + k, none⟩ = some (.string s) := ⟨_, HC.out k hlt⟩
      go_wp2
      all_goals first
        | (go_ret; exact ⟨⟨_, rfl⟩, rfl⟩)
        | (go_round
           case rel => exact ⟨k + 1, by omega, by go_num, _, rfl⟩
           case measure => simp [intOf]; omega)
    · go_wp2
      go_ret
      exact ⟨⟨_, rfl⟩, rfl⟩
theorem f5_any (a : Option Addr) (n cap : Nat) (t : Int) (ss : List ByteArray) (w : World) (hn : ss.length = n) (hl : n ≤ 1048576) (h : Strs w a ss) :
    Calls Try.prog 5 #[.slice a n cap, .int .i64 t] w fun e w' => SomeInt e ∧ w' = w := by
  by_cases h0 : n = 0
  · subst h0
    exact f5_none a cap t w
  · obtain ⟨b, off, rfl, _, hc⟩ := h.at (by omega)
    exact f5_some b off n cap t ss w hl (fun j hj => hc j (by omega))

/-! ### zzBytes -/
/-- Whatever it answers: where it answers true, both lists are short. -/
def BytesDone (n m : Nat) (w : World) (e : Ending) (w' : World) : Prop := ∃ q, e = .returned (.bool q) ∧ w' = w ∧ (q = true → n ≤ 1048576 ∧ m ≤ 1048576)
theorem bytes_no (n m : Nat) (w : World) : BytesDone n m w (.returned (.bool false)) w := ⟨false, rfl, rfl, fun h => by cases h⟩
theorem bytes_any (n m : Nat) (q : Bool) (w : World) (hn : n ≤ 1048576) (hm : m ≤ 1048576) : BytesDone n m w (.returned (.bool q)) w := ⟨q, rfl, rfl, fun _ => ⟨hn, hm⟩⟩
theorem f4_long (key other shared : ByteArray) (a b : Option Addr) (n c m d : Nat) (w : World) (hl : (1048576 : Int) < (n : Int)) :
    Calls Try.prog 4 #[.string key, .slice a n c, .slice b m d, .string other, .string shared] w fun e w' => BytesDone n m w e w' := by
  go_enter Try.func4, Try.ntmps4
  go_wp2
  all_goals
    go_ret
    exact bytes_no _ _ _
set_option maxHeartbeats 4000000 in
theorem f4_some (key other shared : ByteArray) (a b : Option Addr) (n c m d : Nat) (ss tt : List ByteArray) (w : World) (hn : ss.length = n) (hm : tt.length = m) (hl : n ≤ 1048576) (hml : m ≤ 1048576) (ha : Strs w a ss) (hb : Strs w b tt) :
    Calls Try.prog 4 #[.string key, .slice a n c, .slice b m d, .string other, .string shared] w fun e w' => BytesDone n m w e w' := by
  have HA : Hid (Strs w a ss) := ha
  have HB : Hid (Strs w b tt) := hb
  have HN : Hid (ss.length = n) := hn
  have HM : Hid (tt.length = m) := hm
  have d1 : decide ((1048576 : Int) < (n : Int)) = false := decide_eq_false (by omega)
  have d2 : decide ((1048576 : Int) < (m : Int)) = false := decide_eq_false (by omega)
  clear ha hb hn hm
  go_enter Try.func4, Try.ntmps4
  go_wp2
  · go_ret
    exact bytes_no _ _ _
  · go_ret
    exact bytes_no _ _ _
  go_loop [11, 12] (fun v i => ∃ k : Nat, k ≤ n ∧ i = .int .i64 k ∧ ∃ u : Int, v = .int .i64 u) (fun _ i => n - (intOf i).toNat)
  case atStart => exact ⟨0, Nat.zero_le _, rfl, _, rfl⟩
  case round =>
    obtain ⟨k, hk, rfl, u, rfl⟩ := hrel
    by_cases hlt : k < n
    · obtain ⟨bb, off, e, _, hc⟩ := HA.out.at (by rw [HN.out]; omega)
      obtain ⟨s, hcell⟩ : ∃ s, w.cell? ⟨bb, off + k, none⟩ = some (.string s) := ⟨_, hc k (by rw [HN.out]; exact hlt)⟩
      clear hc HA HB
      subst e
      go_wp2
      all_goals first
        | (go_ret; exact bytes_no _ _ _)
        | (go_round
           case rel => exact ⟨k + 1, by omega, by go_num, _, rfl⟩
           case measure => simp [intOf]; omega)
    · clear HA
      go_wp2
      · go_ret
        exact bytes_no _ _ _
      go_loop [11, 13] (fun v i => ∃ k : Nat, k ≤ m ∧ i = .int .i64 k ∧ ∃ u : Int, v = .int .i64 u) (fun _ i => m - (intOf i).toNat)
      case atStart => exact ⟨0, Nat.zero_le _, rfl, _, rfl⟩
      case round =>
        obtain ⟨k2, hk2, rfl, u2, rfl⟩ := hrel
        by_cases hlt2 : k2 < m
        · obtain ⟨bb, off, e, _, hc⟩ := HB.out.at (by rw [HM.out]; omega)
          obtain ⟨s, hcell⟩ : ∃ s, w.cell? ⟨bb, off + k2, none⟩ = some (.string s) := ⟨_, hc k2 (by rw [HM.out]; exact hlt2)⟩
          clear hc HB
          subst e
          go_wp2
          all_goals first
            | (go_ret; exact bytes_no _ _ _)
            | (go_round
               case rel => exact ⟨k2 + 1, by omega, by go_num, _, rfl⟩
               case measure => simp [intOf]; omega)
        · clear HB
          go_wp2
          all_goals
            go_ret
            first
              | exact bytes_no _ _ _
              | exact bytes_any n m true w hl hml
theorem f4_long2 (key other shared : ByteArray) (a b : Option Addr) (n c m d : Nat) (ss : List ByteArray) (w : World) (hn : ss.length = n) (hl : n ≤ 1048576) (hml : (1048576 : Int) < (m : Int)) (ha : Strs w a ss) :
    Calls Try.prog 4 #[.string key, .slice a n c, .slice b m d, .string other, .string shared] w fun e w' => BytesDone n m w e w' := by
  have HA : Hid (Strs w a ss) := ha
  have HN : Hid (ss.length = n) := hn
  have d1 : decide ((1048576 : Int) < (n : Int)) = false := decide_eq_false (by omega)
  clear ha hn
  go_enter Try.func4, Try.ntmps4
  go_wp2
  · go_ret
    exact bytes_no _ _ _
  · go_ret
    exact bytes_no _ _ _
  go_loop [11, 12] (fun v i => ∃ k : Nat, k ≤ n ∧ i = .int .i64 k ∧ ∃ u : Int, v = .int .i64 u) (fun _ i => n - (intOf i).toNat)
  case atStart => exact ⟨0, Nat.zero_le _, rfl, _, rfl⟩
  case round =>
    obtain ⟨k, hk, rfl, u, rfl⟩ := hrel
    by_cases hlt : k < n
    · obtain ⟨bb, off, e, _, hc⟩ := HA.out.at (by rw [HN.out]; omega)
      obtain ⟨s, hcell⟩ : ∃ s, w.cell? ⟨bb, off + k, none⟩ = some (.string s) := ⟨_, hc k (by rw [HN.out]; exact hlt)⟩
      clear hc HA
      subst e
      go_wp2
      all_goals first
        | (go_ret; exact bytes_no _ _ _)
        | (go_round
           case rel => exact ⟨k + 1, by omega, by go_num, _, rfl⟩
           case measure => simp [intOf]; omega)
    · clear HA
      go_wp2
      go_ret
      exact bytes_no _ _ _
theorem f4_any (key other shared : ByteArray) (a b : Option Addr) (n c m d : Nat) (ss tt : List ByteArray) (w : World) (hn : ss.length = n) (hm : tt.length = m) (ha : Strs w a ss) (hb : Strs w b tt) :
    Calls Try.prog 4 #[.string key, .slice a n c, .slice b m d, .string other, .string shared] w fun e w' => BytesDone n m w e w' := by
  by_cases hl : n ≤ 1048576
  · by_cases hml : m ≤ 1048576
    · exact f4_some key other shared a b n c m d ss tt w hn hm hl hml ha hb
    · exact f4_long2 key other shared a b n c m d ss w hn hl (by omega) ha
  · exact f4_long key other shared a b n c m d w (by omega)

/-! ### cloneStrs -/
/-- The new row with its first k strings laid. -/
def halfA (ss : List ByteArray) (k : Nat) : Array Value := ((ss.take k).map Value.string ++ List.replicate (ss.length - k) (Value.string ByteArray.empty)).toArray
def rowA (ss : List ByteArray) : Array Value := (ss.map Value.string).toArray
theorem halfA_end (ss : List ByteArray) : halfA ss ss.length = rowA ss := by simp [halfA, rowA]
theorem half_at (ss : List ByteArray) (k : Nat) (hk : k < ss.length) : (halfA ss k)[k]? = some (.string ByteArray.empty) := by
  simp only [halfA, List.getElem?_toArray]
  rw [List.getElem?_append_right (by simp; omega)]
  simp only [List.length_map, List.length_take]
  rw [List.getElem?_replicate, if_pos (by omega)]
theorem half_step (ss : List ByteArray) (k : Nat) (hk : k < ss.length) : (halfA ss k).setIfInBounds k (.string (ss.getD k ByteArray.empty)) = halfA ss (k + 1) := by
  apply Array.ext'
  simp only [halfA, List.setIfInBounds_toArray]
  have h1 : ((ss.take k).map Value.string).length = k := by simp; omega
  rw [List.set_append_right _ _ (by omega), h1, Nat.sub_self]
  obtain ⟨m, hm⟩ : ∃ m, ss.length - k = m + 1 := ⟨ss.length - k - 1, by omega⟩
  rw [hm, show ss.length - (k + 1) = m by omega, List.replicate_succ, List.set_cons_zero, List.take_succ_eq_append_getElem hk]
  have e : ss.getD k ByteArray.empty = ss[k] := by simp [List.getD, hk]
  rw [e, List.map_append, List.append_assoc]
  rfl
theorem half_start (ss : List ByteArray) : madeCells #[.string ByteArray.empty] (ss.length * 1) = halfA ss 0 := by
  apply Array.ext'
  simp only [madeCells, halfA, Nat.mul_one]
  simp [List.map_const', Nat.mod_one]
theorem wpList_make_strs {w : World} {ops : Array Oper} {rest : List Oper} {o : Oper} {a : Act} {Q : Exit → Act → World → Prop} (hg : o.guard = none) (l c : Operand) (hop : o.op = Op.makeSlice 22 l c)
    (ss : List ByteArray) (n : Nat) (hn : ss.length = n) (hl : a.eval l = .int .i64 (n : Int)) (hc : a.eval c = .int .i64 (n : Int)) (hb : n ≤ 1048576)
    (h : wpList Try.prog ops Q rest (a.put o.dst (.slice (some ⟨w.heap.size, 0, none⟩) n n)) (w.alloc (.cells (halfA ss 0) 9))) : wpList Try.prog ops Q (o :: rest) a w := by
  subst hn
  obtain ⟨i0, hi, hz0, hz1, hz2⟩ := info_parts info9
  refine wpList_plain hg fun K hK => ?_
  have hr := run_make (P := Try.prog) w 22 9 i0 _ Try.underlying22 hi hz0 .i64 .i64 ss.length ss.length (by omega) (by omega) (by rw [hz2]; omega) (by omega)
  simp only [Int.toNat_natCast, hz1, Value.cells] at hr
  rw [half_start] at hr
  unfold Oper.wp
  simp only [execOp, hop, hl, hc, Sem.run_bind, hr, Result.andThen_ok]
  exact hK _ _ h
theorem f8_nil (w : World) : Calls Try.prog 8 #[.slice none 0 0] w fun e w' => e = .returned (.slice none 0 0) ∧ w' = w := by
  have hq := fun w => Lib.run_eql_slice_nil (P := Try.prog) w 22 9 none 0 0 0 0 Try.underlying22
  go_enter Try.func8, Try.ntmps8
  go_wp2
  go_ret
  exact ⟨rfl, rfl⟩
set_option maxHeartbeats 800000 in
theorem f8_empty (x : Addr) (cap : Nat) (w : World) : Calls Try.prog 8 #[.slice (some x) 0 cap] w fun e w' => e = .returned (.slice (some ⟨w.heap.size, 0, none⟩) 0 0) ∧ w' = w.alloc (.cells (halfA [] 0) 9) := by
  have hq := fun w => Lib.run_eql_slice_nil (P := Try.prog) w 22 9 (some x) 0 cap 0 0 Try.underlying22
  go_enter Try.func8, Try.ntmps8
  go_wp2_with (at_make; refine wpList_make_strs rfl _ _ rfl [] 0 rfl rfl rfl (by omega) ?_)
  go_wp2
  refine wp_loop_rounds 1 ?_
  rw [rounds_succ]
  go_wp2
  go_ret
  exact ⟨rfl, rfl⟩
set_option maxHeartbeats 800000 in
theorem f8_some (b off n cap : Nat) (ss : List ByteArray) (w : World) (hn : ss.length = n) (hl : n ≤ 1048576) (hbs : b < w.heap.size) (hc : ∀ j, j < n → w.cell? ⟨b, off + j, none⟩ = some (.string (ss.getD j ByteArray.empty))) :
    Calls Try.prog 8 #[.slice (some ⟨b, off, none⟩) n cap] w fun e w' => e = .returned (.slice (some ⟨w.heap.size, 0, none⟩) n n) ∧ w' = w.alloc (.cells (halfA ss n) 9) := by
  have hq := fun w => Lib.run_eql_slice_nil (P := Try.prog) w 22 9 (some ⟨b, off, none⟩) n cap 0 0 Try.underlying22
  have HC : Hid (∀ j, j < n → w.cell? ⟨b, off + j, none⟩ = some (.string (ss.getD j ByteArray.empty))) := hc
  have HN : Hid (ss.length = n) := hn
  clear hc hn
  go_enter Try.func8, Try.ntmps8
  go_wp2_with (at_make; refine wpList_make_strs rfl _ _ rfl ss n HN.out rfl rfl hl ?_)
  clear hq
  go_loopw [4] (fun i wr => ∃ k : Nat, k ≤ n ∧ i = .int .i64 k ∧ wr = w.alloc (.cells (halfA ss k) 9)) (fun i _ => n - (intOf i).toNat)
  case atStart => exact ⟨0, Nat.zero_le _, rfl, rfl⟩
  case round =>
    obtain ⟨k, hk, rfl, rfl⟩ := hrel
    by_cases hlt : k < n
    · have hcell := HC.out k hlt
      have hold := half_at ss k (by rw [HN.out]; exact hlt)
      have HST : Hid ((halfA ss k).setIfInBounds k (.string (ss.getD k ByteArray.empty)) = halfA ss (k + 1)) := half_step ss k (by rw [HN.out]; exact hlt)
      obtain ⟨c, hcd⟩ : ∃ c, c = ss.getD k ByteArray.empty := ⟨_, rfl⟩
      rw [← hcd] at hcell HST
      clear hcd
      go_wp2
      go_roundw
      case rel => exact ⟨k + 1, by omega, by go_num, by rw [← HST.out]⟩
      case measure => simp [intOf]; omega
    · have hke : k = n := by omega
      subst hke
      go_wp2
      go_ret
      exact ⟨rfl, rfl⟩
/-- What the clone leaves. -/
def Cloned (w : World) (ss : List ByteArray) (e : Ending) (w' : World) : Prop :=
  (e = .returned (.slice none 0 0) ∧ ss = [] ∧ w' = w) ∨ (e = .returned (.slice (some ⟨w.heap.size, 0, none⟩) ss.length ss.length) ∧ w' = w.alloc (.cells (rowA ss) 9))
theorem f8_any (a : Option Addr) (n cap : Nat) (ss : List ByteArray) (w : World) (hn : ss.length = n) (hl : n ≤ 1048576) (h0 : a = none → n = 0 ∧ cap = 0) (h : Strs w a ss) :
    Calls Try.prog 8 #[.slice a n cap] w fun e w' => Cloned w ss e w' := by
  cases a with
  | none =>
    obtain ⟨rfl, rfl⟩ := h0 rfl
    obtain rfl : ss = [] := List.eq_nil_of_length_eq_zero hn
    exact (f8_nil w).mono fun e w' ⟨h1, h2⟩ => .inl ⟨h1, rfl, h2⟩
  | some x =>
    by_cases hz : n = 0
    · subst hz
      obtain rfl : ss = [] := List.eq_nil_of_length_eq_zero hn
      exact (f8_empty x cap w).mono fun e w' ⟨h1, h2⟩ => .inr ⟨h1, h2.trans (by rw [show halfA [] 0 = rowA [] from halfA_end []])⟩
    · obtain ⟨b, off, e, hb, hc⟩ := h.at (by omega)
      cases e
      exact (f8_some b off n cap ss w hn hl hb (fun j hj => hc j (by omega))).mono fun e w' ⟨h1, h2⟩ => .inr ⟨h1.trans (by rw [hn]), h2.trans (by rw [← hn, halfA_end])⟩
end Go.Proofs.Qxb6613913a
